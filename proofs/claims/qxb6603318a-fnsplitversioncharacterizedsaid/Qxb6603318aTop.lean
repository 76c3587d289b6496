import Derived.Test.Qxb6603318aSplit
namespace Go.Proofs.Qxb6603318a
open Go.RowKit

def ZzPost (s : ByteArray) (w : World) (e : Ending) (w' : World) : Prop :=
  ∃ (ep up rev : ByteArray) (sg : Int) (he hr : Bool), Good s ep up rev sg he hr ∧
    e = .returned (.tuple #[.string ep, .string up, .string rev, .int .u8 sg, .bool he, .bool hr]) ∧ Grown w w'

set_option maxHeartbeats 1000000 in
set_option maxRecDepth 100000 in
theorem zzSplit_any (s : ByteArray) (w : World) (hs : s.size ≤ 1048576) :
    Calls Try.prog 5 #[.string s] w (ZzPost s w) := by
  go_enter Try.func5, Try.ntmps5
  go_wp2_with fail
  refine (split_any s _ hs).mono ?_
  rintro e w1 ⟨ep, up, rev, sg, he, hr, hG, rfl, hg⟩
  have HG : Hid (Good s ep up rev sg he hr) := hG
  have HW : Hid (Grown w w1) := hg
  clear hG hg
  go_wp2
  go_quiet (fail)
  go_wp2
  refine bodyPost_ret (v := .tuple #[.string ep, .string up, .string rev, .int .u8 sg, .bool he, .bool hr]) (by simp [results, Try.results5, go_sem]) rfl ?_
  exact ⟨ep, up, rev, sg, he, hr, HG.out, rfl, Grown.drewN' (HW.out.alloc _ _) _⟩

theorem not_empty {a : ByteArray} (h : 0 < a.size) : a.toList.isEmpty = false := by
  cases e : a.toList.isEmpty
  · rfl
  · rw [empty_list e] at h; exact absurd h (by decide)

def TopPost (w : World) (e : Ending) (w' : World) : Prop := e = .returned (.bool true) ∧ Grown w w'

set_option maxHeartbeats 1000000 in
theorem top_large (s : ByteArray) (w : World) (h : 1048576 < s.size) :
    Calls Try.prog 3 #[.string s] w (TopPost w) := by
  go_enter Try.func3, Try.ntmps3
  go_wp2_with (first | (go_at_call 4; refine (zzBytes_no _ _ h).mono ?_; rintro e w' ⟨rfl, rfl⟩))
  go_ret
  exact ⟨rfl, Grown.refl _⟩

set_option maxHeartbeats 4000000 in
set_option maxRecDepth 100000 in
theorem top_small (s : ByteArray) (w : World) (hs : s.size ≤ 1048576) :
    Calls Try.prog 3 #[.string s] w (TopPost w) := by
  go_enter Try.func3, Try.ntmps3
  go_wp2_with (first | (go_at_call 4; refine (zzBytes_yes _ _ hs).mono ?_; rintro e w' ⟨rfl, rfl⟩))
  refine (zzSplit_any s _ hs).mono ?_
  rintro e w1 ⟨ep, up, rev, sg, he, hr, ⟨g1, g2, g3, g4, g5, g6, g7, g8, h1, h2, h3⟩, rfl, hg⟩
  have HW : Hid (Grown w' w1) := hg
  have HE : Hid (Lacks ep 58) := g3
  have HV : Hid (Lacks rev 45) := g4
  have HJ : Hid (joinB ep up rev sg he hr = s) := g8
  clear hg g3 g4 g8
  cases he
  · obtain rfl : sg = 0 := by
      rcases g1 with h | h | h
      · exact h
      · exact absurd (g2 (by omega)) (by decide)
      · exact absurd (g2 (by omega)) (by decide)
    obtain ⟨rfl, hS⟩ := g5 rfl
    have HS : Hid (Lacks s 58) := hS
    clear hS g1 g2 g5 g6
    cases hr
    · obtain ⟨rfl, hU⟩ := g7 rfl
      have HU : Hid (Lacks up 45) := hU
      clear hU g7
      have hj := fun w => join_any ⟨#[]⟩ up ⟨#[]⟩ 0 false false w (by decide) h2 (by decide) (by decide)
      unfold JoinPost at hj
      rw [HJ.out] at hj
      go_wp2_with fail
      refine (hasByte_no ⟨#[]⟩ 58 _ (by decide) HE.out).mono ?_
      rintro e w2 ⟨rfl, rfl⟩
      go_wp2_with fail
      refine (hasByte_no ⟨#[]⟩ 45 _ (by decide) HV.out).mono ?_
      rintro e w2 ⟨rfl, rfl⟩
      go_wp2_with fail
      refine (hasByte_no s 58 _ hs HS.out).mono ?_
      rintro e w2 ⟨rfl, rfl⟩
      go_wp2_with fail
      refine (hasByte_no up 45 _ h2 HU.out).mono ?_
      rintro e w2 ⟨rfl, rfl⟩
      go_wp2_with fail
      refine (hj _).mono ?_
      rintro e w2 ⟨rfl, rfl⟩
      go_wp2
      go_ret
      refine ⟨?_, HW.out⟩
      show Ending.returned (.bool _) = _
      simp
    · clear g7
      have hj := fun w => join_any ⟨#[]⟩ up rev 0 false true w (by decide) h2 h3 (by decide)
      unfold JoinPost at hj
      rw [HJ.out] at hj
      go_wp2_with fail
      refine (hasByte_no ⟨#[]⟩ 58 _ (by decide) HE.out).mono ?_
      rintro e w2 ⟨rfl, rfl⟩
      go_wp2_with fail
      refine (hasByte_no rev 45 _ h3 HV.out).mono ?_
      rintro e w2 ⟨rfl, rfl⟩
      go_wp2_with fail
      refine (hasByte_no s 58 _ hs HS.out).mono ?_
      rintro e w2 ⟨rfl, rfl⟩
      go_wp2_with fail
      refine (hj _).mono ?_
      rintro e w2 ⟨rfl, rfl⟩
      go_wp2
      go_ret
      refine ⟨?_, HW.out⟩
      show Ending.returned (.bool _) = _
      simp
  · clear g2 g5
    rcases g1 with rfl | rfl | rfl
    · rcases g6 rfl rfl with rfl | ⟨hpos, n1, n2⟩
      · clear g6
        cases hr
        · obtain ⟨rfl, hU⟩ := g7 rfl
          have HU : Hid (Lacks up 45) := hU
          clear hU g7
          have hj := fun w => join_any ⟨#[]⟩ up ⟨#[]⟩ 0 true false w (by decide) h2 (by decide) (by decide)
          unfold JoinPost at hj
          rw [HJ.out] at hj
          go_wp2_with fail
          refine (hasByte_no ⟨#[]⟩ 58 _ (by decide) HE.out).mono ?_
          rintro e w2 ⟨rfl, rfl⟩
          go_wp2_with fail
          refine (hasByte_no ⟨#[]⟩ 45 _ (by decide) HV.out).mono ?_
          rintro e w2 ⟨rfl, rfl⟩
          go_wp2_with fail
          refine (hasByte_no up 45 _ h2 HU.out).mono ?_
          rintro e w2 ⟨rfl, rfl⟩
          go_wp2_with fail
          refine (hj _).mono ?_
          rintro e w2 ⟨rfl, rfl⟩
          go_wp2
          go_ret
          refine ⟨?_, HW.out⟩
          show Ending.returned (.bool _) = _
          simp
        · clear g7
          have hj := fun w => join_any ⟨#[]⟩ up rev 0 true true w (by decide) h2 h3 (by decide)
          unfold JoinPost at hj
          rw [HJ.out] at hj
          go_wp2_with fail
          refine (hasByte_no ⟨#[]⟩ 58 _ (by decide) HE.out).mono ?_
          rintro e w2 ⟨rfl, rfl⟩
          go_wp2_with fail
          refine (hasByte_no rev 45 _ h3 HV.out).mono ?_
          rintro e w2 ⟨rfl, rfl⟩
          go_wp2_with fail
          refine (hj _).mono ?_
          rintro e w2 ⟨rfl, rfl⟩
          go_wp2
          go_ret
          refine ⟨?_, HW.out⟩
          show Ending.returned (.bool _) = _
          simp
      · have hem : ep.toList.isEmpty = false := not_empty hpos
        have hb1 : ((ep[0].toNat : Int) == 43) = false := beq_eq_false_iff_ne.2 n1
        have hb2 : ((ep[0].toNat : Int) == 45) = false := beq_eq_false_iff_ne.2 n2
        clear g6 n1 n2
        cases hr
        · obtain ⟨rfl, hU⟩ := g7 rfl
          have HU : Hid (Lacks up 45) := hU
          clear hU g7
          have hj := fun w => join_any ep up ⟨#[]⟩ 0 true false w h1 h2 (by decide) (by decide)
          unfold JoinPost at hj
          rw [HJ.out] at hj
          go_wp2_with fail
          refine (hasByte_no ep 58 _ h1 HE.out).mono ?_
          rintro e w2 ⟨rfl, rfl⟩
          go_wp2_with fail
          refine (hasByte_no ⟨#[]⟩ 45 _ (by decide) HV.out).mono ?_
          rintro e w2 ⟨rfl, rfl⟩
          go_wp2_with fail
          refine (hasByte_no up 45 _ h2 HU.out).mono ?_
          rintro e w2 ⟨rfl, rfl⟩
          go_wp2_with fail
          refine (hj _).mono ?_
          rintro e w2 ⟨rfl, rfl⟩
          go_wp2
          go_ret
          refine ⟨?_, HW.out⟩
          show Ending.returned (.bool _) = _
          simp
        · clear g7
          have hj := fun w => join_any ep up rev 0 true true w h1 h2 h3 (by decide)
          unfold JoinPost at hj
          rw [HJ.out] at hj
          go_wp2_with fail
          refine (hasByte_no ep 58 _ h1 HE.out).mono ?_
          rintro e w2 ⟨rfl, rfl⟩
          go_wp2_with fail
          refine (hasByte_no rev 45 _ h3 HV.out).mono ?_
          rintro e w2 ⟨rfl, rfl⟩
          go_wp2_with fail
          refine (hj _).mono ?_
          rintro e w2 ⟨rfl, rfl⟩
          go_wp2
          go_ret
          refine ⟨?_, HW.out⟩
          show Ending.returned (.bool _) = _
          simp
    · clear g6
      cases hr
      · obtain ⟨rfl, hU⟩ := g7 rfl
        have HU : Hid (Lacks up 45) := hU
        clear hU g7
        have hj := fun w => join_any ep up ⟨#[]⟩ 43 true false w h1 h2 (by decide) (by decide)
        unfold JoinPost at hj
        rw [HJ.out] at hj
        go_wp2_with fail
        refine (hasByte_no ep 58 _ h1 HE.out).mono ?_
        rintro e w2 ⟨rfl, rfl⟩
        go_wp2_with fail
        refine (hasByte_no ⟨#[]⟩ 45 _ (by decide) HV.out).mono ?_
        rintro e w2 ⟨rfl, rfl⟩
        go_wp2_with fail
        refine (hasByte_no up 45 _ h2 HU.out).mono ?_
        rintro e w2 ⟨rfl, rfl⟩
        go_wp2_with fail
        refine (hj _).mono ?_
        rintro e w2 ⟨rfl, rfl⟩
        go_wp2
        go_ret
        refine ⟨?_, HW.out⟩
        show Ending.returned (.bool _) = _
        simp
      · clear g7
        have hj := fun w => join_any ep up rev 43 true true w h1 h2 h3 (by decide)
        unfold JoinPost at hj
        rw [HJ.out] at hj
        go_wp2_with fail
        refine (hasByte_no ep 58 _ h1 HE.out).mono ?_
        rintro e w2 ⟨rfl, rfl⟩
        go_wp2_with fail
        refine (hasByte_no rev 45 _ h3 HV.out).mono ?_
        rintro e w2 ⟨rfl, rfl⟩
        go_wp2_with fail
        refine (hj _).mono ?_
        rintro e w2 ⟨rfl, rfl⟩
        go_wp2
        go_ret
        refine ⟨?_, HW.out⟩
        show Ending.returned (.bool _) = _
        simp
    · clear g6
      cases hr
      · obtain ⟨rfl, hU⟩ := g7 rfl
        have HU : Hid (Lacks up 45) := hU
        clear hU g7
        have hj := fun w => join_any ep up ⟨#[]⟩ 45 true false w h1 h2 (by decide) (by decide)
        unfold JoinPost at hj
        rw [HJ.out] at hj
        go_wp2_with fail
        refine (hasByte_no ep 58 _ h1 HE.out).mono ?_
        rintro e w2 ⟨rfl, rfl⟩
        go_wp2_with fail
        refine (hasByte_no ⟨#[]⟩ 45 _ (by decide) HV.out).mono ?_
        rintro e w2 ⟨rfl, rfl⟩
        go_wp2_with fail
        refine (hasByte_no up 45 _ h2 HU.out).mono ?_
        rintro e w2 ⟨rfl, rfl⟩
        go_wp2_with fail
        refine (hj _).mono ?_
        rintro e w2 ⟨rfl, rfl⟩
        go_wp2
        go_ret
        refine ⟨?_, HW.out⟩
        show Ending.returned (.bool _) = _
        simp
      · clear g7
        have hj := fun w => join_any ep up rev 45 true true w h1 h2 h3 (by decide)
        unfold JoinPost at hj
        rw [HJ.out] at hj
        go_wp2_with fail
        refine (hasByte_no ep 58 _ h1 HE.out).mono ?_
        rintro e w2 ⟨rfl, rfl⟩
        go_wp2_with fail
        refine (hasByte_no rev 45 _ h3 HV.out).mono ?_
        rintro e w2 ⟨rfl, rfl⟩
        go_wp2_with fail
        refine (hj _).mono ?_
        rintro e w2 ⟨rfl, rfl⟩
        go_wp2
        go_ret
        refine ⟨?_, HW.out⟩
        show Ending.returned (.bool _) = _
        simp

theorem top_all (s : ByteArray) (w : World) : Calls Try.prog 3 #[.string s] w (TopPost w) := by
  by_cases h : s.size ≤ 1048576
  · exact top_small s w h
  · exact top_large s w (by omega)

end Go.Proofs.Qxb6603318a
