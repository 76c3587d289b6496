import Derived.Test.Qxb6603318aParts
namespace Go.Proofs.Qxb6603318a
open Go.RowKit

def SplitPost (s : ByteArray) (w : World) (e : Ending) (w' : World) : Prop :=
  ∃ (ep up rev : ByteArray) (sg : Int) (he hr : Bool), Good s ep up rev sg he hr ∧
    e = .returned (.agg #[.string ep, .string up, .string rev, .int .u8 sg, .bool he, .bool hr]) ∧ Grown w w'

theorem Grown.drewN' {a b : World} (h : Grown a b) (n : Nat) : Grown a (b.drewN n) := by
  induction n generalizing b with
  | zero => exact h
  | succ n ih => exact ih h.drew

theorem empty_list {a : ByteArray} (h : a.toList.isEmpty = true) : a = ⟨#[]⟩ := by
  rw [Lib.toList_data] at h
  obtain ⟨⟨l⟩⟩ := a
  simp at h
  subst h
  rfl
theorem full_list {a : ByteArray} (h : a.toList.isEmpty = false) : 0 < a.size := by
  rw [Lib.toList_data] at h
  obtain ⟨⟨l⟩⟩ := a
  cases l with
  | nil => simp at h
  | cons x l => show 0 < (x :: l).length; simp


theorem cut_some (s : ByteArray) (w : World) (hs : s.size ≤ 1048576) (k : Nat) (hC : Colon s k) (ep up : ByteArray) (hep : s.extract 0 k = ep) (hup : s.extract (k + 1) s.size = up) :
    Calls Try.prog 9 #[.string s, .string ⟨#[58]⟩] w fun e w' => e = .returned (.tuple #[.string ep, .string up, .bool true]) ∧ ∃ n, w' = w.drewN n := by
  refine (cut9 s w hs).mono fun e w' h => ?_
  rcases h with ⟨h1, -⟩ | ⟨j, h1, h2, h3⟩
  · exact absurd hC.2.1 (h1 k hC.1)
  · have : j = k := by
      rcases Nat.lt_trichotomy j k with h | h | h
      · exact absurd h1.2.1 (hC.2.2 j h1.1 h)
      · exact h
      · exact absurd hC.2.1 (h1.2.2 k hC.1 h)
    subst this
    rw [← hep, ← hup]
    exact ⟨h2, h3⟩

set_option maxHeartbeats 2000000 in
set_option maxRecDepth 100000 in
theorem split_none (s : ByteArray) (w : World) (hs : s.size ≤ 1048576) (hc : ∀ w, Calls Try.prog 9 #[.string s, .string ⟨#[58]⟩] w fun e w' => e = .returned (.tuple #[.string s, .string ⟨#[]⟩, .bool false]) ∧ w' = w) (HH : Hid (Head s ⟨#[]⟩ 0 false s)) :
    Calls Try.prog 8 #[.string s] w (SplitPost s w) := by
  go_enter Try.func8, Try.ntmps8
  go_wp2_with fail
  refine (hc _).mono ?_
  rintro e w1 ⟨rfl, rfl⟩
  clear hc
  go_wp2_with fail
  refine (last10 s _ hs).mono ?_
  rintro e w1 (⟨h2, rfl, rfl⟩ | ⟨d, h2, rfl, rfl⟩)
  · have HD : Hid (Lacks s 45) := h2
    clear h2
    go_wp2
    refine bodyPost_ret (v := .agg #[.string ⟨#[]⟩, .string s, .string ⟨#[]⟩, .int .u8 0, .bool false, .bool false]) (by simp [results, Try.results8, go_sem]) rfl ?_
    exact ⟨_, _, _, _, _, _, good_of hs HH.out (tail_none HD.out), rfl, by repeat (first | exact Grown.refl _ | apply Grown.drew | apply Grown.drewN' | apply Grown.alloc)⟩
  · have hd : d < s.size := h2.1
    have HD : Hid (Dash s d) := h2
    have hwr : IntKind.i64.wrap ((d : Int) + 1) = (d : Int) + 1 := by rw [IntKind.wrap_i64]; omega
    have htn : ((d : Int) + 1).toNat = d + 1 := by omega
    have hz1 : (0 : Int) ≤ (d : Int) + 1 := by omega
    have hz2 : (d : Int) + 1 ≤ (s.size : Int) := by omega
    clear h2
    go_wp2
    go_region
    go_wp2
    refine bodyPost_ret (v := .agg #[.string ⟨#[]⟩, .string (s.extract 0 d), .string (s.extract (d + 1) s.size), .int .u8 0, .bool false, .bool true]) (by simp [results, Try.results8, go_sem]) rfl ?_
    exact ⟨_, _, _, _, _, _, good_of hs HH.out (tail_some HD.out), rfl, by repeat (first | exact Grown.refl _ | apply Grown.drew | apply Grown.drewN' | apply Grown.alloc)⟩

set_option maxHeartbeats 2000000 in
set_option maxRecDepth 100000 in
theorem split_plus (s ep up : ByteArray) (w : World) (hs : s.size ≤ 1048576) (hus : up.size ≤ 1048576)
    (hc : ∀ w, Calls Try.prog 9 #[.string s, .string ⟨#[58]⟩] w fun e w' => e = .returned (.tuple #[.string ep, .string up, .bool true]) ∧ ∃ n, w' = w.drewN n)
    (hes : ep.size ≤ 1048576) (hem : ep.toList.isEmpty = false) (hpos : 0 < ep.size) (hb1 : ((ep[0].toNat : Int) == 43) = true) (HH : Hid (Head s (ep.extract 1 ep.size) (ep[0].toNat : Int) true up)) :
    Calls Try.prog 8 #[.string s] w (SplitPost s w) := by
  have hds : ∀ (w : World) (q : Nat) (a : Addr) (v : Value), (w.drewN q).setCell a v = (w.setCell a v).drewN q := fun _ _ _ _ => rfl
  go_enter Try.func8, Try.ntmps8
  go_wp2_with fail
  refine (hc _).mono ?_
  rintro e w1 ⟨rfl, q, rfl⟩
  clear hc
  go_wp2_with fail
  go_region
  go_wp2_with fail
  refine (last10 up _ hus).mono ?_
  rintro e w1 (⟨h2, rfl, rfl⟩ | ⟨d, h2, rfl, rfl⟩)
  · have HD : Hid (Lacks up 45) := h2
    clear h2
    go_wp2
    refine bodyPost_ret (v := .agg #[.string (ep.extract 1 ep.size), .string up, .string ⟨#[]⟩, .int .u8 (ep[0].toNat : Int), .bool true, .bool false]) (by simp [results, Try.results8, go_sem]) rfl ?_
    exact ⟨_, _, _, _, _, _, good_of hs HH.out (tail_none HD.out), rfl, by repeat (first | exact Grown.refl _ | apply Grown.drew | apply Grown.drewN' | apply Grown.alloc)⟩
  · have hd : d < up.size := h2.1
    have HD : Hid (Dash up d) := h2
    have hwr : IntKind.i64.wrap ((d : Int) + 1) = (d : Int) + 1 := by rw [IntKind.wrap_i64]; omega
    have htn : ((d : Int) + 1).toNat = d + 1 := by omega
    have hz1 : (0 : Int) ≤ (d : Int) + 1 := by omega
    have hz2 : (d : Int) + 1 ≤ (up.size : Int) := by omega
    clear h2
    go_wp2
    go_region
    go_wp2
    refine bodyPost_ret (v := .agg #[.string (ep.extract 1 ep.size), .string (up.extract 0 d), .string (up.extract (d + 1) up.size), .int .u8 (ep[0].toNat : Int), .bool true, .bool true]) (by simp [results, Try.results8, go_sem]) rfl ?_
    exact ⟨_, _, _, _, _, _, good_of hs HH.out (tail_some HD.out), rfl, by repeat (first | exact Grown.refl _ | apply Grown.drew | apply Grown.drewN' | apply Grown.alloc)⟩

set_option maxHeartbeats 2000000 in
set_option maxRecDepth 100000 in
theorem split_minus (s ep up : ByteArray) (w : World) (hs : s.size ≤ 1048576) (hus : up.size ≤ 1048576)
    (hc : ∀ w, Calls Try.prog 9 #[.string s, .string ⟨#[58]⟩] w fun e w' => e = .returned (.tuple #[.string ep, .string up, .bool true]) ∧ ∃ n, w' = w.drewN n)
    (hes : ep.size ≤ 1048576) (hem : ep.toList.isEmpty = false) (hpos : 0 < ep.size) (hb1 : ((ep[0].toNat : Int) == 43) = false) (hb2 : ((ep[0].toNat : Int) == 45) = true) (HH : Hid (Head s (ep.extract 1 ep.size) (ep[0].toNat : Int) true up)) :
    Calls Try.prog 8 #[.string s] w (SplitPost s w) := by
  have hds : ∀ (w : World) (q : Nat) (a : Addr) (v : Value), (w.drewN q).setCell a v = (w.setCell a v).drewN q := fun _ _ _ _ => rfl
  go_enter Try.func8, Try.ntmps8
  go_wp2_with fail
  refine (hc _).mono ?_
  rintro e w1 ⟨rfl, q, rfl⟩
  clear hc
  go_wp2_with fail
  go_region
  go_wp2_with fail
  refine (last10 up _ hus).mono ?_
  rintro e w1 (⟨h2, rfl, rfl⟩ | ⟨d, h2, rfl, rfl⟩)
  · have HD : Hid (Lacks up 45) := h2
    clear h2
    go_wp2
    refine bodyPost_ret (v := .agg #[.string (ep.extract 1 ep.size), .string up, .string ⟨#[]⟩, .int .u8 (ep[0].toNat : Int), .bool true, .bool false]) (by simp [results, Try.results8, go_sem]) rfl ?_
    exact ⟨_, _, _, _, _, _, good_of hs HH.out (tail_none HD.out), rfl, by repeat (first | exact Grown.refl _ | apply Grown.drew | apply Grown.drewN' | apply Grown.alloc)⟩
  · have hd : d < up.size := h2.1
    have HD : Hid (Dash up d) := h2
    have hwr : IntKind.i64.wrap ((d : Int) + 1) = (d : Int) + 1 := by rw [IntKind.wrap_i64]; omega
    have htn : ((d : Int) + 1).toNat = d + 1 := by omega
    have hz1 : (0 : Int) ≤ (d : Int) + 1 := by omega
    have hz2 : (d : Int) + 1 ≤ (up.size : Int) := by omega
    clear h2
    go_wp2
    go_region
    go_wp2
    refine bodyPost_ret (v := .agg #[.string (ep.extract 1 ep.size), .string (up.extract 0 d), .string (up.extract (d + 1) up.size), .int .u8 (ep[0].toNat : Int), .bool true, .bool true]) (by simp [results, Try.results8, go_sem]) rfl ?_
    exact ⟨_, _, _, _, _, _, good_of hs HH.out (tail_some HD.out), rfl, by repeat (first | exact Grown.refl _ | apply Grown.drew | apply Grown.drewN' | apply Grown.alloc)⟩

set_option maxHeartbeats 2000000 in
set_option maxRecDepth 100000 in
theorem split_bare (s ep up : ByteArray) (w : World) (hs : s.size ≤ 1048576) (hus : up.size ≤ 1048576)
    (hc : ∀ w, Calls Try.prog 9 #[.string s, .string ⟨#[58]⟩] w fun e w' => e = .returned (.tuple #[.string ep, .string up, .bool true]) ∧ ∃ n, w' = w.drewN n)
    (hem : ep.toList.isEmpty = false) (hpos : 0 < ep.size) (hb1 : ((ep[0].toNat : Int) == 43) = false) (hb2 : ((ep[0].toNat : Int) == 45) = false) (HH : Hid (Head s ep 0 true up)) :
    Calls Try.prog 8 #[.string s] w (SplitPost s w) := by
  have hds : ∀ (w : World) (q : Nat) (a : Addr) (v : Value), (w.drewN q).setCell a v = (w.setCell a v).drewN q := fun _ _ _ _ => rfl
  go_enter Try.func8, Try.ntmps8
  go_wp2_with fail
  refine (hc _).mono ?_
  rintro e w1 ⟨rfl, q, rfl⟩
  clear hc
  go_wp2_with fail
  refine (last10 up _ hus).mono ?_
  rintro e w1 (⟨h2, rfl, rfl⟩ | ⟨d, h2, rfl, rfl⟩)
  · have HD : Hid (Lacks up 45) := h2
    clear h2
    go_wp2
    refine bodyPost_ret (v := .agg #[.string ep, .string up, .string ⟨#[]⟩, .int .u8 0, .bool true, .bool false]) (by simp [results, Try.results8, go_sem]) rfl ?_
    exact ⟨_, _, _, _, _, _, good_of hs HH.out (tail_none HD.out), rfl, by repeat (first | exact Grown.refl _ | apply Grown.drew | apply Grown.drewN' | apply Grown.alloc)⟩
  · have hd : d < up.size := h2.1
    have HD : Hid (Dash up d) := h2
    have hwr : IntKind.i64.wrap ((d : Int) + 1) = (d : Int) + 1 := by rw [IntKind.wrap_i64]; omega
    have htn : ((d : Int) + 1).toNat = d + 1 := by omega
    have hz1 : (0 : Int) ≤ (d : Int) + 1 := by omega
    have hz2 : (d : Int) + 1 ≤ (up.size : Int) := by omega
    clear h2
    go_wp2
    go_region
    go_wp2
    refine bodyPost_ret (v := .agg #[.string ep, .string (up.extract 0 d), .string (up.extract (d + 1) up.size), .int .u8 0, .bool true, .bool true]) (by simp [results, Try.results8, go_sem]) rfl ?_
    exact ⟨_, _, _, _, _, _, good_of hs HH.out (tail_some HD.out), rfl, by repeat (first | exact Grown.refl _ | apply Grown.drew | apply Grown.drewN' | apply Grown.alloc)⟩

set_option maxHeartbeats 2000000 in
set_option maxRecDepth 100000 in
theorem split_empty (s ep up : ByteArray) (w : World) (hs : s.size ≤ 1048576) (hus : up.size ≤ 1048576)
    (hc : ∀ w, Calls Try.prog 9 #[.string s, .string ⟨#[58]⟩] w fun e w' => e = .returned (.tuple #[.string ep, .string up, .bool true]) ∧ ∃ n, w' = w.drewN n)
    (hem : ep = ⟨#[]⟩) (HH : Hid (Head s ⟨#[]⟩ 0 true up)) :
    Calls Try.prog 8 #[.string s] w (SplitPost s w) := by
  subst hem
  have hds : ∀ (w : World) (q : Nat) (a : Addr) (v : Value), (w.drewN q).setCell a v = (w.setCell a v).drewN q := fun _ _ _ _ => rfl
  go_enter Try.func8, Try.ntmps8
  go_wp2_with fail
  refine (hc _).mono ?_
  rintro e w1 ⟨rfl, q, rfl⟩
  clear hc
  go_wp2_with fail
  refine (last10 up _ hus).mono ?_
  rintro e w1 (⟨h2, rfl, rfl⟩ | ⟨d, h2, rfl, rfl⟩)
  · have HD : Hid (Lacks up 45) := h2
    clear h2
    go_wp2
    refine bodyPost_ret (v := .agg #[.string ⟨#[]⟩, .string up, .string ⟨#[]⟩, .int .u8 0, .bool true, .bool false]) (by simp [results, Try.results8, go_sem]) rfl ?_
    exact ⟨_, _, _, _, _, _, good_of hs HH.out (tail_none HD.out), rfl, by repeat (first | exact Grown.refl _ | apply Grown.drew | apply Grown.drewN' | apply Grown.alloc)⟩
  · have hd : d < up.size := h2.1
    have HD : Hid (Dash up d) := h2
    have hwr : IntKind.i64.wrap ((d : Int) + 1) = (d : Int) + 1 := by rw [IntKind.wrap_i64]; omega
    have htn : ((d : Int) + 1).toNat = d + 1 := by omega
    have hz1 : (0 : Int) ≤ (d : Int) + 1 := by omega
    have hz2 : (d : Int) + 1 ≤ (up.size : Int) := by omega
    clear h2
    go_wp2
    go_region
    go_wp2
    refine bodyPost_ret (v := .agg #[.string ⟨#[]⟩, .string (up.extract 0 d), .string (up.extract (d + 1) up.size), .int .u8 0, .bool true, .bool true]) (by simp [results, Try.results8, go_sem]) rfl ?_
    exact ⟨_, _, _, _, _, _, good_of hs HH.out (tail_some HD.out), rfl, by repeat (first | exact Grown.refl _ | apply Grown.drew | apply Grown.drewN' | apply Grown.alloc)⟩

theorem split_any (s : ByteArray) (w : World) (hs : s.size ≤ 1048576) :
    Calls Try.prog 8 #[.string s] w (SplitPost s w) := by
  rcases colon_spec s with ⟨-, h1⟩ | ⟨k, -, hC⟩
  · refine split_none s w hs (fun w => (cut9 s w hs).mono fun e w' h => ?_) (head_none h1)
    rcases h with ⟨-, h2, h3⟩ | ⟨j, hj, -⟩
    · exact ⟨h2, h3⟩
    · exact absurd hj.2.1 (h1 j hj.1)
  · obtain ⟨ep, hep⟩ : ∃ ep, s.extract 0 k = ep := ⟨_, rfl⟩
    obtain ⟨up, hup⟩ : ∃ up, s.extract (k + 1) s.size = up := ⟨_, rfl⟩
    have hes : ep.size ≤ 1048576 := by rw [← hep, ext_size]; omega
    have hus : up.size ≤ 1048576 := by rw [← hup, ext_size]; omega
    have hc := fun w => cut_some s w hs k hC ep up hep hup
    cases hem : ep.toList.isEmpty
    · have hpos : 0 < ep.size := full_list hem
      by_cases h43 : (ep[0].toNat : Int) = 43
      · refine split_plus s ep up w hs hus hc hes hem hpos (beq_iff_eq.2 h43) ?_
        have := head_sign hC ep hep hpos _ rfl (.inl h43)
        rw [hup] at this
        exact this
      · by_cases h45 : (ep[0].toNat : Int) = 45
        · refine split_minus s ep up w hs hus hc hes hem hpos (beq_eq_false_iff_ne.2 h43) (beq_iff_eq.2 h45) ?_
          have := head_sign hC ep hep hpos _ rfl (.inr h45)
          rw [hup] at this
          exact this
        · refine split_bare s ep up w hs hus hc hem hpos (beq_eq_false_iff_ne.2 h43) (beq_eq_false_iff_ne.2 h45) ?_
          have := head_plain hC (.inr (by rw [hep]; exact ⟨hpos, h43, h45⟩))
          rw [hep, hup] at this
          exact this
    · have he := empty_list hem
      refine split_empty s ep up w hs hus hc he ?_
      have := head_plain hC (.inl (hep.trans he))
      rw [hep, hup, he] at this
      exact this

end Go.Proofs.Qxb6603318a
