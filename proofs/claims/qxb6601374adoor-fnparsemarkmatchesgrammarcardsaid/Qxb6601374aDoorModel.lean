import Derived.Test.Qxb6601374aDoorProg
import Derived.Test.Qxb6601374aDoorPlain
import Derived.WalkKit
import Derived.ProofKit
import Derived.WalkLawsBesides
import Derived.WalkSpells
import Derived.Lib.Bytealg
import Derived.Lib.Strings
import Derived.BigQuiet
import Derived.Deep.QuietTactic
namespace Go.Proofs.Qxb6601374aDoor
open Go.RowKit

set_option maxHeartbeats 400000 in
theorem zzBytes_yes (a : ByteArray) (w : World) (h : a.size ≤ 1048576) :
    Calls Tryd.prog 16 #[.string a] w fun e w' => e = .returned (.bool true) ∧ w' = w := by
  go_enter Tryd.func16, Tryd.ntmps16
  go_wp2
  all_goals (go_ret; exact ⟨rfl, rfl⟩)

set_option maxHeartbeats 400000 in
theorem zzBytes_no (a : ByteArray) (w : World) (h : 1048576 < a.size) :
    Calls Tryd.prog 16 #[.string a] w fun e w' => e = .returned (.bool false) ∧ w' = w := by
  go_enter Tryd.func16, Tryd.ntmps16
  go_wp2
  all_goals (go_ret; exact ⟨rfl, rfl⟩)

theorem byte_list (t : ByteArray) (k : Nat) (h : k < t.size) : t[k] = t.data.toList[k]'(by rw [← Lib.size_eq]; exact h) := rfl
theorem drop_byte (t : ByteArray) (k : Nat) (h : k < t.size) : t.data.toList.drop k = t[k] :: t.data.toList.drop (k + 1) := by
  rw [byte_list t k h]; exact List.drop_eq_getElem_cons _
theorem drop_end (t : ByteArray) : t.data.toList.drop t.size = [] := by
  rw [Lib.size_eq]; exact List.drop_length

/-- what zzSlotModel hands back -/
def SlotPost (o : Option Nat) (w : World) (e : Ending) (w' : World) : Prop :=
  e = .returned (.tuple #[.int .i64 ((o.getD 0 : Nat) : Int), .bool o.isSome]) ∧ w' = w

theorem slotPost_none {w : World} {o : Option Nat} (h : o = none) : SlotPost o w (.returned (.tuple #[.int .i64 0, .bool false])) w := by subst h; exact ⟨rfl, rfl⟩
theorem slotPost_some {w : World} {o : Option Nat} {v : Nat} (h : o = some v) : SlotPost o w (.returned (.tuple #[.int .i64 (v : Int), .bool true])) w := by subst h; exact ⟨rfl, rfl⟩


/-- the run from byte k on, what stands so far being a -/
def RunIs (s : ByteArray) (R : Option Nat) (k : Nat) (a : Int) : Prop := slotRun a.toNat (s.data.toList.drop k) = R

theorem run_step (s : ByteArray) (k : Nat) (a : Int) (R : Option Nat) (hk : k < s.size) (h : RunIs s R k a) (h0 : 0 ≤ a) :
    (48 ≤ (s[k].toNat : Int) → (s[k].toNat : Int) ≤ 57 → a < 16384 → RunIs s R (k + 1) (a * 10 + ((s[k].toNat : Int) - 48))) ∧
    (48 ≤ (s[k].toNat : Int) → (s[k].toNat : Int) ≤ 57 → 16384 ≤ a → RunIs s R (k + 1) a) ∧
    ((s[k].toNat : Int) < 48 ∨ 57 < (s[k].toNat : Int) → R = none) := by
  unfold RunIs at *
  rw [drop_byte s k hk] at h
  simp only [slotRun] at h
  refine ⟨fun h1 h2 h3 => ?_, fun h1 h2 h3 => ?_, fun h1 => ?_⟩
  · rw [if_pos (by omega), if_pos (by omega)] at h
    rw [show (a * 10 + ((s[k].toNat : Int) - 48)).toNat = a.toNat * 10 + (s[k].toNat - 48) from by omega]
    exact h
  · rw [if_pos (by omega), if_neg (by omega)] at h
    exact h
  · rw [if_neg (by omega)] at h
    exact h.symm

theorem run_end {s : ByteArray} {R : Option Nat} {a : Int} (h : RunIs s R s.size a) : R = some a.toNat := by
  unfold RunIs at h
  rw [drop_end] at h
  exact h.symm

/-- the model's answer out of the run's -/
def outOf (neg : Bool) : Option Nat → Option Nat
  | none => none
  | some v => if 16384 ≤ v ∨ (neg = true ∧ ¬ v = 0) then none else some v

theorem outOf_ok {neg : Bool} {a : Int} (h : a < 16384) (hn : neg = false ∨ a = 0) : outOf neg (some a.toNat) = some a.toNat := by
  unfold outOf
  simp only
  rw [if_neg]
  rintro (h1 | ⟨h1, h2⟩)
  · omega
  · rcases hn with hn | hn
    · rw [hn] at h1; cases h1
    · subst hn; exact h2 rfl

theorem outOf_no {neg : Bool} {a : Int} (hn : 16384 ≤ a ∨ (neg = true ∧ 0 < a)) : outOf neg (some a.toNat) = none := by
  unfold outOf
  simp only
  rw [if_pos]
  rcases hn with hn | ⟨h1, h2⟩
  · exact .inl (by omega)
  · exact .inr ⟨h1, by omega⟩

theorem slotPost_some' {w : World} {o : Option Nat} {a : Int} (h0 : 0 ≤ a) (h : o = some a.toNat) : SlotPost o w (.returned (.tuple #[.int .i64 a, .bool true])) w := by
  have := slotPost_some (w := w) h
  rw [show ((a.toNat : Nat) : Int) = a from by omega] at this
  exact this

set_option maxHeartbeats 2000000 in
theorem zzSlot_plus (s : ByteArray) (w : World) (hs : s.size ≤ 1048576) (h1 : 1 < s.size) (hb1 : ((s[0].toNat : Int) == 43) = true) (hb2 : ((s[0].toNat : Int) == 45) = false) :
    Calls Tryd.prog 32 #[.string s] w (SlotPost (outOf false (slotRun 0 (s.data.toList.drop 1))) w) := by
  obtain ⟨R, hR⟩ : ∃ R, slotRun 0 (s.data.toList.drop 1) = R := ⟨_, rfl⟩
  rw [hR]
  have HR : RunIs s R 1 0 := hR
  clear hR
  go_enter Tryd.func32, Tryd.ntmps32
  go_wp2
  go_loop [4, 6, 7] (fun i v _ => ∃ (k : Nat) (a : Int), k ≤ s.size ∧ 0 ≤ a ∧ a ≤ 200000 ∧ i = .int .i64 k ∧ v = .int .i64 a ∧ RunIs s R k a) (fun i _ _ => s.size - (intOf i).toNat)
  case atStart => exact ⟨1, 0, by omega, by omega, by omega, rfl, rfl, HR⟩
  case round =>
    clear HR
    obtain ⟨k, a, hk, ha0, ha1, rfl, rfl, H⟩ := hrel
    by_cases hlt : k < s.size
    · obtain ⟨st1, st2, st3⟩ := run_step s k a R hlt H ha0
      clear H
      by_cases hd1 : 48 ≤ (s[k].toNat : Int)
      · by_cases hd2 : (s[k].toNat : Int) ≤ 57
        · by_cases hv : a < 16384
          · have H2 := st1 hd1 hd2 hv
            clear st1 st2 st3
            go_wp2
            go_round
            case rel => exact ⟨k + 1, _, by omega, by omega, by omega, by go_num, rfl, H2⟩
            case measure => simp [intOf]; omega
          · have H2 := st2 hd1 hd2 (by omega)
            clear st1 st2 st3
            go_wp2
            go_round
            case rel => exact ⟨k + 1, a, by omega, by omega, by omega, by go_num, rfl, H2⟩
            case measure => simp [intOf]; omega
        · have H2 : Hid (R = none) := st3 (.inr (by omega))
          clear st1 st2 st3
          go_wp2
          go_ret2
          refine slotPost_none ?_
          rw [H2.out]; rfl
      · have H2 : Hid (R = none) := st3 (.inl (by omega))
        clear st1 st2 st3
        go_wp2
        go_ret2
        refine slotPost_none ?_
        rw [H2.out]; rfl
    · obtain rfl : k = s.size := by omega
      have H2 : Hid (R = some a.toNat) := run_end H
      clear H
      by_cases hv : a < 16384
      · go_wp2
        go_ret2
        refine slotPost_some' ha0 ?_
        rw [H2.out]; exact outOf_ok hv (.inl rfl)
      · go_wp2
        go_ret2
        refine slotPost_none ?_
        rw [H2.out]; exact outOf_no (.inl (by omega))

set_option maxHeartbeats 2000000 in
theorem zzSlot_minus (s : ByteArray) (w : World) (hs : s.size ≤ 1048576) (h1 : 1 < s.size) (hb1 : ((s[0].toNat : Int) == 43) = false) (hb2 : ((s[0].toNat : Int) == 45) = true) :
    Calls Tryd.prog 32 #[.string s] w (SlotPost (outOf true (slotRun 0 (s.data.toList.drop 1))) w) := by
  obtain ⟨R, hR⟩ : ∃ R, slotRun 0 (s.data.toList.drop 1) = R := ⟨_, rfl⟩
  rw [hR]
  have HR : RunIs s R 1 0 := hR
  clear hR
  go_enter Tryd.func32, Tryd.ntmps32
  go_wp2
  go_loop [4, 6, 7] (fun i v _ => ∃ (k : Nat) (a : Int), k ≤ s.size ∧ 0 ≤ a ∧ a ≤ 200000 ∧ i = .int .i64 k ∧ v = .int .i64 a ∧ RunIs s R k a) (fun i _ _ => s.size - (intOf i).toNat)
  case atStart => exact ⟨1, 0, by omega, by omega, by omega, rfl, rfl, HR⟩
  case round =>
    clear HR
    obtain ⟨k, a, hk, ha0, ha1, rfl, rfl, H⟩ := hrel
    by_cases hlt : k < s.size
    · obtain ⟨st1, st2, st3⟩ := run_step s k a R hlt H ha0
      clear H
      by_cases hd1 : 48 ≤ (s[k].toNat : Int)
      · by_cases hd2 : (s[k].toNat : Int) ≤ 57
        · by_cases hv : a < 16384
          · have H2 := st1 hd1 hd2 hv
            clear st1 st2 st3
            go_wp2
            go_round
            case rel => exact ⟨k + 1, _, by omega, by omega, by omega, by go_num, rfl, H2⟩
            case measure => simp [intOf]; omega
          · have H2 := st2 hd1 hd2 (by omega)
            clear st1 st2 st3
            go_wp2
            go_round
            case rel => exact ⟨k + 1, a, by omega, by omega, by omega, by go_num, rfl, H2⟩
            case measure => simp [intOf]; omega
        · have H2 : Hid (R = none) := st3 (.inr (by omega))
          clear st1 st2 st3
          go_wp2
          go_ret2
          refine slotPost_none ?_
          rw [H2.out]; rfl
      · have H2 : Hid (R = none) := st3 (.inl (by omega))
        clear st1 st2 st3
        go_wp2
        go_ret2
        refine slotPost_none ?_
        rw [H2.out]; rfl
    · obtain rfl : k = s.size := by omega
      have H2 : Hid (R = some a.toNat) := run_end H
      clear H
      by_cases hv : a < 16384
      · by_cases hz : a = 0
        · subst hz
          go_wp2
          go_ret2
          refine slotPost_some' ha0 ?_
          rw [H2.out]; exact outOf_ok hv (.inr rfl)
        · have hz2 : (a != 0) = true := by rw [bne_iff_ne]; exact hz
          have hz3 : 0 < a := by omega
          clear hz
          go_wp2
          go_ret2
          refine slotPost_none ?_
          rw [H2.out]; exact outOf_no (.inr ⟨rfl, hz3⟩)
      · go_wp2
        go_ret2
        refine slotPost_none ?_
        rw [H2.out]; exact outOf_no (.inl (by omega))


set_option maxHeartbeats 2000000 in
theorem zzSlot_bare (s : ByteArray) (w : World) (hs : s.size ≤ 1048576) (h1 : 0 < s.size) (hb1 : ((s[0].toNat : Int) == 43) = false) (hb2 : ((s[0].toNat : Int) == 45) = false) :
    Calls Tryd.prog 32 #[.string s] w (SlotPost (outOf false (slotRun 0 (s.data.toList))) w) := by
  have hne : ¬ s = ByteArray.empty := by rintro rfl; exact absurd h1 (by decide)
  obtain ⟨R, hR⟩ : ∃ R, slotRun 0 (s.data.toList) = R := ⟨_, rfl⟩
  rw [hR]
  have HR : RunIs s R 0 0 := hR
  clear hR
  go_enter Tryd.func32, Tryd.ntmps32
  go_wp2
  go_loop [4, 6, 7] (fun i v _ => ∃ (k : Nat) (a : Int), k ≤ s.size ∧ 0 ≤ a ∧ a ≤ 200000 ∧ i = .int .i64 k ∧ v = .int .i64 a ∧ RunIs s R k a) (fun i _ _ => s.size - (intOf i).toNat)
  case atStart => exact ⟨0, 0, by omega, by omega, by omega, rfl, rfl, HR⟩
  case round =>
    clear HR
    obtain ⟨k, a, hk, ha0, ha1, rfl, rfl, H⟩ := hrel
    by_cases hlt : k < s.size
    · obtain ⟨st1, st2, st3⟩ := run_step s k a R hlt H ha0
      clear H
      by_cases hd1 : 48 ≤ (s[k].toNat : Int)
      · by_cases hd2 : (s[k].toNat : Int) ≤ 57
        · by_cases hv : a < 16384
          · have H2 := st1 hd1 hd2 hv
            clear st1 st2 st3
            go_wp2
            go_round
            case rel => exact ⟨k + 1, _, by omega, by omega, by omega, by go_num, rfl, H2⟩
            case measure => simp [intOf]; omega
          · have H2 := st2 hd1 hd2 (by omega)
            clear st1 st2 st3
            go_wp2
            go_round
            case rel => exact ⟨k + 1, a, by omega, by omega, by omega, by go_num, rfl, H2⟩
            case measure => simp [intOf]; omega
        · have H2 : Hid (R = none) := st3 (.inr (by omega))
          clear st1 st2 st3
          go_wp2
          go_ret2
          refine slotPost_none ?_
          rw [H2.out]; rfl
      · have H2 : Hid (R = none) := st3 (.inl (by omega))
        clear st1 st2 st3
        go_wp2
        go_ret2
        refine slotPost_none ?_
        rw [H2.out]; rfl
    · obtain rfl : k = s.size := by omega
      have H2 : Hid (R = some a.toNat) := run_end H
      clear H
      by_cases hv : a < 16384
      · go_wp2
        go_ret2
        refine slotPost_some' ha0 ?_
        rw [H2.out]; exact outOf_ok hv (.inl rfl)
      · go_wp2
        go_ret2
        refine slotPost_none ?_
        rw [H2.out]; exact outOf_no (.inl (by omega))


set_option maxHeartbeats 2000000 in
theorem zzSlot_nil (w : World) :
    Calls Tryd.prog 32 #[.string ⟨#[]⟩] w (SlotPost none w) := by
  go_enter Tryd.func32, Tryd.ntmps32
  go_wp2
  go_ret2
  exact slotPost_none rfl

theorem empty_of (s : ByteArray) (h : s.size = 0) : s = ⟨#[]⟩ := by
  have : s.data.toList = [] := List.length_eq_zero_iff.1 (by rw [← Lib.size_eq]; exact h)
  obtain ⟨⟨l⟩⟩ := s
  simp at this
  subst this
  rfl

set_option maxHeartbeats 2000000 in
theorem zzSlot_lone (s : ByteArray) (w : World) (h0 : 0 < s.size) (h1 : s.size ≤ 1) (hb : ((s[0].toNat : Int) == 43) = true ∨ ((s[0].toNat : Int) == 43) = false ∧ ((s[0].toNat : Int) == 45) = true) :
    Calls Tryd.prog 32 #[.string s] w (SlotPost none w) := by
  rcases hb with hb | ⟨hb, hb2⟩
  · go_enter Tryd.func32, Tryd.ntmps32
    go_wp2
    all_goals (go_ret2; exact slotPost_none rfl)
  · go_enter Tryd.func32, Tryd.ntmps32
    go_wp2
    go_ret2
    exact slotPost_none rfl

theorem slotL_of_nil (s : ByteArray) (h : s.size = 0) : slotL s.data.toList = none := by
  have : s.data.toList = [] := List.length_eq_zero_iff.1 (by rw [← Lib.size_eq]; exact h)
  rw [this]; rfl

theorem head_list (s : ByteArray) (h : 0 < s.size) : s.data.toList = s[0] :: s.data.toList.drop 1 := by
  have := drop_byte s 0 h
  simpa using this

theorem outOf_slot (s : ByteArray) (hm : ¬ slotMag s.data.toList = []) : slotL s.data.toList = outOf (slotNeg s.data.toList) (slotRun 0 (slotMag s.data.toList)) := by
  unfold slotL outOf
  rw [if_neg hm]
  cases slotRun 0 (slotMag s.data.toList) <;> rfl

theorem zzSlot_any (s : ByteArray) (w : World) (hs : s.size ≤ 1048576) :
    Calls Tryd.prog 32 #[.string s] w (SlotPost (slotL s.data.toList) w) := by
  by_cases h0 : 0 < s.size
  · have hl := head_list s h0
    have hneg : slotNeg s.data.toList = decide (s[0].toNat = 45) := by rw [hl]; rfl
    by_cases hp : s[0].toNat = 43 ∨ s[0].toNat = 45
    · have hm : slotMag s.data.toList = s.data.toList.drop 1 := by
        rw [hl]; simp only [slotMag]; rw [if_pos hp]; simp
      by_cases h1 : 1 < s.size
      · have hne : ¬ slotMag s.data.toList = [] := by
          rw [hm]; intro e
          have := congrArg List.length e
          rw [List.length_drop, ← Lib.size_eq] at this
          simp at this; omega
        rw [outOf_slot s hne, hm, hneg]
        by_cases hc : s[0].toNat = 43
        · rw [show decide (s[0].toNat = 45) = false from by simp; omega]
          exact zzSlot_plus s w hs h1 (beq_iff_eq.2 (by omega)) (beq_eq_false_iff_ne.2 (by omega))
        · rw [show decide (s[0].toNat = 45) = true from by simp; omega]
          exact zzSlot_minus s w hs h1 (beq_eq_false_iff_ne.2 (by omega)) (beq_iff_eq.2 (by omega))
      · have hnl : slotMag s.data.toList = [] := by
          rw [hm]; apply List.length_eq_zero_iff.1; rw [List.length_drop, ← Lib.size_eq]; omega
        rw [show slotL s.data.toList = none from by unfold slotL; rw [if_pos hnl]]
        refine zzSlot_lone s w h0 (by omega) ?_
        by_cases hc : s[0].toNat = 43
        · exact .inl (beq_iff_eq.2 (by omega))
        · exact .inr ⟨beq_eq_false_iff_ne.2 (by omega), beq_iff_eq.2 (by omega)⟩
    · have hm : slotMag s.data.toList = s.data.toList := by
        rw [hl]; simp only [slotMag]; rw [if_neg hp]
      have hne : ¬ slotMag s.data.toList = [] := by rw [hm, hl]; simp
      rw [outOf_slot s hne, hm, hneg, show decide (s[0].toNat = 45) = false from by simp; omega]
      exact zzSlot_bare s w hs h0 (beq_eq_false_iff_ne.2 (by omega)) (beq_eq_false_iff_ne.2 (by omega))
  · rw [slotL_of_nil s (by omega)]
    rw [empty_of s (by omega)]
    exact zzSlot_nil w

end Go.Proofs.Qxb6601374aDoor
