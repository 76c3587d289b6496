import Derived.Test.Qxb6601374aDoorModel
namespace Go.Proofs.Qxb6601374aDoor
open Go.RowKit

theorem slotL_lt {l : List UInt8} {v : Nat} (h : slotL l = some v) : v < 16384 := by
  unfold slotL at h
  split at h
  · cases h
  · split at h
    · cases h
    · split at h
      · cases h
      · rename_i hn
        injection h with h
        subst h
        omega

/-- a range: a slot, or a slot, its first dash, a slot not before it -/
def rngL (l : List UInt8) : Option (Nat × Nat) :=
  if Lib.indexByte l 45 < 0 then (slotL l).map fun a => (a, a)
  else match slotL (l.take (Lib.indexByte l 45).toNat), slotL (l.drop ((Lib.indexByte l 45).toNat + 1)) with
    | some a, some b => if a ≤ b then some (a, b) else none
    | _, _ => none

/-- no byte below n is c -/
def Lacks (s : ByteArray) (c : UInt8) (n : Nat) : Prop := ∀ k (h : k < s.size), k < n → ¬ s[k] = c

theorem Lacks.succ {s : ByteArray} {c : UInt8} {n : Nat} (h : Lacks s c n) (hn : n < s.size) (hc : ¬ s[n] = c) : Lacks s c (n + 1) := by
  intro k hk hlt
  by_cases e : k = n
  · subst e; exact hc
  · exact h k hk (by omega)

theorem indexByte_first : ∀ (l : List UInt8) (c : UInt8) (k : Nat) (hk : k < l.length), l[k] = c → (∀ j (h : j < l.length), j < k → ¬ l[j] = c) → Lib.indexByte l c = (k : Int)
  | [], c, k, hk, _, _ => absurd hk (Nat.not_lt_zero _)
  | b :: l, c, 0, hk, h, _ => by
    simp only [List.getElem_cons_zero] at h
    unfold Lib.indexByte
    rw [if_pos (by simp [h])]
    rfl
  | b :: l, c, k + 1, hk, h, hn => by
    have hb : ¬ b = c := by have := hn 0 (by simp) (by omega); simpa using this
    simp only [List.getElem_cons_succ] at h
    have ih := indexByte_first l c k (by simpa using hk) h (fun j hj hlt => by have := hn (j + 1) (by simp; omega) (by omega); simpa using this)
    unfold Lib.indexByte
    rw [ih, if_neg (by simpa using hb), if_neg (by simp)]
    simp

theorem indexByte_none : ∀ (l : List UInt8) (c : UInt8), (∀ j (h : j < l.length), ¬ l[j] = c) → Lib.indexByte l c = -1
  | [], _, _ => rfl
  | b :: l, c, hn => by
    have hb : ¬ b = c := by have := hn 0 (by simp); simpa using this
    have ih := indexByte_none l c (fun j hj => by have := hn (j + 1) (by simp; omega); simpa using this)
    unfold Lib.indexByte
    rw [ih, if_neg (by simpa using hb)]
    rfl

theorem lacks_found {s : ByteArray} {c : UInt8} {k : Nat} (h : Lacks s c k) (hk : k < s.size) (hc : s[k] = c) : Lib.indexByte s.data.toList c = (k : Int) :=
  indexByte_first _ _ _ (by rw [← Lib.size_eq]; exact hk) hc (fun j hj hlt => h j (by rw [Lib.size_eq]; exact hj) hlt)

theorem lacks_none {s : ByteArray} {c : UInt8} (h : Lacks s c s.size) : Lib.indexByte s.data.toList c = -1 :=
  indexByte_none _ _ (fun j hj => h j (by rw [Lib.size_eq]; exact hj) (by rw [Lib.size_eq]; exact hj))

/-- what zzRangeModel hands back -/
def RngPost (o : Option (Nat × Nat)) (w : World) (e : Ending) (w' : World) : Prop :=
  e = .returned (.tuple #[.int .i64 (((o.getD (0, 0)).1 : Nat) : Int), .int .i64 (((o.getD (0, 0)).2 : Nat) : Int), .bool o.isSome]) ∧ w' = w

theorem rngPost_none {w : World} {o : Option (Nat × Nat)} (h : o = none) : RngPost o w (.returned (.tuple #[.int .i64 0, .int .i64 0, .bool false])) w := by subst h; exact ⟨rfl, rfl⟩
theorem rngPost_some {w : World} {o : Option (Nat × Nat)} {a b : Nat} (h : o = some (a, b)) : RngPost o w (.returned (.tuple #[.int .i64 (a : Int), .int .i64 (b : Int), .bool true])) w := by subst h; exact ⟨rfl, rfl⟩

theorem rngL_none {s : ByteArray} (h : Lacks s 45 s.size) : rngL s.data.toList = (slotL s.data.toList).map fun a => (a, a) := by
  unfold rngL
  rw [lacks_none h, if_pos (by decide)]

theorem rngL_found {s : ByteArray} {k : Nat} (h : Lacks s 45 k) (hk : k < s.size) (hc : s[k] = 45) :
    rngL s.data.toList = match slotL (s.extract 0 k).data.toList, slotL (s.extract (k + 1) s.size).data.toList with
    | some a, some b => if a ≤ b then some (a, b) else none
    | _, _ => none := by
  unfold rngL
  rw [lacks_found h hk hc, if_neg (by omega)]
  rw [Lib.extract_data, Lib.extract_data, List.drop_zero]
  rw [show ((k : Int)).toNat = k from by omega]
  rw [show List.take (s.size - (k + 1)) (List.drop (k + 1) s.data.toList) = List.drop (k + 1) s.data.toList from List.take_of_length_le (by rw [List.length_drop, ← Lib.size_eq]; exact Nat.le_refl _)]
  rfl

theorem byte_eq_of (c : UInt8) (h : (c.toNat : Int) = 45) : c = 45 := by
  apply UInt8.toNat_inj.1
  show c.toNat = 45
  omega

set_option maxHeartbeats 2000000 in
theorem zzRange_any (s : ByteArray) (w : World) (hs : s.size ≤ 1048576) :
    Calls Tryd.prog 21 #[.string s] w (RngPost (rngL s.data.toList) w) := by
  obtain ⟨R, hR⟩ : ∃ R, rngL s.data.toList = R := ⟨_, rfl⟩
  have HR : Hid (rngL s.data.toList = R) := hR
  rw [hR]
  clear hR
  go_enter Tryd.func21, Tryd.ntmps21
  go_wp2
  go_loop [5, 6] (fun d j => ∃ k : Nat, k ≤ s.size ∧ d = .int .i64 (-1) ∧ j = .int .i64 k ∧ Lacks s 45 k) (fun _ j => s.size - (intOf j).toNat)
  case atStart => exact ⟨0, by omega, rfl, rfl, fun _ _ h => absurd h (Nat.not_lt_zero _)⟩
  case round =>
    obtain ⟨k, hk, rfl, rfl, hL⟩ := hrel
    by_cases hlt : k < s.size
    · by_cases hc : (s[k].toNat : Int) = 45
      · have hb : ((s[k].toNat : Int) == 45) = true := beq_iff_eq.2 hc
        have hf := rngL_found hL hlt (byte_eq_of _ hc)
        rw [HR.out] at hf
        clear HR hL hc
        have hca := zzSlot_any (s.extract 0 k) w (by simp; omega)
        have hcb := zzSlot_any (s.extract (k + 1) s.size) w (by simp; omega)
        cases ha : slotL (s.extract 0 k).data.toList with
        | none =>
          rw [ha] at hf hca
          clear ha
          have HF : Hid (R = none) := hf
          clear hf
          cases hbb : slotL (s.extract (k + 1) s.size).data.toList with
          | none =>
            rw [hbb] at hcb
            clear hbb
            go_wp2_with fail
            refine hca.mono ?_
            rintro e w' ⟨rfl, rfl⟩
            go_wp2_with fail
            refine hcb.mono ?_
            rintro e w' ⟨rfl, rfl⟩
            go_wp2
            go_ret3
            exact rngPost_none HF.out
          | some b =>
            have hbl := slotL_lt hbb
            rw [hbb] at hcb
            clear hbb
            go_wp2_with fail
            refine hca.mono ?_
            rintro e w' ⟨rfl, rfl⟩
            go_wp2_with fail
            refine hcb.mono ?_
            rintro e w' ⟨rfl, rfl⟩
            go_wp2
            go_ret3
            exact rngPost_none HF.out
        | some a =>
          have hal := slotL_lt ha
          rw [ha] at hf hca
          clear ha
          cases hbb : slotL (s.extract (k + 1) s.size).data.toList with
          | none =>
            rw [hbb] at hcb hf
            clear hbb
            have HF : Hid (R = none) := hf
            clear hf
            go_wp2_with fail
            refine hca.mono ?_
            rintro e w' ⟨rfl, rfl⟩
            go_wp2_with fail
            refine hcb.mono ?_
            rintro e w' ⟨rfl, rfl⟩
            go_wp2
            go_ret3
            exact rngPost_none HF.out
          | some b =>
            have hbl := slotL_lt hbb
            rw [hbb] at hcb hf
            clear hbb
            simp only at hf
            by_cases hab : a ≤ b
            · rw [if_pos hab] at hf
              have HF : Hid (R = some (a, b)) := hf
              clear hf
              go_wp2_with fail
              refine hca.mono ?_
              rintro e w' ⟨rfl, rfl⟩
              go_wp2_with fail
              refine hcb.mono ?_
              rintro e w' ⟨rfl, rfl⟩
              go_wp2
              go_ret3
              exact rngPost_some HF.out
            · rw [if_neg hab] at hf
              have HF : Hid (R = none) := hf
              clear hf
              go_wp2_with fail
              refine hca.mono ?_
              rintro e w' ⟨rfl, rfl⟩
              go_wp2_with fail
              refine hcb.mono ?_
              rintro e w' ⟨rfl, rfl⟩
              go_wp2
              go_ret3
              exact rngPost_none HF.out
      · have hb : ((s[k].toNat : Int) == 45) = false := beq_eq_false_iff_ne.2 hc
        have hL2 := hL.succ hlt (fun e => hc (by rw [e]; rfl))
        clear hL hc
        go_wp2
        go_round
        case rel => exact ⟨k + 1, by omega, rfl, by go_num, hL2⟩
        case measure => simp [intOf]; omega
    · obtain rfl : k = s.size := by omega
      have hf := rngL_none hL
      rw [HR.out] at hf
      clear HR hL
      have hca := zzSlot_any s w hs
      cases ha : slotL s.data.toList with
      | none =>
        rw [ha] at hf hca
        clear ha
        have HF : Hid (R = none) := hf
        clear hf
        go_wp2_with fail
        refine hca.mono ?_
        rintro e w' ⟨rfl, rfl⟩
        go_wp2
        go_ret3
        exact rngPost_none HF.out
      | some a =>
        have hal := slotL_lt ha
        rw [ha] at hf hca
        clear ha
        have HF : Hid (R = some (a, a)) := hf
        clear hf
        go_wp2_with fail
        refine hca.mono ?_
        rintro e w' ⟨rfl, rfl⟩
        go_wp2
        go_ret3
        exact rngPost_some HF.out

end Go.Proofs.Qxb6601374aDoor
