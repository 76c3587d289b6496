import Derived.Test.Qxb6603318aWalks
namespace Go.Proofs.Qxb6603318a
open Go.RowKit

set_option maxHeartbeats 400000 in
set_option maxRecDepth 100000 in
theorem indexByte14 (s : ByteArray) (c : Int) (w : World) :
    Calls Try.prog 14 #[.string s, .int .u8 c] w fun e w' => e = .returned (.int .i64 (Lib.indexByte s.data.toList c.toNat.toUInt8)) ∧ w' = w := by
  go_enter Try.func14, Try.ntmps14
  go_wp2
  rw [run_callFunc_extern Try.func18 (by kernel_rfl) (by kernel_rfl) (by kernel_rfl) (e := Extern.BytealgIndexByte.indexByte) (by kernel_rfl), Lib.run_indexByteString]
  simp only [Result.andThen]
  rw [Oper.upon_value]
  go_wp2
  go_ret
  exact ⟨rfl, rfl⟩

set_option maxHeartbeats 400000 in
theorem index13 (s : ByteArray) (w : World) :
    Calls Try.prog 13 #[.string s, .string ⟨#[58]⟩] w fun e w' => e = .returned (.int .i64 (Lib.indexByte s.data.toList 58)) ∧ w' = w := by
  cases hq : ([58] == s.toList)
  · go_enter Try.func13, Try.ntmps13
    go_wp2_with (go_at_call 14; refine (indexByte14 _ _ _).mono ?_; rintro e w' ⟨rfl, rfl⟩)
    go_ret
    exact ⟨rfl, rfl⟩
  · have e0 : s.data.toList = [58] := by rw [← Lib.toList_data]; exact (beq_iff_eq.1 hq).symm
    have e1 : Lib.indexByte s.data.toList 58 = 0 := by rw [e0]; rfl
    rw [e1]
    clear e0 e1
    go_enter Try.func13, Try.ntmps13
    go_wp2
    go_ret
    exact ⟨rfl, rfl⟩

theorem byte_list (t : ByteArray) (k : Nat) (h : k < t.size) : t[k] = t.data.toList[k]'(by rw [← Lib.size_eq]; exact h) := rfl

theorem indexByte_spec : ∀ (l : List UInt8) (c : UInt8), (Lib.indexByte l c = -1 ∧ ∀ j (h : j < l.length), ¬ l[j] = c) ∨ (∃ k : Nat, Lib.indexByte l c = (k : Int) ∧ ∃ h : k < l.length, l[k] = c ∧ ∀ j (hj : j < l.length), j < k → ¬ l[j] = c)
  | [], c => .inl ⟨rfl, fun j h => absurd h (Nat.not_lt_zero _)⟩
  | b :: l, c => by
    by_cases hb : b = c
    · refine .inr ⟨0, ?_, by simp, hb, fun j _ h => absurd h (Nat.not_lt_zero _)⟩
      unfold Lib.indexByte; rw [if_pos (by simp [hb])]; rfl
    · rcases indexByte_spec l c with ⟨h1, h2⟩ | ⟨k, h1, hk, h2, h3⟩
      · refine .inl ⟨?_, ?_⟩
        · unfold Lib.indexByte; rw [if_neg (by simpa using hb), h1]; rfl
        · intro j hj
          cases j with
          | zero => exact hb
          | succ j => simp only [List.getElem_cons_succ]; exact h2 j (by simpa using hj)
      · refine .inr ⟨k + 1, ?_, by simpa using hk, by simpa using h2, ?_⟩
        · unfold Lib.indexByte; rw [if_neg (by simpa using hb), h1, if_neg (by simp)]; simp
        · intro j hj hlt
          cases j with
          | zero => exact hb
          | succ j => simp only [List.getElem_cons_succ]; exact h3 j (by simpa using hj) (by omega)

/-- the first colon, or none -/
def Colon (s : ByteArray) (k : Nat) : Prop := ∃ h : k < s.size, (s[k].toNat : Int) = 58 ∧ ∀ j (hj : j < s.size), j < k → ¬ (s[j].toNat : Int) = 58

theorem byte_ne {x c : UInt8} (h : ¬ x = c) : ¬ (x.toNat : Int) = (c.toNat : Int) := fun e => h (UInt8.toNat_inj.1 (by omega))

theorem colon_spec (s : ByteArray) : (Lib.indexByte s.data.toList 58 = -1 ∧ Lacks s 58) ∨ (∃ k : Nat, Lib.indexByte s.data.toList 58 = (k : Int) ∧ Colon s k) := by
  rcases indexByte_spec s.data.toList 58 with ⟨h1, h2⟩ | ⟨k, h1, hk, h2, h3⟩
  · refine .inl ⟨h1, fun k hk => ?_⟩
    rw [byte_list s k hk]
    exact byte_ne (c := 58) (h2 k _)
  · have hk' : k < s.size := by rw [Lib.size_eq]; exact hk
    refine .inr ⟨k, h1, hk', ?_, fun j hj hlt => ?_⟩
    · rw [byte_list s k hk', h2]; rfl
    · rw [byte_list s j hj]; exact byte_ne (c := 58) (h3 j _ hlt)

/-- what strings.Cut hands back at the colon -/
def CutPost (s : ByteArray) (w : World) (e : Ending) (w' : World) : Prop :=
  (Lacks s 58 ∧ e = .returned (.tuple #[.string s, .string ⟨#[]⟩, .bool false]) ∧ w' = w) ∨
  (∃ k : Nat, Colon s k ∧ e = .returned (.tuple #[.string (s.extract 0 k), .string (s.extract (k + 1) s.size), .bool true]) ∧ ∃ n, w' = w.drewN n)

set_option maxHeartbeats 800000 in
theorem cut11 (s : ByteArray) (w : World) (hs : s.size ≤ 1048576) :
    Calls Try.prog 11 #[.string s, .string ⟨#[58]⟩] w (CutPost s w) := by
  rcases colon_spec s with ⟨h1, h2⟩ | ⟨k, h1, h2⟩
  · have hc := index13 s w
    rw [h1] at hc
    have HE : Hid _ := h2
    clear h1 h2
    go_enter Try.func11, Try.ntmps11
    go_wp2_with fail
    refine hc.mono ?_
    rintro e w' ⟨rfl, rfl⟩
    go_wp2
    go_ret3
    exact .inl ⟨HE.out, rfl, rfl⟩
  · have hlt : k < s.size := h2.1
    have hc := index13 s w
    rw [h1] at hc
    have HE : Hid _ := h2
    have hwr : IntKind.i64.wrap ((k : Int) + 1) = (k : Int) + 1 := by rw [IntKind.wrap_i64]; omega
    have htn : ((k : Int) + 1).toNat = k + 1 := by omega
    have hz1 : (0 : Int) ≤ (k : Int) + 1 := by omega
    have hz2 : (k : Int) + 1 ≤ (s.size : Int) := by omega
    clear h1 h2
    go_enter Try.func11, Try.ntmps11
    go_wp2_with fail
    refine hc.mono ?_
    rintro e w' ⟨rfl, rfl⟩
    go_wp2
    go_quiet (fail)
    go_wp2
    go_ret3
    exact .inr ⟨k, HE.out, rfl, _, rfl⟩

set_option maxHeartbeats 800000 in
theorem cut9 (s : ByteArray) (w : World) (hs : s.size ≤ 1048576) :
    Calls Try.prog 9 #[.string s, .string ⟨#[58]⟩] w (CutPost s w) := by
  go_enter Try.func9, Try.ntmps9
  go_wp2_with fail
  refine (cut11 s w hs).mono ?_
  rintro e w' (⟨h1, rfl, rfl⟩ | ⟨k, h1, rfl, n, rfl⟩)
  · have HE : Hid _ := h1
    clear h1
    go_wp2
    go_ret3
    exact .inl ⟨HE.out, rfl, rfl⟩
  · have HE : Hid _ := h1
    clear h1
    go_wp2
    go_ret3
    exact .inr ⟨k, HE.out, rfl, n, rfl⟩

/-- the last dash -/
def Dash (s : ByteArray) (h : Nat) : Prop := ∃ hh : h < s.size, (s[h].toNat : Int) = 45 ∧ ∀ j (hj : j < s.size), h < j → ¬ (s[j].toNat : Int) = 45

def LastPost (s : ByteArray) (w : World) (e : Ending) (w' : World) : Prop :=
  (Lacks s 45 ∧ e = .returned (.int .i64 (-1)) ∧ w' = w) ∨ (∃ h : Nat, Dash s h ∧ e = .returned (.int .i64 (h : Int)) ∧ w' = w)

/-- no dash from place k on -/
def NoDash (s : ByteArray) (k : Int) : Prop := ∀ j (hj : j < s.size), k < (j : Int) → ¬ (s[j].toNat : Int) = 45

set_option maxHeartbeats 800000 in
theorem last12 (s : ByteArray) (w : World) (hs : s.size ≤ 1048576) :
    Calls Try.prog 12 #[.string s, .int .u8 45] w (LastPost s w) := by
  go_enter Try.func12, Try.ntmps12
  go_wp2
  go_loop [5] (fun i => ∃ k : Int, -1 ≤ k ∧ k < (s.size : Int) ∧ i = .int .i64 k ∧ NoDash s k) (fun i => (intOf i + 1).toNat)
  case atStart => exact ⟨(s.size : Int) - 1, by omega, by omega, rfl, fun j hj h => by omega⟩
  case round =>
    obtain ⟨k, hk0, hk1, rfl, hD⟩ := hrel
    by_cases hpos : 0 ≤ k
    · obtain ⟨m, rfl⟩ : ∃ m : Nat, k = (m : Int) := ⟨k.toNat, by omega⟩
      have hm : m < s.size := by omega
      by_cases hc : (s[m].toNat : Int) = 45
      · have hb : ((s[m].toNat : Int) == 45) = true := beq_iff_eq.2 hc
        have HD : Hid (Dash s m) := ⟨hm, hc, fun j hj h => hD j hj (by omega)⟩
        clear hD hc
        go_wp2
        go_ret
        exact .inr ⟨m, HD.out, rfl, rfl⟩
      · have hb : ((s[m].toNat : Int) == 45) = false := beq_eq_false_iff_ne.2 hc
        have HD : Hid (NoDash s ((m : Int) - 1)) := by
          intro j hj h
          by_cases e : j = m
          · subst e; exact hc
          · exact hD j hj (by omega)
        clear hD hc
        go_wp2
        go_round
        case rel => exact ⟨(m : Int) - 1, by omega, by omega, rfl, HD⟩
        case measure => simp [intOf]
    · obtain rfl : k = -1 := by omega
      have HD : Hid (Lacks s 45) := fun j hj => hD j hj (by omega)
      clear hD
      go_wp2
      go_ret
      exact .inl ⟨HD.out, rfl, rfl⟩

set_option maxHeartbeats 800000 in
theorem last10 (s : ByteArray) (w : World) (hs : s.size ≤ 1048576) :
    Calls Try.prog 10 #[.string s, .int .u8 45] w (LastPost s w) := by
  go_enter Try.func10, Try.ntmps10
  go_wp2_with fail
  refine (last12 s w hs).mono ?_
  rintro e w' (⟨h1, rfl, rfl⟩ | ⟨h, h1, rfl, rfl⟩)
  · have HE : Hid _ := h1
    clear h1
    go_wp2
    go_ret
    exact .inl ⟨HE.out, rfl, rfl⟩
  · have HE : Hid _ := h1
    clear h1
    go_wp2
    go_ret
    exact .inr ⟨h, HE.out, rfl, rfl⟩

end Go.Proofs.Qxb6603318a
