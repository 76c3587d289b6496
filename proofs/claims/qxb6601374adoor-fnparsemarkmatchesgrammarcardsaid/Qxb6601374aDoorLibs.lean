import Derived.Test.Qxb6601374aDoorRange
namespace Go.Proofs.Qxb6601374aDoor
open Go.RowKit

set_option maxHeartbeats 400000 in
set_option maxRecDepth 100000 in
theorem indexByte63 (s : ByteArray) (c : Int) (w : World) :
    Calls Tryd.prog 63 #[.string s, .int .u8 c] w fun e w' => e = .returned (.int .i64 (Lib.indexByte s.data.toList c.toNat.toUInt8)) ∧ w' = w := by
  go_enter Tryd.func63, Tryd.ntmps63
  go_wp2
  rw [run_callFunc_extern Tryd.func74 (by kernel_rfl) (by kernel_rfl) (by kernel_rfl) (e := Extern.BytealgIndexByte.indexByte) (by kernel_rfl), Lib.run_indexByteString]
  simp only [Result.andThen]
  rw [Oper.upon_value]
  go_wp2
  go_ret
  exact ⟨rfl, rfl⟩

set_option maxHeartbeats 400000 in
theorem indexByte48 (s : ByteArray) (c : Int) (w : World) :
    Calls Tryd.prog 48 #[.string s, .int .u8 c] w fun e w' => e = .returned (.int .i64 (Lib.indexByte s.data.toList c.toNat.toUInt8)) ∧ w' = w := by
  go_enter Tryd.func48, Tryd.ntmps48
  go_wp2_with (go_at_call 63; refine (indexByte63 _ _ _).mono ?_; rintro e w' ⟨rfl, rfl⟩)
  go_ret
  exact ⟨rfl, rfl⟩

set_option maxHeartbeats 400000 in
theorem index54 (s : ByteArray) (w : World) :
    Calls Tryd.prog 54 #[.string s, .string ⟨#[45]⟩] w fun e w' => e = .returned (.int .i64 (Lib.indexByte s.data.toList 45)) ∧ w' = w := by
  cases hq : ([45] == s.toList)
  · go_enter Tryd.func54, Tryd.ntmps54
    go_wp2_with (go_at_call 63; refine (indexByte63 _ _ _).mono ?_; rintro e w' ⟨rfl, rfl⟩)
    go_ret
    exact ⟨rfl, rfl⟩
  · have e0 : s.data.toList = [45] := by rw [← Lib.toList_data]; exact (beq_iff_eq.1 hq).symm
    have e1 : Lib.indexByte s.data.toList 45 = 0 := by rw [e0]; rfl
    rw [e1]
    clear e0 e1
    go_enter Tryd.func54, Tryd.ntmps54
    go_wp2
    go_ret
    exact ⟨rfl, rfl⟩

/-- what strings.Cut hands back at the dash -/
def CutPost (s : ByteArray) (w : World) (e : Ending) (w' : World) : Prop :=
  (Lib.indexByte s.data.toList 45 = -1 ∧ e = .returned (.tuple #[.string s, .string ⟨#[]⟩, .bool false]) ∧ w' = w) ∨
  (∃ k : Nat, Lib.indexByte s.data.toList 45 = (k : Int) ∧ k < s.size ∧ e = .returned (.tuple #[.string (s.extract 0 k), .string (s.extract (k + 1) s.size), .bool true]) ∧ ∃ n, w' = w.drewN n)

theorem indexByte_lt : ∀ (l : List UInt8) (c : UInt8), Lib.indexByte l c < l.length
  | [], _ => by simp [Lib.indexByte]
  | b :: l, c => by
    have := indexByte_lt l c
    unfold Lib.indexByte
    rw [List.length_cons]
    split
    · omega
    · split <;> omega

set_option maxHeartbeats 800000 in
theorem cut43 (s : ByteArray) (w : World) (hs : s.size ≤ 1048576) :
    Calls Tryd.prog 43 #[.string s, .string ⟨#[45]⟩] w (CutPost s w) := by
  have h1 := Lib.indexByte_ge s.data.toList 45
  have h2 := indexByte_lt s.data.toList 45
  rw [← Lib.size_eq] at h2
  by_cases hn : Lib.indexByte s.data.toList 45 < 0
  · have e1 : Lib.indexByte s.data.toList 45 = -1 := by omega
    have hc := index54 s w
    rw [e1] at hc
    have HE : Hid (Lib.indexByte s.data.toList 45 = -1) := e1
    clear e1 h1 h2 hn
    go_enter Tryd.func43, Tryd.ntmps43
    go_wp2_with fail
    refine hc.mono ?_
    rintro e w' ⟨rfl, rfl⟩
    go_wp2
    go_ret3
    exact .inl ⟨HE.out, rfl, rfl⟩
  · obtain ⟨k, hk⟩ : ∃ k : Nat, Lib.indexByte s.data.toList 45 = (k : Int) := ⟨(Lib.indexByte s.data.toList 45).toNat, by omega⟩
    have hlt : k < s.size := by omega
    have hc := index54 s w
    rw [hk] at hc
    have HE : Hid (Lib.indexByte s.data.toList 45 = (k : Int)) := hk
    have hwr : IntKind.i64.wrap ((k : Int) + 1) = (k : Int) + 1 := by rw [IntKind.wrap_i64]; omega
    have htn : ((k : Int) + 1).toNat = k + 1 := by omega
    have hz1 : (0 : Int) ≤ (k : Int) + 1 := by omega
    have hz2 : (k : Int) + 1 ≤ (s.size : Int) := by omega
    clear hk h1 h2 hn
    go_enter Tryd.func43, Tryd.ntmps43
    go_wp2_with fail
    refine hc.mono ?_
    rintro e w' ⟨rfl, rfl⟩
    go_wp2
    go_quiet (fail)
    go_wp2
    go_ret3
    exact .inr ⟨k, HE.out, hlt, rfl, _, rfl⟩

set_option maxHeartbeats 800000 in
theorem cut28 (s : ByteArray) (w : World) (hs : s.size ≤ 1048576) :
    Calls Tryd.prog 28 #[.string s, .string ⟨#[45]⟩] w (CutPost s w) := by
  go_enter Tryd.func28, Tryd.ntmps28
  go_wp2_with fail
  refine (cut43 s w hs).mono ?_
  rintro e w' (⟨h1, rfl, rfl⟩ | ⟨k, h1, h2, rfl, n, rfl⟩)
  · have HE : Hid _ := h1
    clear h1
    go_wp2
    go_ret3
    exact .inl ⟨HE.out, rfl, rfl⟩
  · have HE : Hid _ := h1
    clear h1
    go_wp2
    go_ret3
    exact .inr ⟨k, HE.out, h2, rfl, n, rfl⟩

end Go.Proofs.Qxb6601374aDoor
