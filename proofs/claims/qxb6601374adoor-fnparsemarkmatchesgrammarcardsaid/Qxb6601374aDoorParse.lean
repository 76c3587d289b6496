import Derived.Test.Qxb6601374aDoorLibs
import Derived.Test.Qxb6601374aDoorShelf
import Derived.Lib.AtoiErrMem
import Derived.BigCall
namespace Go.Proofs.Qxb6601374aDoor
open Go.RowKit

theorem gES : Tryd.prog.globalNamed "strconv.ErrSyntax" = some 3 := by kernel_rfl
theorem gER : Tryd.prog.globalNamed "strconv.ErrRange" = some 4 := by kernel_rfl

/-- the two sentinels' variables hold each some value of an interface's type -/
def Sent (w : World) : Prop := 4 < w.heap.size ∧ ∃ ta pa tb pb, w.var? Tryd.prog "strconv.ErrSyntax" = some #[.iface ta pa] ∧ w.var? Tryd.prog "strconv.ErrRange" = some #[.iface tb pb]

theorem Sent.lt {w : World} (h : Sent w) : 4 < w.heap.size := h.1

theorem Sent.below {w w' : World} {B : Nat} (h : Sent w) (hb : Below B w w') (hB : 4 < B) : Sent w' := by
  obtain ⟨hlt, ta, pa, tb, pb, h1, h2⟩ := h
  exact ⟨Nat.lt_of_lt_of_le hlt hb.size, ta, pa, tb, pb, var?_below hb gES (by omega) h1, var?_below hb gER hB h2⟩

/-- what parseSlot hands back -/
def PslotPost (o : Option Nat) (w : World) (e : Ending) (w' : World) : Prop :=
  (∃ v : Nat, o = some v ∧ e = .returned (.tuple #[.int .i64 (v : Int), .bool true]) ∧ Below w.heap.size w w') ∨
  (∃ n : Int, o = none ∧ e = .returned (.tuple #[.int .i64 n, .bool false]) ∧ Below w.heap.size w w')

set_option maxHeartbeats 1000000 in
set_option maxRecDepth 100000 in
theorem parseSlot_any (s : ByteArray) (w : World) (hs : s.size ≤ 1048576) (hS : Sent w) :
    Calls Tryd.prog 37 #[.string s] w (PslotPost (slotL s.data.toList) w) := by
  rw [← goSlot_eq]
  obtain ⟨-, ta, pa, tb, pb, h1, h2⟩ := hS
  unfold goSlot
  rcases h : Lib.atoiAll s.data.toList with v | _ | _
  · simp only
    have hc := fun w => Tryd.strconv_Atoi_ok s (by omega) v h w
    clear h h1 h2
    by_cases hv0 : 0 ≤ v
    · by_cases hv1 : v < 16384
      · rw [if_pos ⟨hv0, hv1⟩]
        go_enter Tryd.func37, Tryd.ntmps37
        go_wp2_with (go_at_call 30; refine (hc _).mono ?_; rintro e w' ⟨rfl, hw⟩)
        go_ret2
        refine .inl ⟨v.toNat, rfl, ?_, ?_⟩
        · rw [show ((v.toNat : Nat) : Int) = v from by omega]; rfl
        · rcases hw with rfl | ⟨t, rfl⟩
          · exact Below.refl _ _
          · exact Lib.bytesWorld_below _ _ _
      · rw [if_neg (by omega)]
        have hd : decide (v < 16384) = false := decide_eq_false (by omega)
        go_enter Tryd.func37, Tryd.ntmps37
        go_wp2_with (go_at_call 30; refine (hc _).mono ?_; rintro e w' ⟨rfl, hw⟩)
        go_ret2
        refine .inr ⟨v, rfl, rfl, ?_⟩
        rcases hw with rfl | ⟨t, rfl⟩
        · exact Below.refl _ _
        · exact Lib.bytesWorld_below _ _ _
    · rw [if_neg (by omega)]
      go_enter Tryd.func37, Tryd.ntmps37
      go_wp2_with (go_at_call 30; refine (hc _).mono ?_; rintro e w' ⟨rfl, hw⟩)
      go_ret2
      refine .inr ⟨v, rfl, rfl, ?_⟩
      rcases hw with rfl | ⟨t, rfl⟩
      · exact Below.refl _ _
      · exact Lib.bytesWorld_below _ _ _
  · simp only
    have hc : Calls Tryd.prog 30 #[.string s] w fun e w' => ∃ N, e = .returned (.tuple #[.int .i64 0, .iface 98 (.pointer (some ⟨N, 0, none⟩))]) ∧ Below w.heap.size w w' :=
      (Any.strconv_Atoi_syntax_var Tryd.laysC172 s (by omega) h ta pa w h1).mono fun e w' ⟨N, h1, _, _, h4⟩ => ⟨N, h1, h4⟩
    clear h h1 h2
    go_enter Tryd.func37, Tryd.ntmps37
    go_wp2_with fail
    refine hc.mono ?_
    rintro e w1 ⟨N, rfl, hb⟩
    go_wp2
    go_ret2
    exact .inr ⟨_, rfl, rfl, hb⟩
  · simp only
    have hc : Calls Tryd.prog 30 #[.string s] w fun e w' => ∃ N, e = .returned (.tuple #[.int .i64 (Lib.atoiSat s.data.toList), .iface 98 (.pointer (some ⟨N, 0, none⟩))]) ∧ Below w.heap.size w w' :=
      (Any.strconv_Atoi_range_var Tryd.laysC172 s (by omega) h tb pb w h2).mono fun e w' ⟨N, h1, _, _, h4⟩ => ⟨N, h1, h4⟩
    clear h h1 h2
    go_enter Tryd.func37, Tryd.ntmps37
    go_wp2_with fail
    refine hc.mono ?_
    rintro e w1 ⟨N, rfl, hb⟩
    go_wp2
    go_ret2
    exact .inr ⟨_, rfl, rfl, hb⟩

end Go.Proofs.Qxb6601374aDoor
