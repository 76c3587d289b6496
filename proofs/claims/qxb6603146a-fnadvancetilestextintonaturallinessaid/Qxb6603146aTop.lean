import Derived.Test.Qxb6603146aZz
import Derived.Test.Qxb6603146aCount
import Derived.Test.Qxb6603146aClone
namespace Go.Proofs.Qxb6603146a
open Go.RowKit

def TopPost (w : World) (e : Ending) (w' : World) : Prop := e = .returned (.bool true) ∧ Below w.heap.size w w'

set_option maxHeartbeats 1000000 in
theorem clone_nil (w : World) :
    Calls Try.prog 9 #[.slice none 0 0] w fun e w' => e = .returned (.slice none 0 0) ∧ w' = w := by
  have hq : ∀ (w : World) (a : Option Addr) (n c n' c' : Nat), (binOp .eql 22 (.slice a n c) (.slice none n' c')).run Try.prog w = .ok (.bool a.isNone) w := fun w a n c n' c' => Lib.run_eql_slice_nil w _ _ a n c n' c' Try.underlying22
  go_enter Try.func9, Try.ntmps9
  go_wp2
  go_ret
  exact ⟨rfl, rfl⟩

set_option maxHeartbeats 1000000 in
set_option maxRecDepth 100000 in
theorem clone_zero (x : Addr) (c : Nat) (w : World) :
    Calls Try.prog 9 #[.slice (some x) 0 c] w fun e w' => e = .returned (.slice (some ⟨w.heap.size, 0, none⟩) 0 0) ∧ Below w.heap.size w w' := by
  have hmk := run_make_row' (P := Try.prog) 22 5 (.int .u8 0) 1 Try.underlying22 info5 rfl .i64 .i64 0 (by omega) (by omega)
  have hq : ∀ (w : World) (a : Option Addr) (n c n' c' : Nat), (binOp .eql 22 (.slice a n c) (.slice none n' c')).run Try.prog w = .ok (.bool a.isNone) w := fun w a n c n' c' => Lib.run_eql_slice_nil w _ _ a n c n' c' Try.underlying22
  have e0 : ((0 : Nat) : Int) = 0 := rfl
  rw [e0] at hmk
  go_enter Try.func9, Try.ntmps9
  go_wp2
  go_loop [4] (fun i => i = .int .i64 0) (fun _ => 0)
  case atStart => rfl
  case round =>
    subst hrel
    go_wp2
    go_ret
    exact ⟨rfl, (Below.refl _ _).alloc (Nat.le_refl _) _⟩

set_option maxHeartbeats 1000000 in
set_option maxRecDepth 100000 in
theorem top_large (a : Option Addr) (n c : Nat) (w : World) (h : 1048576 < n) (hm : n ≤ 9223372036854775807) :
    Calls Try.prog 6 #[.slice a n c] w (TopPost w) := by
  have hc := zzBytes_no a n c w h hm
  clear h hm
  go_enter Try.func6, Try.ntmps6
  go_wp2_with (first | (go_at_call 16; refine hc.mono ?_; rintro e w' ⟨rfl, rfl⟩))
  go_ret
  exact ⟨rfl, Below.refl _ _⟩

set_option maxHeartbeats 2000000 in
set_option maxRecDepth 100000 in
theorem top_empty (a a2 : Option Addr) (c : Nat) (w : World) (hcl : ∀ w, Calls Try.prog 9 #[.slice a 0 c] w fun e w' => e = .returned (.slice (a2.map fun _ => ⟨w.heap.size, 0, none⟩) 0 0) ∧ Below w.heap.size w w') :
    Calls Try.prog 6 #[.slice a 0 c] w (TopPost w) := by
  go_enter Try.func6, Try.ntmps6
  go_wp2_with (first | (go_at_call 16; refine (zzBytes_yes _ _ _ _ (by omega)).mono ?_; rintro e w' ⟨rfl, rfl⟩))
  refine (hcl _).mono ?_
  rintro e w1 ⟨rfl, hb⟩
  obtain ⟨a3, ha3⟩ : ∃ a3, (a2.map fun _ => (⟨w'.heap.size, 0, none⟩ : Addr)) = a3 := ⟨_, rfl⟩
  rw [ha3]
  clear ha3 hcl
  have HB : Hid (Below w'.heap.size w' w1) := hb
  clear hb
  go_wp2
  go_loopw [3, 4, 5, 6, 7, 8, 9] (fun p l c num prev cnt i wr => p = .int .i64 0 ∧ l = .int .i64 (-1) ∧ c = .int .i64 (-1) ∧ num = .int .i64 0 ∧ prev = .int .i64 0 ∧ cnt = .int .i64 0 ∧ i = .int .i64 0 ∧ wr = w1) (fun _ _ _ _ _ _ _ _ => 0)
  case atStart => exact ⟨rfl, rfl, rfl, rfl, rfl, rfl, rfl, rfl⟩
  case round =>
    obtain ⟨rfl, rfl, rfl, rfl, rfl, rfl, rfl, rfl⟩ := hrel
    go_wp2_with fail
    refine (zzAdv_end a3 0 0 (-1) (-1) 0 _).mono ?_
    rintro e w2 ⟨rfl, hb2⟩
    have HB2 : Hid (Below w'.heap.size w' w2) := HB.out.trans (hb2.mono HB.out.size)
    clear hb2
    go_wp2_with (go_at_call 17; refine (count_nil _ (fun _ => 0) _ _).mono ?_; rintro e w' ⟨rfl, rfl⟩)
    go_ret
    refine ⟨rfl, HB2.out⟩

/-- what stands at the head of each round -/
def Rel (f : Nat → Int) (w : World) (g n p cnt : Nat) (lf cr : Int) (wr : World) : Prop :=
  p ≤ n ∧ cnt ≤ p ∧ (p < n → Stale f n 10 p lf ∧ Stale f n 13 p cr ∧ cnt = cntTo f n p) ∧ (p = n → cnt = total f n) ∧ Txt wr g n f ∧ Below w.heap.size w wr ∧ g < wr.heap.size

theorem Rel.step {f : Nat → Int} {w : World} {g n p cnt : Nat} {lf cr : Int} {wr w2 : World} {L C e s : Nat} (h : Rel f w g n p cnt lf cr wr) (hp : p < n)
    (hL : IsFirst f n 10 p L) (hC : IsFirst f n 13 p C) (hS : StepIs f n p e s) (hb : Below wr.heap.size wr w2) : Rel f w g n s (cnt + 1) L C w2 := by
  obtain ⟨h1, h2, h3, h4, h5, h6, h7⟩ := h
  have hc := hS.count hp
  have hps := hS.2.2.2.1
  refine ⟨hS.2.2.1, by omega, fun hs => ⟨?_, ?_, ?_⟩, fun hs => ?_, h5.below hb h7, h6.trans (hb.mono h6.size), Nat.lt_of_lt_of_le h7 hb.size⟩
  · rcases hL.later (Nat.le_of_lt hps) with h | h
    · exact .inl ⟨by omega, by omega⟩
    · exact .inr ⟨L, rfl, h⟩
  · rcases hC.later (Nat.le_of_lt hps) with h | h
    · exact .inl ⟨by omega, by omega⟩
    · exact .inr ⟨C, rfl, h⟩
  · rw [hc.1 hs, (h3 hp).2.2]
  · rw [hc.2 hs, (h3 hp).2.2]

end Go.Proofs.Qxb6603146a
