import Derived.Test.Qxb6603146aIndex
import Derived.Deep.OwnRows
namespace Go.Proofs.Qxb6603146a
open Go.RowKit

theorem info5 : (Try.prog.info? 5).map (fun i => (i.zero, i.size, i.bytes)) = some (some (.int .u8 0), 1, 1) := by kernel_rfl

/-- the copy, its first k cells laid -/
def Laid (w wr : World) (n k : Nat) (f : Nat → Int) : Prop :=
  Below w.heap.size w wr ∧ w.heap.size < wr.heap.size ∧ (∀ i, i < k → wr.cell? ⟨w.heap.size, i, none⟩ = some (.int .u8 (f i))) ∧
  (∀ i, i < n → ∃ v, wr.cell? ⟨w.heap.size, i, none⟩ = some v) ∧ (∀ i, i < n → wr.frozen? ⟨w.heap.size, i, none⟩ = false)

def ClPost (n : Nat) (f : Nat → Int) (w : World) (e : Ending) (w' : World) : Prop :=
  e = .returned (.slice (some ⟨w.heap.size, 0, none⟩) n n) ∧ Txt w' w.heap.size n f ∧ Below w.heap.size w w' ∧ w.heap.size < w'.heap.size

theorem Laid.next {w wr : World} {n k : Nat} {f : Nat → Int} (h : Laid w wr n k f) (hk : k < n) : Laid w (wr.setCell ⟨w.heap.size, k, none⟩ (.int .u8 (f k))) n (k + 1) f := by
  obtain ⟨h1, h2, h3, h4, h5⟩ := h
  refine ⟨h1.setCell (Nat.le_refl _) _, by simpa [World.setCell] using h2, ?_, ?_, ?_⟩
  · intro i hi
    by_cases e : i = k
    · subst e
      obtain ⟨v, hv⟩ := h4 i hk
      exact World.cell?_setCell_same' wr _ _ (by rw [hv]; rfl)
    · exact (World.cell?_setCell_other (w := wr) (a := ⟨w.heap.size, k, none⟩) (b := ⟨w.heap.size, i, none⟩) (v := .int .u8 (f k)) (by intro e2; injection e2 with _ e3; exact e e3.symm)).trans (h3 i (by omega))
  · intro i hi
    obtain ⟨v, hv⟩ := h4 i hi
    exact cell?_setCell_some hv
  · intro i hi
    rw [World.frozen?_setCell]
    exact h5 i hi

theorem laid0 (w : World) (n : Nat) (f : Nat → Int) : Laid w (w.alloc (.cells (madeCells #[.int .u8 0] n) 5)) n 0 f := by
  refine ⟨(Below.refl _ _).alloc (Nat.le_refl _) _, by simp, fun i h => absurd h (Nat.not_lt_zero _), fun i hi => ?_, fun i hi => by simp⟩
  rw [World.cell?_alloc_new]
  have hs : (madeCells #[.int .u8 0] n).size = n := by simp [madeCells]
  exact ⟨_, Array.getElem?_eq_getElem (by rw [hs]; exact hi)⟩

set_option maxHeartbeats 1000000 in
set_option maxRecDepth 100000 in
theorem clone_any (xb xo n c : Nat) (f : Nat → Int) (w : World) (hn : n ≤ 1048576) (hx : xb < w.heap.size)
    (hsrc : ∀ i, i < n → w.cell? ⟨xb, xo + i, none⟩ = some (.int .u8 (f i))) :
    Calls Try.prog 9 #[.slice (some ⟨xb, xo, none⟩) n c] w (ClPost n f w) := by
  have hmk := run_make_row' (P := Try.prog) 22 5 (.int .u8 0) 1 Try.underlying22 info5 rfl .i64 .i64 n (by omega) (by omega)
  have hq : ∀ (w : World) (a : Option Addr) (n c n' c' : Nat), (binOp .eql 22 (.slice a n c) (.slice none n' c')).run Try.prog w = .ok (.bool a.isNone) w := fun w a n c n' c' => Lib.run_eql_slice_nil w _ _ a n c n' c' Try.underlying22
  go_enter Try.func9, Try.ntmps9
  go_wp2
  clear hmk hq
  have HSRC : Hid (∀ i, i < n → w.cell? ⟨xb, xo + i, none⟩ = some (.int .u8 (f i))) := hsrc
  clear hsrc
  go_loopw [4] (fun i wr => ∃ k : Nat, k ≤ n ∧ i = .int .i64 k ∧ Laid w wr n k f) (fun i _ => n - (intOf i).toNat)
  case atStart => exact ⟨0, by omega, rfl, laid0 w n f⟩
  case round =>
    obtain ⟨k, hk, rfl, hL⟩ := hrel
    have HL : Hid (Laid w wr n k f) := hL
    by_cases hlt : k < n
    · have hs1 : wr.cell? ⟨xb, xo + k, none⟩ = some (.int .u8 (f k)) := (hL.1.cell (p := ⟨xb, xo + k, none⟩) hx).trans (HSRC.out k hlt)
      obtain ⟨v, hs2⟩ := hL.2.2.2.1 k hlt
      have hs3 := hL.2.2.2.2 k hlt
      have HN : Hid _ := hL.next hlt
      clear hL HL
      go_wp2
      go_roundw
      case rel => exact ⟨k + 1, by omega, by go_num, HN⟩
      case measure => simp [intOf]; omega
    · obtain rfl : k = n := by omega
      clear hL
      go_wp2
      go_ret
      exact ⟨rfl, HL.out.2.2.1, HL.out.1, HL.out.2.1⟩

end Go.Proofs.Qxb6603146a
