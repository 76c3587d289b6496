import Derived.Test.Qxb6601098aRefAt2
namespace Go.Proofs.Qxb6601098a
open Go.RowKit

def ZzPost (n f : ByteArray) (d : Bool) (len : Int) (w : World) (e : Ending) (w' : World) : Prop :=
  e = .returned (.tuple #[.string n, .string f, .bool d, .int .i64 len, .bool true]) ∧ Grown w w'

theorem Grown.trans' {a b c : World} (h : Grown a b) (k : Grown b c) : Grown a c :=
  ⟨World.keptBut_trans h.1 k.1, fun x => (k.2.1 x).trans (h.2.1 x), Nat.le_trans h.2.2 k.2.2⟩

theorem Grown.drewN' {a b : World} (h : Grown a b) (n : Nat) : Grown a (b.drewN n) := by
  induction n generalizing b with
  | zero => exact h
  | succ n ih => exact ih h.drew

set_option maxHeartbeats 1000000 in
theorem zzRef (t n f : ByteArray) (d : Bool) (len : Int) (w : World) (hc : ∀ w, Calls Try.prog 21 #[.string t] w (RefPost n f d len w)) :
    Calls Try.prog 16 #[.string t] w (ZzPost n f d len w) := by
  have HC := hc
  clear hc
  go_enter Try.func16, Try.ntmps16
  go_wp2_with (go_at_call 21; refine (HC _).mono ?_; rintro e w1 ⟨rfl, hg⟩)
  go_quiet (fail)
  go_wp2
  refine bodyPost_ret (v := .tuple #[.string n, .string f, .bool d, .int .i64 len, .bool true]) (by simp [results, Try.results16, go_sem]) rfl ⟨rfl, ?_⟩
  exact Grown.drewN' (hg.alloc _ _) _

end Go.Proofs.Qxb6601098a
