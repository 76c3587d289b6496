import Derived.Test.Qxb6603146aAdvance
namespace Go.Proofs.Qxb6603146a
open Go.RowKit

def ZzPost (f : Nat → Int) (n p : Nat) (num : Int) (w : World) (e' : Ending) (w' : World) : Prop :=
  ∃ L C e s : Nat, IsFirst f n 10 p L ∧ IsFirst f n 13 p C ∧ StepIs f n p e s ∧
    e' = .returned (.tuple #[.int .i64 (p : Int), .int .i64 (e : Int), .int .i64 (s : Int), .bool true, .int .i64 (s : Int), .int .i64 (L : Int), .int .i64 (C : Int), .int .i64 (num + 1)]) ∧ Below w.heap.size w w'

theorem adv_any (g n p : Nat) (f : Nat → Int) (lf cr num : Int) (w : World) (hn : n ≤ 1048576) (hp : p < n) (hf : Bytes8 f n) (hg : g < w.heap.size) (hT : Txt w g n f)
    (hnum : 0 ≤ num ∧ num ≤ 1048576) (hlf : Stale f n 10 p lf) (hcr : Stale f n 13 p cr) :
    Calls Try.prog 26 #[.pointer (some ⟨w.heap.size, 0, none⟩)] (w.alloc (rd g n p lf cr num)) (AdvPost f g n p num w) := by
  rcases hlf with ⟨-, hlf⟩ | ⟨L, rfl, hL⟩
  · rcases hcr with ⟨-, hcr⟩ | ⟨C, rfl, hC⟩
    · exact adv_both g n p f lf cr num w hn hp hf hg hT hnum hlf hcr
    · exact adv_lf g n p f lf C num w hn hp hf hg hT hnum hlf hC
  · rcases hcr with ⟨-, hcr⟩ | ⟨C, rfl, hC⟩
    · exact adv_cr g n p f L cr num w hn hp hf hg hT hnum hL hcr
    · exact adv_none g n p f L C num w hn hp hf hg hT hnum hL hC

set_option maxHeartbeats 1000000 in
set_option maxRecDepth 100000 in
theorem zzAdv_any (g n p : Nat) (f : Nat → Int) (lf cr num : Int) (w : World) (hn : n ≤ 1048576) (hp : p < n) (hf : Bytes8 f n) (hg : g < w.heap.size) (hT : Txt w g n f)
    (hnum : 0 ≤ num ∧ num ≤ 1048576) (hlf : Stale f n 10 p lf) (hcr : Stale f n 13 p cr) :
    Calls Try.prog 15 #[.slice (some ⟨g, 0, none⟩) n n, .int .i64 (p : Int), .int .i64 lf, .int .i64 cr, .int .i64 num] w (ZzPost f n p num w) := by
  have hc := adv_any g n p f lf cr num w hn hp hf hg hT hnum hlf hcr
  clear hlf hcr hT hf
  go_enter Try.func15, Try.ntmps15
  go_wp2_with fail
  refine hc.mono ?_
  rintro e' w1 ⟨L, C, e, s, q, hL, hC, hS, rfl, rfl⟩
  have HX : Hid _ := And.intro hL (And.intro hC hS)
  clear hL hC hS hc
  unfold rd
  go_wp2
  go_quiet (fail)
  go_wp2
  refine bodyPost_ret (v := .tuple #[.int .i64 (p : Int), .int .i64 (e : Int), .int .i64 (s : Int), .bool true, .int .i64 (s : Int), .int .i64 (L : Int), .int .i64 (C : Int), .int .i64 (num + 1)]) (by simp [results, Try.results15, go_sem]) rfl ?_
  exact ⟨L, C, e, s, HX.out.1, HX.out.2.1, HX.out.2.2, rfl, below_drewN (below_drewN ((Below.refl _ _).alloc (Nat.le_refl _) _) _) _⟩

def ZzEnd (p lf cr num : Int) (w : World) (e' : Ending) (w' : World) : Prop :=
  e' = .returned (.tuple #[.int .i64 p, .int .i64 p, .int .i64 p, .bool false, .int .i64 p, .int .i64 lf, .int .i64 cr, .int .i64 num]) ∧ Below w.heap.size w w'

set_option maxHeartbeats 1000000 in
set_option maxRecDepth 100000 in
theorem adv_end (a : Option Addr) (n c : Nat) (lf cr num : Int) (w : World) :
    Calls Try.prog 26 #[.pointer (some ⟨w.heap.size, 0, none⟩)] (w.alloc (.cells #[.slice a n c, .int .i64 (n : Int), .int .i64 lf, .int .i64 cr, .int .i64 num] 39))
      fun e w' => e = .returned (.tuple #[.int .i64 (n : Int), .int .i64 (n : Int), .int .i64 (n : Int), .bool false]) ∧ w' = w.alloc (.cells #[.slice a n c, .int .i64 (n : Int), .int .i64 lf, .int .i64 cr, .int .i64 num] 39) := by
  go_enter Try.func26, Try.ntmps26
  go_wp2
  exact bodyPost_ret (v := .tuple #[.int .i64 (n : Int), .int .i64 (n : Int), .int .i64 (n : Int), .bool false]) (by simp [results, Try.results26, go_sem]) rfl ⟨rfl, rfl⟩

set_option maxHeartbeats 1000000 in
set_option maxRecDepth 100000 in
theorem zzAdv_end (a : Option Addr) (n c : Nat) (lf cr num : Int) (w : World) :
    Calls Try.prog 15 #[.slice a n c, .int .i64 (n : Int), .int .i64 lf, .int .i64 cr, .int .i64 num] w (ZzEnd n lf cr num w) := by
  have hc := adv_end a n c lf cr num w
  go_enter Try.func15, Try.ntmps15
  go_wp2_with fail
  refine hc.mono ?_
  rintro e' w1 ⟨rfl, rfl⟩
  clear hc
  go_wp2
  go_quiet (fail)
  go_wp2
  refine bodyPost_ret (v := .tuple #[.int .i64 (n : Int), .int .i64 (n : Int), .int .i64 (n : Int), .bool false, .int .i64 (n : Int), .int .i64 lf, .int .i64 cr, .int .i64 num]) (by simp [results, Try.results15, go_sem]) rfl ?_
  exact ⟨rfl, below_drewN ((Below.refl _ _).alloc (Nat.le_refl _) _) _⟩

end Go.Proofs.Qxb6603146a
