import Derived.Test.Qxb6601374aDoorMark2
import Derived.Test.Qxb6601374aDoorMark5
namespace Go.Proofs.Qxb6601374aDoor
open Go.RowKit

def TopPost (w : World) (e : Ending) (w' : World) : Prop := e = .returned (.bool true) ∧ Below w.heap.size w w'

set_option maxHeartbeats 1000000 in
theorem top_large (s : ByteArray) (w : World) (h : 1048576 < s.size) :
    Calls Tryd.prog 6 #[.string s] w (TopPost w) := by
  go_enter Tryd.func6, Tryd.ntmps6
  go_wp2_with (first | (go_at_call 16; refine (zzBytes_no _ _ h).mono ?_; rintro e w' ⟨rfl, rfl⟩))
  go_ret
  exact ⟨rfl, Below.refl _ _⟩

set_option maxHeartbeats 2000000 in
set_option maxRecDepth 100000 in
theorem top_small (s : ByteArray) (w : World) (hS : Sent w) (hs : s.size ≤ 1048576) :
    Calls Tryd.prog 6 #[.string s] w (TopPost w) := by
  obtain ⟨a, b, t, f, ok, hm⟩ : ∃ a b t f ok, m4 (markOf s) = (a, b, t, f, ok) := ⟨_, _, _, _, _, rfl⟩
  have h1 := fun w hS => zzParse_any s w hS hs a b t f ok hm
  have h2 : ∀ w, Calls Tryd.prog 17 #[.string s] w fun e w' => e = .returned (.tuple #[.agg #[.int .i64 a, .int .i64 b, .string t, .bool f], .bool ok]) ∧ Below w.heap.size w w' := by
    intro w
    refine (zzMark_any s w hs).mono fun e w' h => ?_
    have := markPost_m4 h
    rw [hm] at this
    exact this
  have HS : Hid (Sent w) := hS
  clear hm hS
  go_enter Tryd.func6, Tryd.ntmps6
  go_wp2_with (first | (go_at_call 16; refine (zzBytes_yes _ _ hs).mono ?_; rintro e w' ⟨rfl, rfl⟩))
  refine (h1 _ HS.out).mono ?_
  rintro e w1 ⟨rfl, hb⟩
  go_wp2_with fail
  refine (h2 _).mono ?_
  rintro e w2 ⟨rfl, hb2⟩
  obtain ⟨⟨c0, c1, c2, c3⟩, ⟨f0, f1, f2, f3⟩, hz, hB⟩ := box4 (w := w1) (w3 := w2) (by simpa using hb2)
  have HB : Hid (Below w'.heap.size w' w2) := hb.trans (hB.mono hb.size)
  clear hb hb2 hB h1 h2
  have hz1 : w'.heap.size ≤ w2.heap.size := HB.out.size
  cases ok
  · go_wp2
    go_ret
    exact ⟨rfl, HB.out.alloc hz1 _⟩
  · go_wp2
    go_ret
    exact ⟨rfl, HB.out.alloc hz1 _⟩

theorem top_all (s : ByteArray) (w : World) (hS : Sent w) : Calls Tryd.prog 6 #[.string s] w (TopPost w) := by
  by_cases h : s.size ≤ 1048576
  · exact top_small s w hS h
  · exact top_large s w (by omega)

end Go.Proofs.Qxb6601374aDoor
