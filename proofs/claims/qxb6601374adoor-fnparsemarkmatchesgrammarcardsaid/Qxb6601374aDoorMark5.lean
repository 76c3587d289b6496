import Derived.Test.Qxb6601374aDoorMark4
namespace Go.Proofs.Qxb6601374aDoor
open Go.RowKit

theorem parseMark_any (s : ByteArray) (w : World) (hS : Sent w) (hs : s.size ≤ 1048576) :
    Calls Tryd.prog 18 #[.string s] w (MarkPost (markOf s) w) := by
  obtain ⟨hb1, hb2⟩ := arrow_bounds s
  by_cases h0 : arrowAt s.data.toList < 1
  · rw [mark_low h0]
    exact pmark_low s w hs h0
  · obtain ⟨k, hk⟩ : ∃ k : Nat, arrowAt s.data.toList = (k : Int) := ⟨(arrowAt s.data.toList).toNat, by omega⟩
    have hlt := hb2 k hk
    have h1 : 1 ≤ k := by omega
    have hk1 : k - 1 < s.size := by omega
    by_cases hd : (s[k - 1].toNat : Int) = 45
    · rw [mark_rng hk h1 hk1 hd]
      have hdb : ((s[k - 1].toNat : Int) != 45) = false := by rw [bne_eq_false_iff_eq]; exact hd
      cases hr : rngL (s.extract 0 (k - 1)).data.toList with
      | none => exact pmark_rng s w hS hs k hk h1 hlt hk1 hdb hr
      | some ab =>
        obtain ⟨a, b⟩ := ab
        exact pmark_acc s w hS hs k a b hk h1 hlt hk1 hdb hr _ rfl (by simp; omega)
    · rw [mark_dash hk h1 hk1 hd]
      exact pmark_dash s w hs k hk h1 hlt hk1 (by rw [bne_iff_ne]; exact hd)

set_option maxHeartbeats 1000000 in
theorem zzMarkOf_any (a b : Int) (t : ByteArray) (f : Bool) (w : World) :
    Calls Tryd.prog 19 #[.agg #[.int .i64 a, .int .i64 b, .string t, .bool f]] w fun e w' => e = .returned (.agg #[.int .i64 a, .int .i64 b, .string t, .bool f]) ∧ Below w.heap.size w w' := by
  go_enter Tryd.func19, Tryd.ntmps19
  go_wp2
  exact bodyPost_ret (v := .agg #[.int .i64 a, .int .i64 b, .string t, .bool f]) (by simp [results, Tryd.results19, go_sem]) rfl ⟨rfl, ((Below.refl _ _).alloc (Nat.le_refl _) _).alloc (by simp) _⟩

/-- the mark as four cells, and whether it was taken -/
def m4 (o : Option (Nat × Nat × ByteArray × Bool)) : Int × Int × ByteArray × Bool × Bool :=
  match o with
  | none => (0, 0, ⟨#[]⟩, false, false)
  | some (a, b, t, f) => (a, b, t, f, true)

theorem markPost_m4 {o : Option (Nat × Nat × ByteArray × Bool)} {w w' : World} {e : Ending} (h : MarkPost o w e w') :
    e = .returned (.tuple #[.agg #[.int .i64 (m4 o).1, .int .i64 (m4 o).2.1, .string (m4 o).2.2.1, .bool (m4 o).2.2.2.1], .bool (m4 o).2.2.2.2]) ∧ Below w.heap.size w w' := by
  match o, h with
  | none, h => exact h
  | some (a, b, t, f), h => exact h

set_option maxHeartbeats 2000000 in
set_option maxRecDepth 100000 in
theorem zzParse_any (s : ByteArray) (w : World) (hS : Sent w) (hs : s.size ≤ 1048576) (a b : Int) (t : ByteArray) (f ok : Bool)
    (hm : m4 (markOf s) = (a, b, t, f, ok)) :
    Calls Tryd.prog 10 #[.string s] w fun e w' => e = .returned (.tuple #[.agg #[.int .i64 a, .int .i64 b, .string t, .bool f], .bool ok]) ∧ Below w.heap.size w w' := by
  have hc : ∀ w, Sent w → Calls Tryd.prog 18 #[.string s] w fun e w' => e = .returned (.tuple #[.agg #[.int .i64 a, .int .i64 b, .string t, .bool f], .bool ok]) ∧ Below w.heap.size w w' := by
    intro w hS
    refine (parseMark_any s w hS hs).mono fun e w' h => ?_
    have := markPost_m4 h
    rw [hm] at this
    exact this
  have HS : Hid (Sent w) := hS
  clear hm hS
  go_enter Tryd.func10, Tryd.ntmps10
  go_wp2_with fail
  refine (hc _ (HS.out.alloc _)).mono ?_
  rintro e w1 ⟨rfl, hb⟩
  go_wp2_with fail
  refine (zzMarkOf_any _ _ _ _ _).mono ?_
  rintro e w2 ⟨rfl, hb2⟩
  obtain ⟨⟨c0, c1, c2, c3⟩, ⟨f0, f1, f2, f3⟩, hz, hB⟩ := box4 (w := w) (w3 := w2) (by
    have hz := hb.size
    simp at hz hb
    exact (hb.trans ((Below.refl _ _).alloc hz _)).trans (hb2.mono (by simp; omega)))
  have HB : Hid (Below w.heap.size w w2) := hB
  clear hb hb2 hB hc
  go_wp2
  refine bodyPost_ret (v := .tuple #[.agg #[.int .i64 a, .int .i64 b, .string t, .bool f], .bool ok]) (by simp [results, Tryd.results10, go_sem, c0, c1, c2, c3]) rfl ⟨rfl, ?_⟩
  exact set4 HB.out _ _ _ _

end Go.Proofs.Qxb6601374aDoor
