import Derived.Test.Qxb6601374aDoorMark3
namespace Go.Proofs.Qxb6601374aDoor
open Go.RowKit

/-- a result's box of four cells, laid ahead of the calls, behind them -/
theorem box4 {T : TypeId} {w w3 : World} {x y z u : Value} (hall : Below (w.heap.size + 1) (w.alloc (.cells #[x, y, z, u] T)) w3) :
    (w3.cell? ⟨w.heap.size, 0, none⟩ = some x ∧ w3.cell? ⟨w.heap.size, 1, none⟩ = some y ∧ w3.cell? ⟨w.heap.size, 2, none⟩ = some z ∧ w3.cell? ⟨w.heap.size, 3, none⟩ = some u) ∧
    (w3.frozen? ⟨w.heap.size, 0, none⟩ = false ∧ w3.frozen? ⟨w.heap.size, 1, none⟩ = false ∧ w3.frozen? ⟨w.heap.size, 2, none⟩ = false ∧ w3.frozen? ⟨w.heap.size, 3, none⟩ = false) ∧ w.heap.size < w3.heap.size ∧ Below w.heap.size w w3 := by
  obtain ⟨hc, hf⟩ := bcell hall
  have hz := hall.size
  refine ⟨⟨?_, ?_, ?_, ?_⟩, ⟨?_, ?_, ?_, ?_⟩, ?_, ?_⟩
  · rw [hc _ _ (by omega)]; simp
  · rw [hc _ _ (by omega)]; simp
  · rw [hc _ _ (by omega)]; simp
  · rw [hc _ _ (by omega)]; simp
  · rw [hf _ _ (by omega)]; simp
  · rw [hf _ _ (by omega)]; simp
  · rw [hf _ _ (by omega)]; simp
  · rw [hf _ _ (by omega)]; simp
  · simp at hz; omega
  · exact ((Below.refl _ _).alloc (Nat.le_refl _) _).trans (hall.mono (by omega))

theorem arrow_bounds (s : ByteArray) : -1 ≤ arrowAt s.data.toList ∧ (∀ k : Nat, arrowAt s.data.toList = (k : Int) → k < s.size) := by
  refine ⟨Lib.indexAny_ge _ _, ?_⟩
  have : ∀ l : List UInt8, Lib.indexAny l [60, 62] < l.length := by
    intro l
    induction l with
    | nil => simp [Lib.indexAny]
    | cons b l ih =>
      unfold Lib.indexAny
      rw [List.length_cons]
      split
      · omega
      · split <;> omega
  intro k hk
  have h := this s.data.toList
  rw [← Lib.size_eq] at h
  unfold arrowAt at hk
  omega

/-- what parseMark hands back -/
def PmarkPost (o : Option (Nat × Nat × ByteArray × Bool)) (w : World) (e : Ending) (w' : World) : Prop := MarkPost o w e w'

set_option maxHeartbeats 4000000 in
set_option maxRecDepth 100000 in
theorem pmark_low (s : ByteArray) (w : World) (hs : s.size ≤ 1048576) (h : arrowAt s.data.toList < 1) :
    Calls Tryd.prog 18 #[.string s] w (PmarkPost none w) := by
  go_enter Tryd.func18, Tryd.ntmps18
  go_wp2_with fail
  refine (indexAny_any s _ hs).mono ?_
  rintro e w1 ⟨rfl, hb⟩
  obtain ⟨⟨c0, c1, c2, c3⟩, ⟨f0, f1, f2, f3⟩, hz, hB⟩ := box4 (w := w) (by simpa using hb)
  have HB : Hid _ := hB
  clear hb hB
  go_wp2
  refine bodyPost_ret (v := .tuple #[.agg #[.int .i64 0, .int .i64 0, .string ⟨#[]⟩, .bool false], .bool false]) (by simp [results, Tryd.results18, go_sem, c0, c1, c2, c3]) rfl ⟨rfl, ?_⟩
  exact (((HB.out.setCell (Nat.le_refl _) _).setCell (Nat.le_refl _) _).setCell (Nat.le_refl _) _).setCell (Nat.le_refl _) _

/-- strings.IndexAny, its place told -/
theorem any_at (s : ByteArray) (w : World) (hs : s.size ≤ 1048576) (k : Nat) (h : arrowAt s.data.toList = (k : Int)) :
    Calls Tryd.prog 22 #[.string s, .string ⟨#[60, 62]⟩] w fun e w' => e = .returned (.int .i64 (k : Int)) ∧ Below w.heap.size w w' := by
  have := indexAny_any s w hs
  unfold AnyPost at this
  rw [h] at this
  exact this

set_option maxHeartbeats 4000000 in
set_option maxRecDepth 100000 in
theorem pmark_dash (s : ByteArray) (w : World) (hs : s.size ≤ 1048576) (k : Nat) (h : arrowAt s.data.toList = (k : Int)) (h1 : 1 ≤ k) (hk : k < s.size) (hk1 : k - 1 < s.size) (hd : ((s[k - 1].toNat : Int) != 45) = true) :
    Calls Tryd.prog 18 #[.string s] w (PmarkPost none w) := by
  have hcall := fun w => any_at s w hs k h
  clear h
  go_enter Tryd.func18, Tryd.ntmps18
  go_wp2_with fail
  refine (hcall _).mono ?_
  rintro e w1 ⟨rfl, hb⟩
  obtain ⟨⟨c0, c1, c2, c3⟩, ⟨f0, f1, f2, f3⟩, hz, hB⟩ := box4 (w := w) (by simpa using hb)
  have HB : Hid _ := hB
  clear hb hB hcall
  go_wp2
  refine bodyPost_ret (v := .tuple #[.agg #[.int .i64 0, .int .i64 0, .string ⟨#[]⟩, .bool false], .bool false]) (by simp [results, Tryd.results18, go_sem, c0, c1, c2, c3]) rfl ⟨rfl, ?_⟩
  exact (((HB.out.setCell (Nat.le_refl _) _).setCell (Nat.le_refl _) _).setCell (Nat.le_refl _) _).setCell (Nat.le_refl _) _

theorem set4 {w w2 : World} (h : Below w.heap.size w w2) (x y z u : Value) : Below w.heap.size w ((((w2.setCell ⟨w.heap.size, 0, none⟩ x).setCell ⟨w.heap.size, 1, none⟩ y).setCell ⟨w.heap.size, 2, none⟩ z).setCell ⟨w.heap.size, 3, none⟩ u) :=
  (((h.setCell (Nat.le_refl _) _).setCell (Nat.le_refl _) _).setCell (Nat.le_refl _) _).setCell (Nat.le_refl _) _
theorem set4_size {w2 : World} (n : Nat) (x y z u : Value) : ((((w2.setCell ⟨n, 0, none⟩ x).setCell ⟨n, 1, none⟩ y).setCell ⟨n, 2, none⟩ z).setCell ⟨n, 3, none⟩ u).heap.size = w2.heap.size := by
  simp [World.setCell]

theorem Sent.alloc {w : World} (h : Sent w) (o : Obj) : Sent (w.alloc o) := h.below ((Below.refl _ _).alloc (Nat.le_refl _) _) h.lt

set_option maxHeartbeats 4000000 in
set_option maxRecDepth 100000 in
theorem pmark_rng (s : ByteArray) (w : World) (hS : Sent w) (hs : s.size ≤ 1048576) (k : Nat) (h : arrowAt s.data.toList = (k : Int)) (h1 : 1 ≤ k) (hk : k < s.size) (hk1 : k - 1 < s.size) (hd : ((s[k - 1].toNat : Int) != 45) = false)
    (hr : rngL (s.extract 0 (k - 1)).data.toList = none) :
    Calls Tryd.prog 18 #[.string s] w (PmarkPost none w) := by
  have hcall := fun w => any_at s w hs k h
  have hcall2 := fun w hS => parseRange_any (s.extract 0 (k - 1)) w (by simp; omega) hS
  rw [hr] at hcall2
  have HS : Hid (Sent w) := hS
  clear h hr hS
  go_enter Tryd.func18, Tryd.ntmps18
  go_wp2_with fail
  refine (hcall _).mono ?_
  rintro e w1 ⟨rfl, hb⟩
  have HS1 : Hid (Sent w1) := (HS.out.alloc _).below hb (HS.out.alloc _).lt
  go_wp2_with fail
  refine (hcall2 _ HS1.out).mono ?_
  rintro e w2 (⟨a, b, e1, -⟩ | ⟨a, b, -, rfl, hb2⟩)
  · cases e1
  obtain ⟨⟨c0, c1, c2, c3⟩, ⟨f0, f1, f2, f3⟩, hz, hB⟩ := box4 (w := w) (w3 := w2) (by
    have hz := hb.size
    simp at hz hb
    exact hb.trans (hb2.mono hz))
  have HB : Hid (Below w.heap.size w w2) := hB
  clear hb hb2 hB hcall hcall2
  go_wp2
  refine bodyPost_ret (v := .tuple #[.agg #[.int .i64 0, .int .i64 0, .string ⟨#[]⟩, .bool false], .bool false]) (by simp [results, Tryd.results18, go_sem, c0, c1, c2, c3, hz]) rfl ⟨rfl, ?_⟩
  exact (set4 HB.out _ _ _ _).alloc (by rw [set4_size]; exact Nat.le_of_lt hz) _

set_option maxHeartbeats 4000000 in
set_option maxRecDepth 100000 in
theorem pmark_acc (s : ByteArray) (w : World) (hS : Sent w) (hs : s.size ≤ 1048576) (k a b : Nat) (h : arrowAt s.data.toList = (k : Int)) (h1 : 1 ≤ k) (hk : k < s.size) (hk1 : k - 1 < s.size) (hd : ((s[k - 1].toNat : Int) != 45) = false)
    (hr : rngL (s.extract 0 (k - 1)).data.toList = some (a, b)) (r : ByteArray) (hrr : s.extract (k - 1) s.size = r) (hrs : r.size ≤ 1048576) :
    Calls Tryd.prog 18 #[.string s] w (PmarkPost (some (a, b, mtOf r, mwOf r)) w) := by
  have hcall := fun w => any_at s w hs k h
  have hcall2 := fun w hS => parseRange_any (s.extract 0 (k - 1)) w (by simp; omega) hS
  rw [hr] at hcall2
  have HS : Hid (Sent w) := hS
  obtain ⟨mt, hmt⟩ : ∃ mt, mtOf r = mt := ⟨_, rfl⟩
  obtain ⟨mw, hmw⟩ : ∃ mw, mwOf r = mw := ⟨_, rfl⟩
  have ht := fun w => Tryd.strings_TrimSuffix r ⟨#[93]⟩ w (by omega)
  obtain ⟨T, hT⟩ : ∃ T : ByteArray, (⟨(Lib.trimSuffix r.data.toList [93]).toArray⟩ : ByteArray) = T := ⟨_, rfl⟩
  have hTl : T.data.toList = Lib.trimSuffix r.data.toList [93] := by rw [← hT]
  have ht : ∀ w, Calls Tryd.prog 24 #[.string r, .string ⟨#[93]⟩] w fun e w' => e = .returned (.string T) ∧ w' = w := by rw [← hT]; exact ht
  have hw : ∀ w, Calls Tryd.prog 26 #[.string T, .string ⟨#[45, 60, 60, 45]⟩] w fun e w' => e = .returned (.bool mw) ∧ w' = w := by
    rw [← hmw, ← mw_trim, ← hTl]; exact fun w => Tryd.strings_HasPrefix T ⟨#[45, 60, 60, 45]⟩ w
  have hcut : ∃ (nd : ByteArray) (f : Bool), (f = true → nd = mt) ∧ (f = false → mt = ⟨#[]⟩) ∧ ∀ w, Calls Tryd.prog 25 #[.string T, .string ⟨#[45, 62, 45]⟩] w fun e w' => e = .returned (.tuple #[.string nd, .bool f]) ∧ w' = w := by
    refine ⟨⟨(Lib.trimPrefix T.data.toList [45, 62, 45]).toArray⟩, Lib.hasPrefix T.data.toList [45, 62, 45], ?_, ?_, fun w => Tryd.strings_CutPrefix T ⟨#[45, 62, 45]⟩ w⟩
    · intro hf
      rw [hTl, mt_trim] at hf
      rw [hTl, node_eq r hf, hmt]
    · intro hf
      rw [hTl, mt_trim] at hf
      rw [← hmt]
      unfold mtOf
      rw [hf]; rfl
  rw [hmt, hmw]
  clear h hr hS hT hTl hmt hmw
  obtain ⟨nd, f, hf1, hf2, hcut⟩ := hcut
  go_enter Tryd.func18, Tryd.ntmps18
  go_wp2_with fail
  refine (hcall _).mono ?_
  rintro e w1 ⟨rfl, hb⟩
  have HS1 : Hid (Sent w1) := (HS.out.alloc _).below hb (HS.out.alloc _).lt
  go_wp2_with fail
  refine (hcall2 _ HS1.out).mono ?_
  rintro e w2 (⟨a', b', e1, rfl, hb2⟩ | ⟨a', b', e1, -⟩)
  case inr => cases e1
  injection e1 with e1
  injection e1 with e1 e2
  subst e1 e2
  obtain ⟨⟨c0, c1, c2, c3⟩, ⟨f0, f1, f2, f3⟩, hz, hB⟩ := box4 (w := w) (w3 := w2) (by
    have hz := hb.size
    simp at hz hb
    exact hb.trans (hb2.mono hz))
  have HB : Hid (Below w.heap.size w w2) := hB
  clear hb hb2 hB hcall hcall2
  cases f
  · obtain rfl := hf2 rfl
    clear hf1 hf2
    go_wp2_with fail
    refine (ht _).mono ?_
    rintro e w3 ⟨rfl, rfl⟩
    go_wp2_with fail
    refine (hcut _).mono ?_
    rintro e w3 ⟨rfl, rfl⟩
    go_wp2_with fail
    refine (hw _).mono ?_
    rintro e w3 ⟨rfl, rfl⟩
    go_wp2
    refine bodyPost_ret (v := .tuple #[.agg #[.int .i64 (a : Int), .int .i64 (b : Int), .string ⟨#[]⟩, .bool mw], .bool true]) (by simp [results, Tryd.results18, go_sem, c0, c1, c2, c3, hz, Nat.lt_succ_of_lt hz]) rfl ⟨rfl, ?_⟩
    exact ((set4 HB.out _ _ _ _).alloc (by rw [set4_size]; exact Nat.le_of_lt hz) _).alloc (by simp [World.setCell]; omega) _
  · obtain rfl := hf1 rfl
    clear hf1 hf2
    go_wp2_with fail
    refine (ht _).mono ?_
    rintro e w3 ⟨rfl, rfl⟩
    go_wp2_with fail
    refine (hcut _).mono ?_
    rintro e w3 ⟨rfl, rfl⟩
    go_wp2_with fail
    refine (hw _).mono ?_
    rintro e w3 ⟨rfl, rfl⟩
    go_wp2
    refine bodyPost_ret (v := .tuple #[.agg #[.int .i64 (a : Int), .int .i64 (b : Int), .string nd, .bool mw], .bool true]) (by simp [results, Tryd.results18, go_sem, c0, c1, c2, c3, hz, Nat.lt_succ_of_lt hz]) rfl ⟨rfl, ?_⟩
    exact ((set4 HB.out _ _ _ _).alloc (by rw [set4_size]; exact Nat.le_of_lt hz) _).alloc (by simp [World.setCell]; omega) _

end Go.Proofs.Qxb6601374aDoor
