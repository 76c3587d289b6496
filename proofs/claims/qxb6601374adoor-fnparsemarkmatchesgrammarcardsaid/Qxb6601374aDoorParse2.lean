import Derived.Test.Qxb6601374aDoorParse
namespace Go.Proofs.Qxb6601374aDoor
open Go.RowKit

theorem bcell {B : Nat} {W w1 : World} (hb : Below B W w1) : (∀ b o, b < B → w1.cell? ⟨b, o, none⟩ = W.cell? ⟨b, o, none⟩) ∧ (∀ b o, b < B → w1.frozen? ⟨b, o, none⟩ = W.frozen? ⟨b, o, none⟩) :=
  ⟨fun b o h => hb.cell (p := ⟨b, o, none⟩) h, fun b o h => hb.frozen (p := ⟨b, o, none⟩) h⟩

/-- what parseRange hands back -/
def PrangePost (o : Option (Nat × Nat)) (w : World) (e : Ending) (w' : World) : Prop :=
  (∃ a b : Nat, o = some (a, b) ∧ e = .returned (.tuple #[.agg #[.int .i64 (a : Int), .int .i64 (b : Int)], .bool true]) ∧ Below w.heap.size w w') ∨
  (∃ a b : Int, o = none ∧ e = .returned (.tuple #[.agg #[.int .i64 a, .int .i64 b], .bool false]) ∧ Below w.heap.size w w')

theorem one_ok {l : List UInt8} {R : Option (Nat × Nat)} {v v2 : Nat} (h : (slotL l).map (fun a => (a, a)) = R) (h1 : slotL l = some v) (h2 : slotL l = some v2) : R = some (v, v2) := by
  rw [h1] at h2; injection h2 with h2; subst h2; rw [← h, h1]; rfl
theorem one_gt {l : List UInt8} {v v2 : Nat} {P : Prop} (h1 : slotL l = some v) (h2 : slotL l = some v2) (hn : (v2 : Int) < (v : Int)) : P := by
  rw [h1] at h2; injection h2 with h2; subst h2; omega
theorem one_no1 {l : List UInt8} {R : Option (Nat × Nat)} (h : (slotL l).map (fun a => (a, a)) = R) (h1 : slotL l = none) : R = none := by
  rw [← h, h1]; rfl
theorem two_ok {l m : List UInt8} {R : Option (Nat × Nat)} {v v2 : Nat} (h : (match slotL l, slotL m with | some a, some b => if a ≤ b then some (a, b) else none | _, _ => none) = R) (h1 : slotL l = some v) (h2 : slotL m = some v2) (hv : (v : Int) ≤ (v2 : Int)) : R = some (v, v2) := by
  rw [h1, h2] at h; simp only at h; rw [if_pos (by omega)] at h; exact h.symm
theorem two_gt {l m : List UInt8} {R : Option (Nat × Nat)} {v v2 : Nat} (h : (match slotL l, slotL m with | some a, some b => if a ≤ b then some (a, b) else none | _, _ => none) = R) (h1 : slotL l = some v) (h2 : slotL m = some v2) (hv : (v2 : Int) < (v : Int)) : R = none := by
  rw [h1, h2] at h; simp only at h; rw [if_neg (by omega)] at h; exact h.symm
theorem two_no1 {l m : List UInt8} {R : Option (Nat × Nat)} (h : (match slotL l, slotL m with | some a, some b => if a ≤ b then some (a, b) else none | _, _ => none) = R) (h1 : slotL l = none) : R = none := by
  rw [h1] at h; exact h.symm
theorem two_no2 {l m : List UInt8} {R : Option (Nat × Nat)} (h : (match slotL l, slotL m with | some a, some b => if a ≤ b then some (a, b) else none | _, _ => none) = R) (h2 : slotL m = none) : R = none := by
  rw [h2] at h; cases h3 : slotL l <;> rw [h3] at h <;> exact h.symm

/-- the result's box, laid ahead of the calls, behind them -/
theorem box42 {w w1 w2 w3 : World} {x y : Value} (h1 : Below (w.heap.size + 1) (w.alloc (.cells #[x, y] 42)) w1) (hb : Below w1.heap.size w1 w2) (hb2 : Below w2.heap.size w2 w3) :
    (w3.cell? ⟨w.heap.size, 0, none⟩ = some x ∧ w3.cell? ⟨w.heap.size, 1, none⟩ = some y ∧ w3.frozen? ⟨w.heap.size, 0, none⟩ = false ∧ w3.frozen? ⟨w.heap.size, 1, none⟩ = false ∧ w.heap.size < w3.heap.size) ∧ Below w.heap.size w w3 := by
  have z1 := h1.size
  have z2 := hb.size
  simp at z1
  have hall : Below (w.heap.size + 1) (w.alloc (.cells #[x, y] 42)) w3 := (h1.trans (hb.mono z1)).trans (hb2.mono (by omega))
  obtain ⟨hc, hf⟩ := bcell hall
  have hz := hall.size
  refine ⟨⟨?_, ?_, ?_, ?_, ?_⟩, ?_⟩
  · rw [hc _ _ (by omega)]; simp
  · rw [hc _ _ (by omega)]; simp
  · rw [hf _ _ (by omega)]; simp
  · rw [hf _ _ (by omega)]; simp
  · simp at hz; omega
  · exact ((Below.refl _ _).alloc (Nat.le_refl _) _).trans (hall.mono (by omega))

theorem first42 (w : World) (x y : Value) (n : Nat) : Below (w.heap.size + 1) (w.alloc (.cells #[x, y] 42)) ((w.alloc (.cells #[x, y] 42)).drewN n) := below_drewN (Below.refl _ _) n

theorem Sent.first {w : World} (h : Sent w) (x y : Value) (n : Nat) : Sent ((w.alloc (.cells #[x, y] 42)).drewN n) :=
  h.below (((Below.refl _ _).alloc (Nat.le_refl _) _).trans ((first42 w x y n).mono (by omega))) h.lt

theorem Sent.next {w1 w2 : World} (h : Sent w1) (hb : Below w1.heap.size w1 w2) : Sent w2 := h.below hb h.lt

set_option maxHeartbeats 4000000 in
set_option maxRecDepth 100000 in
theorem parseRange_any (s : ByteArray) (w : World) (hs : s.size ≤ 1048576) (hS : Sent w) :
    Calls Tryd.prog 23 #[.string s] w (PrangePost (rngL s.data.toList) w) := by
  have hlt := hS.lt
  obtain ⟨R, hR⟩ : ∃ R, rngL s.data.toList = R := ⟨_, rfl⟩
  rw [hR]
  have HR : Hid (rngL s.data.toList = R) := hR
  clear hR
  have HS : Hid (Sent w) := hS
  clear hS
  go_enter Tryd.func23, Tryd.ntmps23
  go_wp2_with fail
  refine (cut28 s _ hs).mono ?_
  rintro e w1 (⟨h1, rfl, rfl⟩ | ⟨k, h1, h2, rfl, n, rfl⟩)
  · have HR2 : Hid ((slotL s.data.toList).map (fun a => (a, a)) = R) := by
      have := HR.out
      unfold rngL at this
      rw [h1, if_pos (by decide)] at this
      exact this
    clear HR h1
    go_wp2_with fail
    refine (parseSlot_any s _ hs (HS.out.first _ _ 0)).mono ?_
    rintro e w2 (⟨v, ho, rfl, hb⟩ | ⟨v, ho, rfl, hb⟩)
    · have HO : Hid _ := ho
      clear ho
      go_wp2_with fail
      refine (parseSlot_any s _ hs ((HS.out.first _ _ 0).next hb)).mono ?_
      rintro e w3 (⟨v2, ho2, rfl, hb2⟩ | ⟨v2, ho2, rfl, hb2⟩)
      · obtain ⟨⟨b1, b2, b3, b4, b5⟩, hB⟩ := box42 (first42 w _ _ 0) hb hb2
        have HB : Hid _ := hB
        have HO2 : Hid _ := ho2
        clear hB hb hb2 ho2
        by_cases hvv : (v : Int) ≤ (v2 : Int)
        · go_wp2
          refine bodyPost_ret (v := .tuple #[.agg #[.int .i64 (v : Int), .int .i64 (v2 : Int)], .bool true]) (by simp [results, Tryd.results23, go_sem, b1, b2]) rfl ?_
          refine .inl ⟨v, v2, one_ok HR2.out HO.out HO2.out, rfl, ?_⟩
          exact (HB.out.setCell (Nat.le_refl _) _).setCell (Nat.le_refl _) _
        · have hd : decide ((v : Int) ≤ (v2 : Int)) = false := decide_eq_false hvv
          have hgt : (v2 : Int) < (v : Int) := by omega
          clear hvv
          go_wp2
          refine bodyPost_ret (v := .tuple #[.agg #[.int .i64 (v : Int), .int .i64 (v2 : Int)], .bool false]) (by simp [results, Tryd.results23, go_sem, b1, b2]; omega) rfl ?_
          refine .inr ⟨v, v2, one_gt HO.out HO2.out hgt, rfl, ?_⟩
          exact (HB.out.setCell (Nat.le_refl _) _).setCell (Nat.le_refl _) _
      · obtain ⟨⟨b1, b2, b3, b4, b5⟩, hB⟩ := box42 (first42 w _ _ 0) hb hb2
        have HB : Hid _ := hB
        have HO2 : Hid _ := ho2
        clear hB hb hb2 ho2
        go_wp2
        refine bodyPost_ret (v := .tuple #[.agg #[.int .i64 (v : Int), .int .i64 v2], .bool false]) (by simp [results, Tryd.results23, go_sem, b1, b2]) rfl ?_
        refine .inr ⟨(v : Int), v2, one_no1 HR2.out HO2.out, rfl, ?_⟩
        exact (HB.out.setCell (Nat.le_refl _) _).setCell (Nat.le_refl _) _
    · have HO : Hid _ := ho
      clear ho
      go_wp2_with fail
      refine (parseSlot_any s _ hs ((HS.out.first _ _ 0).next hb)).mono ?_
      rintro e w3 (⟨v2, ho2, rfl, hb2⟩ | ⟨v2, ho2, rfl, hb2⟩)
      · obtain ⟨⟨b1, b2, b3, b4, b5⟩, hB⟩ := box42 (first42 w _ _ 0) hb hb2
        have HB : Hid _ := hB
        have HO2 : Hid _ := ho2
        clear hB hb hb2 ho2
        go_wp2
        refine bodyPost_ret (v := .tuple #[.agg #[.int .i64 v, .int .i64 (v2 : Int)], .bool false]) (by simp [results, Tryd.results23, go_sem, b1, b2]) rfl ?_
        refine .inr ⟨v, (v2 : Int), one_no1 HR2.out HO.out, rfl, ?_⟩
        exact (HB.out.setCell (Nat.le_refl _) _).setCell (Nat.le_refl _) _
      · obtain ⟨⟨b1, b2, b3, b4, b5⟩, hB⟩ := box42 (first42 w _ _ 0) hb hb2
        have HB : Hid _ := hB
        have HO2 : Hid _ := ho2
        clear hB hb hb2 ho2
        go_wp2
        refine bodyPost_ret (v := .tuple #[.agg #[.int .i64 v, .int .i64 v2], .bool false]) (by simp [results, Tryd.results23, go_sem, b1, b2]) rfl ?_
        refine .inr ⟨v, v2, one_no1 HR2.out HO.out, rfl, ?_⟩
        exact (HB.out.setCell (Nat.le_refl _) _).setCell (Nat.le_refl _) _
  · have HR2 : Hid ((match slotL (s.extract 0 k).data.toList, slotL (s.extract (k + 1) s.size).data.toList with
    | some a, some b => if a ≤ b then some (a, b) else none
    | _, _ => none) = R) := by
      have := HR.out
      unfold rngL at this
      rw [h1, if_neg (by omega)] at this
      rw [show ((k : Int)).toNat = k from by omega] at this
      rw [Lib.extract_data, Lib.extract_data, List.drop_zero]
      rw [show List.take (s.size - (k + 1)) (List.drop (k + 1) s.data.toList) = List.drop (k + 1) s.data.toList from List.take_of_length_le (by rw [List.length_drop, ← Lib.size_eq]; exact Nat.le_refl _)]
      exact this
    clear HR h1
    go_wp2_with fail
    refine (parseSlot_any (s.extract 0 k) _ (by simp; omega) (HS.out.first _ _ n)).mono ?_
    rintro e w2 (⟨v, ho, rfl, hb⟩ | ⟨v, ho, rfl, hb⟩)
    · have HO : Hid _ := ho
      clear ho
      go_wp2_with fail
      refine (parseSlot_any (s.extract (k + 1) s.size) _ (by simp; omega) ((HS.out.first _ _ n).next hb)).mono ?_
      rintro e w3 (⟨v2, ho2, rfl, hb2⟩ | ⟨v2, ho2, rfl, hb2⟩)
      · obtain ⟨⟨b1, b2, b3, b4, b5⟩, hB⟩ := box42 (first42 w _ _ n) hb hb2
        have HB : Hid _ := hB
        have HO2 : Hid _ := ho2
        clear hB hb hb2 ho2
        by_cases hvv : (v : Int) ≤ (v2 : Int)
        · go_wp2
          refine bodyPost_ret (v := .tuple #[.agg #[.int .i64 (v : Int), .int .i64 (v2 : Int)], .bool true]) (by simp [results, Tryd.results23, go_sem, b1, b2]) rfl ?_
          refine .inl ⟨v, v2, two_ok HR2.out HO.out HO2.out hvv, rfl, ?_⟩
          exact (HB.out.setCell (Nat.le_refl _) _).setCell (Nat.le_refl _) _
        · have hd : decide ((v : Int) ≤ (v2 : Int)) = false := decide_eq_false hvv
          have hgt : (v2 : Int) < (v : Int) := by omega
          clear hvv
          go_wp2
          refine bodyPost_ret (v := .tuple #[.agg #[.int .i64 (v : Int), .int .i64 (v2 : Int)], .bool false]) (by simp [results, Tryd.results23, go_sem, b1, b2]; omega) rfl ?_
          refine .inr ⟨v, v2, two_gt HR2.out HO.out HO2.out hgt, rfl, ?_⟩
          exact (HB.out.setCell (Nat.le_refl _) _).setCell (Nat.le_refl _) _
      · obtain ⟨⟨b1, b2, b3, b4, b5⟩, hB⟩ := box42 (first42 w _ _ n) hb hb2
        have HB : Hid _ := hB
        have HO2 : Hid _ := ho2
        clear hB hb hb2 ho2
        go_wp2
        refine bodyPost_ret (v := .tuple #[.agg #[.int .i64 (v : Int), .int .i64 v2], .bool false]) (by simp [results, Tryd.results23, go_sem, b1, b2]) rfl ?_
        refine .inr ⟨(v : Int), v2, two_no2 HR2.out HO2.out, rfl, ?_⟩
        exact (HB.out.setCell (Nat.le_refl _) _).setCell (Nat.le_refl _) _
    · have HO : Hid _ := ho
      clear ho
      go_wp2_with fail
      refine (parseSlot_any (s.extract (k + 1) s.size) _ (by simp; omega) ((HS.out.first _ _ n).next hb)).mono ?_
      rintro e w3 (⟨v2, ho2, rfl, hb2⟩ | ⟨v2, ho2, rfl, hb2⟩)
      · obtain ⟨⟨b1, b2, b3, b4, b5⟩, hB⟩ := box42 (first42 w _ _ n) hb hb2
        have HB : Hid _ := hB
        have HO2 : Hid _ := ho2
        clear hB hb hb2 ho2
        go_wp2
        refine bodyPost_ret (v := .tuple #[.agg #[.int .i64 v, .int .i64 (v2 : Int)], .bool false]) (by simp [results, Tryd.results23, go_sem, b1, b2]) rfl ?_
        refine .inr ⟨v, (v2 : Int), two_no1 HR2.out HO.out, rfl, ?_⟩
        exact (HB.out.setCell (Nat.le_refl _) _).setCell (Nat.le_refl _) _
      · obtain ⟨⟨b1, b2, b3, b4, b5⟩, hB⟩ := box42 (first42 w _ _ n) hb hb2
        have HB : Hid _ := hB
        have HO2 : Hid _ := ho2
        clear hB hb hb2 ho2
        go_wp2
        refine bodyPost_ret (v := .tuple #[.agg #[.int .i64 v, .int .i64 v2], .bool false]) (by simp [results, Tryd.results23, go_sem, b1, b2]) rfl ?_
        refine .inr ⟨v, v2, two_no1 HR2.out HO.out, rfl, ?_⟩
        exact (HB.out.setCell (Nat.le_refl _) _).setCell (Nat.le_refl _) _
end Go.Proofs.Qxb6601374aDoor
