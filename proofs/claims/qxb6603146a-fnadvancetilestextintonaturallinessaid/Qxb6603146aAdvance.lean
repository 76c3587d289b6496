import Derived.Test.Qxb6603146aIndex
import Derived.RegionTactic
namespace Go.Proofs.Qxb6603146a
open Go.RowKit

/-- the reader's box -/
def rd (g n : Nat) (p lf cr num : Int) : Obj := .cells #[.slice (some ⟨g, 0, none⟩) n n, .int .i64 p, .int .i64 lf, .int .i64 cr, .int .i64 num] 39

def AdvPost (f : Nat → Int) (g n p : Nat) (num : Int) (w : World) (e' : Ending) (w' : World) : Prop :=
  ∃ L C e s q : Nat, IsFirst f n 10 p L ∧ IsFirst f n 13 p C ∧ StepIs f n p e s ∧ e' = .returned (.tuple #[.int .i64 (p : Int), .int .i64 (e : Int), .int .i64 (s : Int), .bool true]) ∧
    w' = (w.alloc (rd g n s L C (num + 1))).drewN q

/-- the cell of a search: stale, or the first place itself -/
def Stale (f : Nat → Int) (n : Nat) (c : Int) (p : Nat) (x : Int) : Prop := (-1 ≤ x ∧ x < (p : Int)) ∨ ∃ m : Nat, x = (m : Int) ∧ IsFirst f n c p m

theorem Txt.alloc {w : World} {g n : Nat} {f : Nat → Int} (h : Txt w g n f) (hg : g < w.heap.size) (o : Obj) : Txt (w.alloc o) g n f := by
  intro i hi
  have := (Below.refl w.heap.size w).alloc (Nat.le_refl _) o
  exact (this.cell (p := ⟨g, i, none⟩) hg).trans (h i hi)

theorem Txt.below {w w' : World} {g n B : Nat} {f : Nat → Int} (h : Txt w g n f) (hb : Below B w w') (hg : g < B) : Txt w' g n f := by
  intro i hi
  exact (hb.cell (p := ⟨g, i, none⟩) hg).trans (h i hi)

set_option maxHeartbeats 4000000 in
set_option maxRecDepth 100000 in
theorem adv_both (g n p : Nat) (f : Nat → Int) (lf : Int) (cr : Int) (num : Int) (w : World) (hn : n ≤ 1048576) (hp : p < n) (hf : Bytes8 f n) (hg : g < w.heap.size) (hT : Txt w g n f)
    (hnum : 0 ≤ num ∧ num ≤ 1048576) (hlf : lf < (p : Int)) (hcr : cr < (p : Int)) :
    Calls Try.prog 26 #[.pointer (some ⟨w.heap.size, 0, none⟩)] (w.alloc (rd g n p lf cr num)) (AdvPost f g n p num w) := by
  have hne : ¬ g = w.heap.size := by omega
  have HT : Hid (Txt w g n f) := hT
  obtain ⟨hnum0, hnum1⟩ := hnum
  unfold rd
  go_enter Try.func26, Try.ntmps26
  go_wp2_with fail
  refine (indexFrom_any g n p f 10 _ hn hp (by decide) hf (HT.out.alloc hg _)).mono ?_
  rintro e w' ⟨L, hL, rfl, rfl⟩
  have hL1 := hL.2.1
  have HL : Hid _ := hL
  clear hL
  go_wp2_with fail
  refine (indexFrom_any g n p f 13 _ hn hp (by decide) hf (HT.out.alloc hg _)).mono ?_
  rintro e w' ⟨C, hC, rfl, rfl⟩
  have hC1 := hC.2.1
  have HC : Hid _ := hC
  clear hC
  clear hlf hcr
  go_wp2
  have hst := step_of hp HL.out HC.out
  by_cases hLC : L < C
  · have hLn : L < n := by omega
    have HS : Hid (StepIs f n p L (L + 1)) := hst.2.1 hLC hLn
    have hcL := hT L hLn
    have hb : (f L == 13) = false := beq_eq_false_iff_ne.2 (by rw [HL.out.2.2.2 hLn]; decide)
    have hmin : (min (L : Int) (C : Int)) = (L : Int) := by omega
    clear hst hT hf
    go_region
    go_wp2
    refine bodyPost_ret (v := .tuple #[.int .i64 (p : Int), .int .i64 (L : Int), .int .i64 ((L : Int) + 1), .bool true]) (by simp [results, Try.results26, go_sem]) rfl ?_
    exact ⟨L, C, L, L + 1, 1, HL.out, HC.out, HS.out, by go_num, by unfold rd; go_num⟩
  · by_cases hCL : C < L
    · have hCn : C < n := by omega
      have hcC := hT C hCn
      have hb : (f C == 13) = true := beq_iff_eq.2 (HC.out.2.2.2 hCn)
      have hmin : (min (L : Int) (C : Int)) = (C : Int) := by omega
      by_cases hC2 : C + 1 < n
      · have hcC2 := hT (C + 1) hC2
        by_cases h10 : f (C + 1) = 10
        · have HS : Hid (StepIs f n p C (C + 2)) := hst.2.2.1 hCL hCn ⟨hC2, h10⟩
          have hb2 : (f (C + 1) == 10) = true := beq_iff_eq.2 h10
          clear hst hT hf h10
          go_region
          go_wp2
          refine bodyPost_ret (v := .tuple #[.int .i64 (p : Int), .int .i64 (C : Int), .int .i64 ((C : Int) + 1 + 1), .bool true]) (by simp [results, Try.results26, go_sem]) rfl ?_
          exact ⟨L, C, C, C + 2, 1, HL.out, HC.out, HS.out, by go_num, by unfold rd; go_num⟩
        · have HS : Hid (StepIs f n p C (C + 1)) := hst.2.2.2.1 hCL hCn (fun h => h10 h.2)
          have hb2 : (f (C + 1) == 10) = false := beq_eq_false_iff_ne.2 h10
          clear hst hT hf h10
          go_region
          go_wp2
          refine bodyPost_ret (v := .tuple #[.int .i64 (p : Int), .int .i64 (C : Int), .int .i64 ((C : Int) + 1), .bool true]) (by simp [results, Try.results26, go_sem]) rfl ?_
          exact ⟨L, C, C, C + 1, 1, HL.out, HC.out, HS.out, by go_num, by unfold rd; go_num⟩
      · have HS : Hid (StepIs f n p C (C + 1)) := hst.2.2.2.1 hCL hCn (fun h => hC2 h.1)
        clear hst hT hf
        go_region
        go_wp2
        refine bodyPost_ret (v := .tuple #[.int .i64 (p : Int), .int .i64 (C : Int), .int .i64 ((C : Int) + 1), .bool true]) (by simp [results, Try.results26, go_sem]) rfl ?_
        exact ⟨L, C, C, C + 1, 1, HL.out, HC.out, HS.out, by go_num, by unfold rd; go_num⟩
    · obtain rfl : L = C := by omega
      obtain rfl : L = n := hst.2.2.2.2 rfl
      have HS : Hid (StepIs f L p L L) := hst.1 (Nat.le_refl _) rfl rfl
      have hmin : (min (L : Int) (L : Int)) = (L : Int) := by omega
      clear hst hT hf
      go_region
      go_wp2
      refine bodyPost_ret (v := .tuple #[.int .i64 (p : Int), .int .i64 (L : Int), .int .i64 (L : Int), .bool true]) (by simp [results, Try.results26, go_sem]) rfl ?_
      exact ⟨L, L, L, L, 1, HL.out, HC.out, HS.out, by go_num, by unfold rd; go_num⟩

set_option maxHeartbeats 4000000 in
set_option maxRecDepth 100000 in
theorem adv_lf (g n p : Nat) (f : Nat → Int) (lf : Int) (C : Nat) (num : Int) (w : World) (hn : n ≤ 1048576) (hp : p < n) (hf : Bytes8 f n) (hg : g < w.heap.size) (hT : Txt w g n f)
    (hnum : 0 ≤ num ∧ num ≤ 1048576) (hlf : lf < (p : Int)) (hC : IsFirst f n 13 p C) :
    Calls Try.prog 26 #[.pointer (some ⟨w.heap.size, 0, none⟩)] (w.alloc (rd g n p lf C num)) (AdvPost f g n p num w) := by
  have hne : ¬ g = w.heap.size := by omega
  have HT : Hid (Txt w g n f) := hT
  obtain ⟨hnum0, hnum1⟩ := hnum
  have hC1 := hC.2.1
  have hC0 := hC.1
  have HC : Hid _ := hC
  clear hC
  unfold rd
  go_enter Try.func26, Try.ntmps26
  go_wp2_with fail
  refine (indexFrom_any g n p f 10 _ hn hp (by decide) hf (HT.out.alloc hg _)).mono ?_
  rintro e w' ⟨L, hL, rfl, rfl⟩
  have hL1 := hL.2.1
  have HL : Hid _ := hL
  clear hL
  clear hlf
  go_wp2
  have hst := step_of hp HL.out HC.out
  by_cases hLC : L < C
  · have hLn : L < n := by omega
    have HS : Hid (StepIs f n p L (L + 1)) := hst.2.1 hLC hLn
    have hcL := hT L hLn
    have hb : (f L == 13) = false := beq_eq_false_iff_ne.2 (by rw [HL.out.2.2.2 hLn]; decide)
    have hmin : (min (L : Int) (C : Int)) = (L : Int) := by omega
    clear hst hT hf
    go_region
    go_wp2
    refine bodyPost_ret (v := .tuple #[.int .i64 (p : Int), .int .i64 (L : Int), .int .i64 ((L : Int) + 1), .bool true]) (by simp [results, Try.results26, go_sem]) rfl ?_
    exact ⟨L, C, L, L + 1, 1, HL.out, HC.out, HS.out, by go_num, by unfold rd; go_num⟩
  · by_cases hCL : C < L
    · have hCn : C < n := by omega
      have hcC := hT C hCn
      have hb : (f C == 13) = true := beq_iff_eq.2 (HC.out.2.2.2 hCn)
      have hmin : (min (L : Int) (C : Int)) = (C : Int) := by omega
      by_cases hC2 : C + 1 < n
      · have hcC2 := hT (C + 1) hC2
        by_cases h10 : f (C + 1) = 10
        · have HS : Hid (StepIs f n p C (C + 2)) := hst.2.2.1 hCL hCn ⟨hC2, h10⟩
          have hb2 : (f (C + 1) == 10) = true := beq_iff_eq.2 h10
          clear hst hT hf h10
          go_region
          go_wp2
          refine bodyPost_ret (v := .tuple #[.int .i64 (p : Int), .int .i64 (C : Int), .int .i64 ((C : Int) + 1 + 1), .bool true]) (by simp [results, Try.results26, go_sem]) rfl ?_
          exact ⟨L, C, C, C + 2, 1, HL.out, HC.out, HS.out, by go_num, by unfold rd; go_num⟩
        · have HS : Hid (StepIs f n p C (C + 1)) := hst.2.2.2.1 hCL hCn (fun h => h10 h.2)
          have hb2 : (f (C + 1) == 10) = false := beq_eq_false_iff_ne.2 h10
          clear hst hT hf h10
          go_region
          go_wp2
          refine bodyPost_ret (v := .tuple #[.int .i64 (p : Int), .int .i64 (C : Int), .int .i64 ((C : Int) + 1), .bool true]) (by simp [results, Try.results26, go_sem]) rfl ?_
          exact ⟨L, C, C, C + 1, 1, HL.out, HC.out, HS.out, by go_num, by unfold rd; go_num⟩
      · have HS : Hid (StepIs f n p C (C + 1)) := hst.2.2.2.1 hCL hCn (fun h => hC2 h.1)
        clear hst hT hf
        go_region
        go_wp2
        refine bodyPost_ret (v := .tuple #[.int .i64 (p : Int), .int .i64 (C : Int), .int .i64 ((C : Int) + 1), .bool true]) (by simp [results, Try.results26, go_sem]) rfl ?_
        exact ⟨L, C, C, C + 1, 1, HL.out, HC.out, HS.out, by go_num, by unfold rd; go_num⟩
    · obtain rfl : L = C := by omega
      obtain rfl : L = n := hst.2.2.2.2 rfl
      have HS : Hid (StepIs f L p L L) := hst.1 (Nat.le_refl _) rfl rfl
      have hmin : (min (L : Int) (L : Int)) = (L : Int) := by omega
      clear hst hT hf
      go_region
      go_wp2
      refine bodyPost_ret (v := .tuple #[.int .i64 (p : Int), .int .i64 (L : Int), .int .i64 (L : Int), .bool true]) (by simp [results, Try.results26, go_sem]) rfl ?_
      exact ⟨L, L, L, L, 1, HL.out, HC.out, HS.out, by go_num, by unfold rd; go_num⟩

set_option maxHeartbeats 4000000 in
set_option maxRecDepth 100000 in
theorem adv_cr (g n p : Nat) (f : Nat → Int) (L : Nat) (cr : Int) (num : Int) (w : World) (hn : n ≤ 1048576) (hp : p < n) (hf : Bytes8 f n) (hg : g < w.heap.size) (hT : Txt w g n f)
    (hnum : 0 ≤ num ∧ num ≤ 1048576) (hL : IsFirst f n 10 p L) (hcr : cr < (p : Int)) :
    Calls Try.prog 26 #[.pointer (some ⟨w.heap.size, 0, none⟩)] (w.alloc (rd g n p L cr num)) (AdvPost f g n p num w) := by
  have hne : ¬ g = w.heap.size := by omega
  have HT : Hid (Txt w g n f) := hT
  obtain ⟨hnum0, hnum1⟩ := hnum
  have hL1 := hL.2.1
  have hL0 := hL.1
  have HL : Hid _ := hL
  clear hL
  unfold rd
  go_enter Try.func26, Try.ntmps26
  go_wp2_with fail
  refine (indexFrom_any g n p f 13 _ hn hp (by decide) hf (HT.out.alloc hg _)).mono ?_
  rintro e w' ⟨C, hC, rfl, rfl⟩
  have hC1 := hC.2.1
  have HC : Hid _ := hC
  clear hC
  clear hcr
  go_wp2
  have hst := step_of hp HL.out HC.out
  by_cases hLC : L < C
  · have hLn : L < n := by omega
    have HS : Hid (StepIs f n p L (L + 1)) := hst.2.1 hLC hLn
    have hcL := hT L hLn
    have hb : (f L == 13) = false := beq_eq_false_iff_ne.2 (by rw [HL.out.2.2.2 hLn]; decide)
    have hmin : (min (L : Int) (C : Int)) = (L : Int) := by omega
    clear hst hT hf
    go_region
    go_wp2
    refine bodyPost_ret (v := .tuple #[.int .i64 (p : Int), .int .i64 (L : Int), .int .i64 ((L : Int) + 1), .bool true]) (by simp [results, Try.results26, go_sem]) rfl ?_
    exact ⟨L, C, L, L + 1, 1, HL.out, HC.out, HS.out, by go_num, by unfold rd; go_num⟩
  · by_cases hCL : C < L
    · have hCn : C < n := by omega
      have hcC := hT C hCn
      have hb : (f C == 13) = true := beq_iff_eq.2 (HC.out.2.2.2 hCn)
      have hmin : (min (L : Int) (C : Int)) = (C : Int) := by omega
      by_cases hC2 : C + 1 < n
      · have hcC2 := hT (C + 1) hC2
        by_cases h10 : f (C + 1) = 10
        · have HS : Hid (StepIs f n p C (C + 2)) := hst.2.2.1 hCL hCn ⟨hC2, h10⟩
          have hb2 : (f (C + 1) == 10) = true := beq_iff_eq.2 h10
          clear hst hT hf h10
          go_region
          go_wp2
          refine bodyPost_ret (v := .tuple #[.int .i64 (p : Int), .int .i64 (C : Int), .int .i64 ((C : Int) + 1 + 1), .bool true]) (by simp [results, Try.results26, go_sem]) rfl ?_
          exact ⟨L, C, C, C + 2, 1, HL.out, HC.out, HS.out, by go_num, by unfold rd; go_num⟩
        · have HS : Hid (StepIs f n p C (C + 1)) := hst.2.2.2.1 hCL hCn (fun h => h10 h.2)
          have hb2 : (f (C + 1) == 10) = false := beq_eq_false_iff_ne.2 h10
          clear hst hT hf h10
          go_region
          go_wp2
          refine bodyPost_ret (v := .tuple #[.int .i64 (p : Int), .int .i64 (C : Int), .int .i64 ((C : Int) + 1), .bool true]) (by simp [results, Try.results26, go_sem]) rfl ?_
          exact ⟨L, C, C, C + 1, 1, HL.out, HC.out, HS.out, by go_num, by unfold rd; go_num⟩
      · have HS : Hid (StepIs f n p C (C + 1)) := hst.2.2.2.1 hCL hCn (fun h => hC2 h.1)
        clear hst hT hf
        go_region
        go_wp2
        refine bodyPost_ret (v := .tuple #[.int .i64 (p : Int), .int .i64 (C : Int), .int .i64 ((C : Int) + 1), .bool true]) (by simp [results, Try.results26, go_sem]) rfl ?_
        exact ⟨L, C, C, C + 1, 1, HL.out, HC.out, HS.out, by go_num, by unfold rd; go_num⟩
    · obtain rfl : L = C := by omega
      obtain rfl : L = n := hst.2.2.2.2 rfl
      have HS : Hid (StepIs f L p L L) := hst.1 (Nat.le_refl _) rfl rfl
      have hmin : (min (L : Int) (L : Int)) = (L : Int) := by omega
      clear hst hT hf
      go_region
      go_wp2
      refine bodyPost_ret (v := .tuple #[.int .i64 (p : Int), .int .i64 (L : Int), .int .i64 (L : Int), .bool true]) (by simp [results, Try.results26, go_sem]) rfl ?_
      exact ⟨L, L, L, L, 1, HL.out, HC.out, HS.out, by go_num, by unfold rd; go_num⟩

set_option maxHeartbeats 4000000 in
set_option maxRecDepth 100000 in
theorem adv_none (g n p : Nat) (f : Nat → Int) (L : Nat) (C : Nat) (num : Int) (w : World) (hn : n ≤ 1048576) (hp : p < n) (hf : Bytes8 f n) (hg : g < w.heap.size) (hT : Txt w g n f)
    (hnum : 0 ≤ num ∧ num ≤ 1048576) (hL : IsFirst f n 10 p L) (hC : IsFirst f n 13 p C) :
    Calls Try.prog 26 #[.pointer (some ⟨w.heap.size, 0, none⟩)] (w.alloc (rd g n p L C num)) (AdvPost f g n p num w) := by
  have hne : ¬ g = w.heap.size := by omega
  have HT : Hid (Txt w g n f) := hT
  obtain ⟨hnum0, hnum1⟩ := hnum
  have hL1 := hL.2.1
  have hL0 := hL.1
  have HL : Hid _ := hL
  clear hL
  have hC1 := hC.2.1
  have hC0 := hC.1
  have HC : Hid _ := hC
  clear hC
  unfold rd
  go_enter Try.func26, Try.ntmps26
  go_wp2
  have hst := step_of hp HL.out HC.out
  by_cases hLC : L < C
  · have hLn : L < n := by omega
    have HS : Hid (StepIs f n p L (L + 1)) := hst.2.1 hLC hLn
    have hcL := hT L hLn
    have hb : (f L == 13) = false := beq_eq_false_iff_ne.2 (by rw [HL.out.2.2.2 hLn]; decide)
    have hmin : (min (L : Int) (C : Int)) = (L : Int) := by omega
    clear hst hT hf
    go_region
    go_wp2
    refine bodyPost_ret (v := .tuple #[.int .i64 (p : Int), .int .i64 (L : Int), .int .i64 ((L : Int) + 1), .bool true]) (by simp [results, Try.results26, go_sem]) rfl ?_
    exact ⟨L, C, L, L + 1, 1, HL.out, HC.out, HS.out, by go_num, by unfold rd; go_num⟩
  · by_cases hCL : C < L
    · have hCn : C < n := by omega
      have hcC := hT C hCn
      have hb : (f C == 13) = true := beq_iff_eq.2 (HC.out.2.2.2 hCn)
      have hmin : (min (L : Int) (C : Int)) = (C : Int) := by omega
      by_cases hC2 : C + 1 < n
      · have hcC2 := hT (C + 1) hC2
        by_cases h10 : f (C + 1) = 10
        · have HS : Hid (StepIs f n p C (C + 2)) := hst.2.2.1 hCL hCn ⟨hC2, h10⟩
          have hb2 : (f (C + 1) == 10) = true := beq_iff_eq.2 h10
          clear hst hT hf h10
          go_region
          go_wp2
          refine bodyPost_ret (v := .tuple #[.int .i64 (p : Int), .int .i64 (C : Int), .int .i64 ((C : Int) + 1 + 1), .bool true]) (by simp [results, Try.results26, go_sem]) rfl ?_
          exact ⟨L, C, C, C + 2, 1, HL.out, HC.out, HS.out, by go_num, by unfold rd; go_num⟩
        · have HS : Hid (StepIs f n p C (C + 1)) := hst.2.2.2.1 hCL hCn (fun h => h10 h.2)
          have hb2 : (f (C + 1) == 10) = false := beq_eq_false_iff_ne.2 h10
          clear hst hT hf h10
          go_region
          go_wp2
          refine bodyPost_ret (v := .tuple #[.int .i64 (p : Int), .int .i64 (C : Int), .int .i64 ((C : Int) + 1), .bool true]) (by simp [results, Try.results26, go_sem]) rfl ?_
          exact ⟨L, C, C, C + 1, 1, HL.out, HC.out, HS.out, by go_num, by unfold rd; go_num⟩
      · have HS : Hid (StepIs f n p C (C + 1)) := hst.2.2.2.1 hCL hCn (fun h => hC2 h.1)
        clear hst hT hf
        go_region
        go_wp2
        refine bodyPost_ret (v := .tuple #[.int .i64 (p : Int), .int .i64 (C : Int), .int .i64 ((C : Int) + 1), .bool true]) (by simp [results, Try.results26, go_sem]) rfl ?_
        exact ⟨L, C, C, C + 1, 1, HL.out, HC.out, HS.out, by go_num, by unfold rd; go_num⟩
    · obtain rfl : L = C := by omega
      obtain rfl : L = n := hst.2.2.2.2 rfl
      have HS : Hid (StepIs f L p L L) := hst.1 (Nat.le_refl _) rfl rfl
      have hmin : (min (L : Int) (L : Int)) = (L : Int) := by omega
      clear hst hT hf
      go_region
      go_wp2
      refine bodyPost_ret (v := .tuple #[.int .i64 (p : Int), .int .i64 (L : Int), .int .i64 (L : Int), .bool true]) (by simp [results, Try.results26, go_sem]) rfl ?_
      exact ⟨L, L, L, L, 1, HL.out, HC.out, HS.out, by go_num, by unfold rd; go_num⟩

end Go.Proofs.Qxb6603146a
