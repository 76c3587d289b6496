import Derived.Lib.Bytealg
import Derived.Lib.BytesEntry
namespace Go.Proofs.Qxb6603146a

/-- m is the place of the first c at or after p, n where there is none -/
def IsFirst (f : Nat → Int) (n : Nat) (c : Int) (p m : Nat) : Prop := p ≤ m ∧ m ≤ n ∧ (∀ j, p ≤ j → j < m → ¬ f j = c) ∧ (m < n → f m = c)

theorem IsFirst.later {f : Nat → Int} {n : Nat} {c : Int} {p m q : Nat} (h : IsFirst f n c p m) (hq : p ≤ q) : m < q ∨ IsFirst f n c q m := by
  by_cases hm : m < q
  · exact .inl hm
  · exact .inr ⟨by omega, h.2.1, fun j h1 h2 => h.2.2.1 j (by omega) h2, h.2.2.2⟩

theorem IsFirst.eq {f : Nat → Int} {n : Nat} {c : Int} {p m k : Nat} (h : IsFirst f n c p m) (h2 : IsFirst f n c p k) : m = k := by
  obtain ⟨a1, a2, a3, a4⟩ := h
  obtain ⟨b1, b2, b3, b4⟩ := h2
  rcases Nat.lt_trichotomy m k with hlt | rfl | hlt
  · exact absurd (a4 (by omega)) (b3 m a1 hlt)
  · rfl
  · exact absurd (b4 (by omega)) (a3 k b1 hlt)

/-- does a line end at place k? -/
abbrev endsAt (f : Nat → Int) (n k : Nat) : Prop := f k = 10 ∨ (f k = 13 ∧ ¬ (k + 1 < n ∧ f (k + 1) = 10))
/-- so many lines end below place k -/
def cntTo (f : Nat → Int) (n : Nat) : Nat → Nat
  | 0 => 0
  | k + 1 => cntTo f n k + if endsAt f n k then 1 else 0

theorem cnt_yes {f : Nat → Int} {n k : Nat} (h : endsAt f n k) : cntTo f n (k + 1) = cntTo f n k + 1 := by
  simp only [cntTo]; rw [if_pos h]
theorem cnt_no {f : Nat → Int} {n k : Nat} (h : ¬ endsAt f n k) : cntTo f n (k + 1) = cntTo f n k := by
  simp only [cntTo]; rw [if_neg h]; omega

theorem cnt_le (f : Nat → Int) (n : Nat) : ∀ k, cntTo f n k ≤ k
  | 0 => Nat.le_refl _
  | k + 1 => by
    have := cnt_le f n k
    by_cases h : endsAt f n k
    · rw [cnt_yes h]; omega
    · rw [cnt_no h]; omega

/-- the text's natural lines -/
def total (f : Nat → Int) (n : Nat) : Nat := cntTo f n n + if 0 < n ∧ ¬ f (n - 1) = 10 ∧ ¬ f (n - 1) = 13 then 1 else 0

theorem total_open {f : Nat → Int} {n : Nat} (h0 : 0 < n) (h1 : ¬ f (n - 1) = 10) (h2 : ¬ f (n - 1) = 13) : total f n = cntTo f n n + 1 := by
  unfold total; rw [if_pos ⟨h0, h1, h2⟩]
theorem total_shut {f : Nat → Int} {n : Nat} (h : n = 0 ∨ f (n - 1) = 10 ∨ f (n - 1) = 13) : total f n = cntTo f n n := by
  unfold total
  rw [if_neg]
  · rfl
  · rintro ⟨h0, h1, h2⟩
    rcases h with h | h | h
    · omega
    · exact h1 h
    · exact h2 h

/-- nothing ends where there is no terminator -/
theorem cnt_flat {f : Nat → Int} {n p : Nat} : ∀ d, (∀ j, p ≤ j → j < p + d → ¬ f j = 10 ∧ ¬ f j = 13) → cntTo f n (p + d) = cntTo f n p
  | 0, _ => rfl
  | d + 1, h => by
    have ih := cnt_flat (f := f) (n := n) (p := p) d (fun j h1 h2 => h j h1 (by omega))
    rw [← Nat.add_assoc, cnt_no, ih]
    have := h (p + d) (by omega) (by omega)
    rintro (h1 | ⟨h1, _⟩)
    · exact this.1 h1
    · exact this.2 h1

/-- what one step of the reader finds: e: where the content ends; s: where the next line starts -/
def StepIs (f : Nat → Int) (n p e s : Nat) : Prop :=
  p ≤ e ∧ e ≤ s ∧ s ≤ n ∧ p < s ∧ (∀ j, p ≤ j → j < e → ¬ f j = 10 ∧ ¬ f j = 13) ∧
  ((s = e ∧ s = n) ∨ (s = e + 1 ∧ e < n ∧ (f e = 10 ∨ (f e = 13 ∧ ¬ (s < n ∧ f s = 10)))) ∨ (s = e + 2 ∧ e + 1 < n ∧ f e = 13 ∧ f (e + 1) = 10))

theorem StepIs.count {f : Nat → Int} {n p e s : Nat} (h : StepIs f n p e s) (hp : p < n) : (s < n → cntTo f n s = cntTo f n p + 1) ∧ (s = n → total f n = cntTo f n p + 1) := by
  obtain ⟨h1, h2, h3, h4, h5, h6⟩ := h
  obtain ⟨d, rfl⟩ : ∃ d, e = p + d := ⟨e - p, by omega⟩
  have hf := cnt_flat (f := f) (n := n) (p := p) d h5
  rcases h6 with ⟨rfl, h7⟩ | ⟨rfl, h7, h8⟩ | ⟨rfl, h7, h8, h9⟩
  · refine ⟨fun h => by omega, fun _ => ?_⟩
    have hl := h5 (n - 1) (by omega) (by omega)
    rw [total_open (by omega) hl.1 hl.2, (congrArg (cntTo f n) h7).symm, hf]
  · have hc := cnt_yes (f := f) (n := n) (k := p + d) h8
    refine ⟨fun _ => by rw [hc, hf], fun hn => ?_⟩
    rw [total_shut, (congrArg (cntTo f n) hn).symm, hc, hf]
    rw [← hn, Nat.add_sub_cancel]
    rcases h8 with h8 | h8
    · exact .inr (.inl h8)
    · exact .inr (.inr h8.1)
  · have hc1 := cnt_no (f := f) (n := n) (k := p + d) (by
      rintro (h | h)
      · rw [h8] at h; exact absurd h (by decide)
      · exact h.2 ⟨h7, h9⟩)
    have hc2 := cnt_yes (f := f) (n := n) (k := p + d + 1) (.inl h9)
    refine ⟨fun _ => by rw [show p + d + 2 = p + d + 1 + 1 from rfl, hc2, hc1, hf], fun hn => ?_⟩
    rw [total_shut, (congrArg (cntTo f n) hn).symm, show p + d + 2 = p + d + 1 + 1 from rfl, hc2, hc1, hf]
    rw [← hn]
    exact .inr (.inl h9)

/-- the step out of the two searches -/
theorem step_of {f : Nat → Int} {n p L C : Nat} (hp : p < n) (hL : IsFirst f n 10 p L) (hC : IsFirst f n 13 p C) :
    (L ≤ C → C = n → L = n → StepIs f n p n n) ∧
    (L < C → L < n → StepIs f n p L (L + 1)) ∧
    (C < L → C < n → (C + 1 < n ∧ f (C + 1) = 10) → StepIs f n p C (C + 2)) ∧
    (C < L → C < n → ¬ (C + 1 < n ∧ f (C + 1) = 10) → StepIs f n p C (C + 1)) ∧ (L = C → L = n) := by
  obtain ⟨a1, a2, a3, a4⟩ := hL
  obtain ⟨b1, b2, b3, b4⟩ := hC
  refine ⟨fun h1 h2 h3 => ?_, fun h1 h2 => ?_, fun h1 h2 h3 => ?_, fun h1 h2 h3 => ?_, fun h1 => ?_⟩
  · exact ⟨by omega, Nat.le_refl _, Nat.le_refl _, hp, fun j h4 h5 => ⟨a3 j h4 (by omega), b3 j h4 (by omega)⟩, .inl ⟨rfl, rfl⟩⟩
  · exact ⟨a1, by omega, by omega, by omega, fun j h4 h5 => ⟨a3 j h4 h5, b3 j h4 (by omega)⟩, .inr (.inl ⟨rfl, h2, .inl (a4 h2)⟩)⟩
  · exact ⟨b1, by omega, by omega, by omega, fun j h4 h5 => ⟨a3 j h4 (by omega), b3 j h4 h5⟩, .inr (.inr ⟨rfl, h3.1, b4 h2, h3.2⟩)⟩
  · exact ⟨b1, by omega, by omega, by omega, fun j h4 h5 => ⟨a3 j h4 (by omega), b3 j h4 h5⟩, .inr (.inl ⟨rfl, h2, .inr ⟨b4 h2, h3⟩⟩)⟩
  · by_cases h : L < n
    · have := a4 h
      have h2 := b4 (by omega)
      rw [← h1, this] at h2
      exact absurd h2 (by decide)
    · omega

theorem indexByte_spec : ∀ (l : List UInt8) (c : UInt8), (Lib.indexByte l c = -1 ∧ ∀ j (h : j < l.length), ¬ l[j] = c) ∨ (∃ k : Nat, Lib.indexByte l c = (k : Int) ∧ ∃ h : k < l.length, l[k] = c ∧ ∀ j (hj : j < l.length), j < k → ¬ l[j] = c)
  | [], c => .inl ⟨rfl, fun j h => absurd h (Nat.not_lt_zero _)⟩
  | b :: l, c => by
    by_cases hb : b = c
    · refine .inr ⟨0, ?_, by simp, hb, fun j _ h => absurd h (Nat.not_lt_zero _)⟩
      unfold Lib.indexByte; rw [if_pos (by simp [hb])]; rfl
    · rcases indexByte_spec l c with ⟨h1, h2⟩ | ⟨k, h1, hk, h2, h3⟩
      · refine .inl ⟨?_, ?_⟩
        · unfold Lib.indexByte; rw [if_neg (by simpa using hb), h1]; rfl
        · intro j hj
          cases j with
          | zero => exact hb
          | succ j => simp only [List.getElem_cons_succ]; exact h2 j (by simpa using hj)
      · refine .inr ⟨k + 1, ?_, by simpa using hk, by simpa using h2, ?_⟩
        · unfold Lib.indexByte; rw [if_neg (by simpa using hb), h1, if_neg (by simp)]; simp
        · intro j hj hlt
          cases j with
          | zero => exact hb
          | succ j => simp only [List.getElem_cons_succ]; exact h3 j (by simpa using hj) (by omega)

end Go.Proofs.Qxb6603146a
