import Derived.Lib.AtoiAll
import Derived.Lib.Bytealg
namespace Go.Proofs.Qxb6601374aDoor

/-- the model's loop over the digits: v is what stands so far; from 16384 on it stays -/
def slotRun : Nat → List UInt8 → Option Nat
  | v, [] => some v
  | v, c :: r => if 48 ≤ c.toNat ∧ c.toNat ≤ 57 then slotRun (if v < 16384 then v * 10 + (c.toNat - 48) else v) r else none

/-- what stands behind the sign -/
def slotMag (l : List UInt8) : List UInt8 :=
  match l with
  | [] => []
  | c :: r => if c.toNat = 43 ∨ c.toNat = 45 then r else c :: r

def slotNeg (l : List UInt8) : Bool :=
  match l with
  | [] => false
  | c :: _ => decide (c.toNat = 45)

/-- a slot: an optional sign, then digits, of value below 16384; behind '-' only 0 -/
def slotL (l : List UInt8) : Option Nat :=
  if slotMag l = [] then none
  else match slotRun 0 (slotMag l) with
    | none => none
    | some v => if 16384 ≤ v ∨ (slotNeg l = true ∧ ¬ v = 0) then none else some v

theorem slotRun_le : ∀ (l : List UInt8) (v r : Nat), v ≤ 200000 → slotRun v l = some r → r ≤ 200000
  | [], v, r, h, e => by simp only [slotRun] at e; injection e with e; omega
  | c :: l, v, r, h, e => by
    simp only [slotRun] at e
    split at e
    · exact slotRun_le l _ r (by split <;> omega) e
    · cases e

theorem slotRun_big : ∀ (l : List UInt8) (v r : Nat), 16384 ≤ v → slotRun v l = some r → 16384 ≤ r
  | [], v, r, h, e => by simp only [slotRun] at e; injection e with e; omega
  | c :: l, v, r, h, e => by
    simp only [slotRun] at e
    split at e
    · rw [if_neg (by omega)] at e; exact slotRun_big l v r h e
    · cases e

/-- the two readings side by side: acc is strconv's, v the model's -/
def Inv (acc v : Nat) : Prop := (acc < 16384 ∧ v = acc) ∨ (16384 ≤ acc ∧ 16384 ≤ v)

theorem inv_step {acc v d : Nat} (h : Inv acc v) : Inv (acc * 10 + d) (if v < 16384 then v * 10 + d else v) := by
  rcases h with ⟨h1, rfl⟩ | ⟨h1, h2⟩
  · rw [if_pos h1]
    by_cases e : v * 10 + d < 16384
    · exact .inl ⟨e, rfl⟩
    · exact .inr ⟨by omega, by omega⟩
  · rw [if_neg (by omega)]
    exact .inr ⟨by omega, h2⟩

theorem run_ok : ∀ (l : List UInt8) (acc v u : Nat), Inv acc v → Lib.parseUint10 acc l = .ok u → ∃ r, slotRun v l = some r ∧ Inv u r
  | [], acc, v, u, h, e => by
    simp only [Lib.parseUint10] at e
    injection e with e
    subst e
    exact ⟨v, rfl, h⟩
  | c :: l, acc, v, u, h, e => by
    simp only [Lib.parseUint10] at e
    split at e
    · rename_i hd
      split at e
      · cases e
      · split at e
        · cases e
        · obtain ⟨r, hr, hi⟩ := run_ok l _ _ u (inv_step h) e
          exact ⟨r, by simp only [slotRun]; rw [if_pos hd]; exact hr, hi⟩
    · cases e

/-- the end that is neither a number nor past the range -/
def isBad {α : Type} (x : Lib.NumEnd α) : Bool :=
  match x with
  | .ok _ => false
  | .range => false
  | _ => true

theorem run_bad : ∀ (l : List UInt8) (acc v : Nat), isBad (Lib.parseUint10 acc l) = true → slotRun v l = none
  | [], acc, v, e => by simp only [Lib.parseUint10, isBad] at e; cases e
  | c :: l, acc, v, e => by
    simp only [Lib.parseUint10] at e
    simp only [slotRun]
    split at e
    · rename_i hd
      rw [if_pos hd]
      split at e
      · cases e
      · split at e
        · cases e
        · exact run_bad l _ _ e
    · rename_i hd
      rw [if_neg hd]

theorem run_range : ∀ (l : List UInt8) (acc v r : Nat), Inv acc v → Lib.parseUint10 acc l = .range → slotRun v l = some r → 16384 ≤ r
  | [], acc, v, r, h, e, _ => by simp only [Lib.parseUint10] at e; cases e
  | c :: l, acc, v, r, h, e, hr => by
    simp only [Lib.parseUint10] at e
    simp only [slotRun] at hr
    split at e
    · rename_i hd
      rw [if_pos hd] at hr
      split at e
      · refine slotRun_big l _ r ?_ hr
        rcases h with ⟨h1, rfl⟩ | ⟨h1, h2⟩
        · omega
        · rw [if_neg (by omega)]; exact h2
      · split at e
        · refine slotRun_big l _ r ?_ hr
          rcases h with ⟨h1, rfl⟩ | ⟨h1, h2⟩
          · have := c.toNat_lt; omega
          · rw [if_neg (by omega)]; exact h2
        · exact run_range l _ _ r (inv_step h) e hr
    · cases e

theorem inv0 : Inv 0 0 := .inl ⟨by decide, rfl⟩

/-- what parseSlot answers: its number where it takes the text; none where it does not -/
def goSlot (l : List UInt8) : Option Nat :=
  match Lib.atoiAll l with
  | .ok v => if 0 ≤ v ∧ v < 16384 then some v.toNat else none
  | _ => none

theorem goSlot_none {l : List UInt8} (h : ∀ v, ¬ Lib.atoiAll l = .ok v) : goSlot l = none := by
  unfold goSlot
  split
  · rename_i v hv
    exact absurd hv (h v)
  · rfl

theorem atoi_ok {l : List UInt8} (hl : ¬ l = []) {u : Nat} (h : Lib.parseMag (slotMag l) = .ok u) : Lib.atoiAll l =
    if slotNeg l = false ∧ 9223372036854775808 ≤ u then .range
    else if slotNeg l = true ∧ 9223372036854775808 < u then .range
    else .ok (if slotNeg l = true then -(u : Int) else u) := by
  cases l with
  | nil => exact absurd rfl hl
  | cons c r =>
    simp only [slotMag] at h
    simp only [Lib.atoiAll, slotNeg]
    rw [h]
    simp only [decide_eq_true_eq, decide_eq_false_iff_not]

theorem atoi_not {l : List UInt8} (h : ∀ u, ¬ Lib.parseMag (slotMag l) = .ok u) : ∀ v, ¬ Lib.atoiAll l = .ok v := by
  intro v e
  cases l with
  | nil => simp only [Lib.atoiAll] at e; cases e
  | cons c r =>
    simp only [slotMag] at h
    simp only [Lib.atoiAll] at e
    split at e
    · cases e
    · cases e
    · rename_i u hu
      exact h u hu

theorem atoi_nil : ∀ v, ¬ Lib.atoiAll [] = .ok v := by
  intro v e
  simp only [Lib.atoiAll] at e
  cases e

theorem goSlot_eq (l : List UInt8) : goSlot l = slotL l := by
  by_cases hl : l = []
  · subst hl
    rw [goSlot_none atoi_nil]
    rfl
  · unfold slotL
    by_cases hm : slotMag l = []
    · rw [if_pos hm]
      refine goSlot_none (atoi_not fun u e => ?_)
      unfold Lib.parseMag at e
      rw [if_pos hm] at e
      cases e
    · rw [if_neg hm]
      have hp : Lib.parseMag (slotMag l) = Lib.parseUint10 0 (slotMag l) := by unfold Lib.parseMag; rw [if_neg hm]
      rcases he : Lib.parseUint10 0 (slotMag l) with u | _ | _
      · obtain ⟨r, hr, hi⟩ := run_ok _ 0 0 u inv0 he
        have ha := atoi_ok hl (hp.trans he)
        rw [hr]
        simp only
        unfold goSlot
        cases hn : slotNeg l
        · rw [hn] at ha
          by_cases hb : 9223372036854775808 ≤ u
          · rw [if_pos ⟨rfl, hb⟩] at ha
            rw [ha]
            simp only
            rw [if_pos]
            rcases hi with ⟨h1, h2⟩ | ⟨h1, h2⟩
            · omega
            · exact .inl h2
          · rw [if_neg (by simp only [true_and]; exact hb), if_neg (by simp)] at ha
            rw [ha]
            simp only [Bool.false_eq_true, if_false]
            rcases hi with ⟨h1, rfl⟩ | ⟨h1, h2⟩
            · rw [if_pos (by omega), if_neg (by simp; omega)]
              simp
            · rw [if_neg (by omega), if_pos (.inl h2)]
        · rw [hn] at ha
          by_cases hb : 9223372036854775808 < u
          · rw [if_neg (by simp), if_pos ⟨rfl, hb⟩] at ha
            rw [ha]
            simp only
            rw [if_pos]
            rcases hi with ⟨h1, h2⟩ | ⟨h1, h2⟩
            · omega
            · exact .inl h2
          · rw [if_neg (by simp), if_neg (by simp only [true_and]; exact hb)] at ha
            rw [ha]
            simp only [if_true]
            rcases hi with ⟨h1, rfl⟩ | ⟨h1, h2⟩
            · by_cases h0 : r = 0
              · subst h0; rfl
              · rw [if_neg (by omega), if_pos (.inr ⟨trivial, h0⟩)]
            · rw [if_neg (by omega), if_pos (.inl h2)]
      · rw [goSlot_none (atoi_not fun u e => by rw [hp, he] at e; cases e)]
        rw [run_bad _ 0 0 (by rw [he]; rfl)]
      · rw [goSlot_none (atoi_not fun u e => by rw [hp, he] at e; cases e)]
        cases hr : slotRun 0 (slotMag l) with
        | none => rfl
        | some r =>
          have := run_range _ 0 0 r inv0 he hr
          simp only
          rw [if_pos (Or.inl this)]

end Go.Proofs.Qxb6601374aDoor
