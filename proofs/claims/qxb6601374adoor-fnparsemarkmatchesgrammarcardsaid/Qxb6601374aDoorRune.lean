import Derived.Test.Qxb6601374aDoorParse2
import Derived.Laws.RangeAny
import Derived.Laws.Runes
import Derived.Deep.LoopGhost
import Derived.WalkMore
namespace Go.Proofs.Qxb6601374aDoor
open Go.RowKit

set_option maxHeartbeats 400000 in
theorem validRune49 (r : Int) (w : World) :
    Calls Tryd.prog 49 #[.int .i32 r] w fun e w' => e = .returned (.bool (validRune r)) ∧ w' = w := by
  go_enter Tryd.func49, Tryd.ntmps49
  go_wp2
  all_goals (go_ret; refine ⟨?_, rfl⟩; show Ending.returned (.bool _) = .returned (.bool _); congr 2; rw [Bool.eq_iff_iff]; simp [validRune] <;> omega)

set_option maxHeartbeats 1000000 in
set_option maxRecDepth 100000 in
theorem rune_bad (r : Int) (w : World) (h : 128 ≤ r) (hne : (r == 65533) = false) (hv : validRune r = false) :
    Calls Tryd.prog 33 #[.string ⟨#[60, 62]⟩, .int .i32 r] w fun e w' => e = .returned (.int .i64 (-1)) ∧ w' = w := by
  go_enter Tryd.func33, Tryd.ntmps33
  go_wp2_with (go_at_call 49; refine (validRune49 _ _).mono ?_; rintro e w' ⟨rfl, rfl⟩)
  go_ret
  exact ⟨rfl, rfl⟩

set_option maxHeartbeats 1000000 in
set_option maxRecDepth 100000 in
theorem rune_err (w : World) :
    Calls Tryd.prog 33 #[.string ⟨#[60, 62]⟩, .int .i32 65533] w fun e w' => e = .returned (.int .i64 (-1)) ∧ Below w.heap.size w w' := by
  go_enter Tryd.func33, Tryd.ntmps33
  go_wp2
  go_loopg [5, 6] 2 (fun g _ _ wx => ∃ i : Nat, i + g = 2 ∧ wx = w.iter ⟨#[60, 62]⟩ i)
  case atStart => exact ⟨0, by omega, rfl⟩
  case round =>
    obtain ⟨i, hig, rfl⟩ := hrel
    cases gk with
    | zero =>
      obtain rfl : i = 2 := by omega
      have hnx := fun ty => run_next_end (P := Tryd.prog) w ⟨#[60, 62]⟩ 2 ty (by decide)
      go_wp2
      go_ret
      exact ⟨rfl, (Below.refl _ _).alloc (Nat.le_refl _) _⟩
    | succ g =>
      cases g with
      | zero =>
        obtain rfl : i = 1 := by omega
        have hnx := fun ty => run_next_ascii (P := Tryd.prog) w ⟨#[60, 62]⟩ 1 ty (by decide) (by decide)
        go_wp2
        go_roundg 0
        case measure => omega
        case rel => exact ⟨2, by omega, rfl⟩
      | succ g =>
        obtain rfl : g = 0 := by omega
        obtain rfl : i = 0 := by omega
        have hnx := fun ty => run_next_ascii (P := Tryd.prog) w ⟨#[60, 62]⟩ 0 ty (by decide) (by decide)
        go_wp2
        go_roundg 1
        case measure => omega
        case rel => exact ⟨1, by omega, rfl⟩

set_option maxHeartbeats 1000000 in
set_option maxRecDepth 100000 in
theorem rune_two (r : Int) (x0 x1 : UInt8) (w : World) (h : 128 ≤ r) (hne : (r == 65533) = false) (hv : validRune r = true) (hb : Utf8.encode r = ⟨#[x0, x1]⟩) (hx0 : ((62 : Int) != (x1.toNat : Int)) = true) :
    Calls Tryd.prog 33 #[.string ⟨#[60, 62]⟩, .int .i32 r] w fun e w' => e = .returned (.int .i64 (-1)) ∧ Below w.heap.size w w' := by
  have hmt : decide (r < 128) = false := decide_eq_false (by omega)
  have hx : ((((⟨#[60, 62]⟩ : ByteArray)[1]'(by decide)).toNat : Int) != (((⟨#[x0, x1]⟩ : ByteArray)[1]'(show 1 < 2 by decide)).toNat : Int)) = true := hx0
  clear hx0
  go_enter Tryd.func33, Tryd.ntmps33
  go_wp2_with (go_at_call 49; refine (validRune49 _ _).mono ?_; rintro e w' ⟨rfl, rfl⟩)
  go_step3
  go_wp2
  go_loop [9] (fun i => i = .int .i64 1) (fun _ => 0)
  case atStart => rfl
  case round =>
    subst hrel
    go_wp2
    go_step3
    go_wp2
    go_quiet (fail)
    go_wp2
    have hwr : IntKind.i64.wrap 2 = 2 := by rw [IntKind.wrap_i64]; rfl
    have HQ : Hid (Below w'.heap.size w' (w'.drewN nq)) := below_drewN (Below.refl _ _) _
    generalize w'.drewN nq = wq at *
    go_quiet ((go_at_call 48; exact Calls.quiet_of_same (indexByte48 _ _ _)))
    go_wp2
    rw [Exit.noGoto_ret]
    go_wp2
    rw [Exit.noGoto_ret]
    go_ret
    exact ⟨rfl, below_drewN HQ.out _⟩

set_option maxHeartbeats 1000000 in
set_option maxRecDepth 100000 in
theorem rune_many (r : Int) (b : ByteArray) (w : World) (h : 128 ≤ r) (hne : (r == 65533) = false) (hv : validRune r = true) (hb : Utf8.encode r = b) (h3 : 3 ≤ b.size) (h4 : b.size ≤ 4) :
    Calls Tryd.prog 33 #[.string ⟨#[60, 62]⟩, .int .i32 r] w fun e w' => e = .returned (.int .i64 (-1)) ∧ Below w.heap.size w w' := by
  have hmt : decide (r < 128) = false := decide_eq_false (by omega)
  go_enter Tryd.func33, Tryd.ntmps33
  go_wp2_with (go_at_call 49; refine (validRune49 _ _).mono ?_; rintro e w' ⟨rfl, rfl⟩)
  go_step3
  go_wp2
  go_loop [9] (fun i => i = .int .i64 ((b.size : Int) - 1)) (fun _ => 0)
  case atStart => rfl
  case round =>
    subst hrel
    go_wp2
    go_ret
    exact ⟨rfl, Below.refl _ _⟩

theorem two_of (b : ByteArray) (h : b.size = 2) : ∃ x0 x1, b = ⟨#[x0, x1]⟩ := by
  obtain ⟨⟨l⟩⟩ := b
  match l, h with
  | [x0, x1], _ => exact ⟨x0, x1, rfl⟩

/-- strings.IndexRune of a rune past ASCII in the two arrow heads: there is none -/
theorem rune_high (r : Int) (w : World) (h : 128 ≤ r) :
    Calls Tryd.prog 33 #[.string ⟨#[60, 62]⟩, .int .i32 r] w fun e w' => e = .returned (.int .i64 (-1)) ∧ Below w.heap.size w w' := by
  cases he : (r == 65533)
  · cases hv : validRune r
    · exact (rune_bad r w h he hv).mono fun e w' ⟨h1, h2⟩ => ⟨h1, h2 ▸ Below.refl _ _⟩
    · obtain ⟨f1, f2, f3⟩ := encode_facts r (by rw [validRune_eq]; exact hv) h
      by_cases h2 : (Utf8.encode r).size = 2
      · obtain ⟨x0, x1, hb⟩ := two_of _ h2
        have h3 := f3 (by omega)
        simp only [hb] at h3
        have h4 : 128 ≤ x1.toNat := h3
        exact rune_two r x0 x1 w h he hv hb (by rw [bne_iff_ne]; omega)
      · exact rune_many r _ w h he hv rfl (by omega) (by omega)
  · obtain rfl : r = 65533 := beq_iff_eq.1 he
    exact rune_err w

theorem get_of (s : ByteArray) (k : Nat) (h : k < s.size) : s.get! k = s[k]'h := by
  simp [ByteArray.get!, getElem!_pos, h]
  rfl

/-- what the decoder takes at a byte past ASCII: a rune past ASCII, and no ASCII byte is swallowed -/
theorem decode_tail (s : ByteArray) (pos : Nat) (h : pos < s.size) (ha : 128 ≤ (s[pos]'h).toNat) :
    ∀ j (hj : j < s.size), pos ≤ j → j < pos + (Utf8.decode s pos).2 → 128 ≤ (s[j]'hj).toNat := by
  have e0 : s.get! (pos + 0) = s[pos]'h := get_of s pos h
  have hc : ∀ k, (decide (pos + k < s.size) && (s.get! (pos + k)).toNat / 64 == 2) = true → ∀ (hj : pos + k < s.size), 128 ≤ (s[pos + k]'hj).toNat := by
    intro k hk hj
    rw [Bool.and_eq_true] at hk
    have := beq_iff_eq.1 hk.2
    rw [get_of s _ hj] at this
    omega
  intro j hj h1 h2
  obtain ⟨k, rfl⟩ : ∃ k, j = pos + k := ⟨j - pos, by omega⟩
  have hk : k < (Utf8.decode s pos).2 := by omega
  clear h1 h2
  by_cases k0 : k = 0
  · subst k0; exact ha
  have hn : ¬ (s.get! (pos + 0)).toNat < 128 := by rw [e0]; omega
  simp only [Utf8.decode] at hk
  rw [if_neg hn] at hk
  split at hk
  · rename_i h1
    rw [Bool.and_eq_true] at h1
    split at hk
    · obtain rfl : k = 1 := by simp at hk; omega
      exact hc 1 h1.2 hj
    · simp at hk; omega
  · split at hk
    · rename_i h1
      rw [Bool.and_eq_true, Bool.and_eq_true] at h1
      split at hk
      · simp at hk
        rcases (show k = 1 ∨ k = 2 by omega) with rfl | rfl
        · exact hc 1 h1.1.2 hj
        · exact hc 2 h1.2 hj
      · simp at hk; omega
    · split at hk
      · rename_i h1
        rw [Bool.and_eq_true, Bool.and_eq_true, Bool.and_eq_true] at h1
        split at hk
        · simp at hk
          rcases (show k = 1 ∨ k = 2 ∨ k = 3 by omega) with rfl | rfl | rfl
          · exact hc 1 h1.1.1.2 hj
          · exact hc 2 h1.1.2 hj
          · exact hc 3 h1.2 hj
        · simp at hk; omega
      · simp at hk; omega

end Go.Proofs.Qxb6601374aDoor
