import Derived.Test.Qxb6601374aDoorRune
import Derived.Lib.OthersKept
import Derived.Lib.IndexAny
import Derived.Deep.WholeRow
namespace Go.Proofs.Qxb6601374aDoor
open Go.RowKit

/-- the place of the first arrow head -/
def arrowAt (l : List UInt8) : Int := Lib.indexAny l [60, 62]

def AnyPost (s : ByteArray) (w : World) (e : Ending) (w' : World) : Prop :=
  e = .returned (.int .i64 (arrowAt s.data.toList)) ∧ Below w.heap.size w w'

theorem zero77 : (Tryd.prog.info? 77).map (fun i => (i.zero, i.size)) = some (some (.agg (Array.replicate 256 (.bool false))), 256) := by kernel_rfl

theorem any_long (s : ByteArray) (w : World) (hs : s.size ≤ 1048576) (h8 : 8 < s.size) :
    Calls Tryd.prog 22 #[.string s, .string ⟨#[60, 62]⟩] w (AnyPost s w) := by
  refine (Tryd.strings_IndexAny_long (zero_of_info zero77).1 s ⟨#[60, 62]⟩ w (by decide) h8 (by omega) (by decide) ?_).mono ?_
  · intro j b hj
    match j, hj with
    | 0, hj => simp at hj; subst hj; decide
    | 1, hj => simp at hj; subst hj; decide
    | j + 2, hj => simp at hj
  · rintro e w' ⟨rfl, rfl⟩
    exact ⟨rfl, ((Below.refl _ _).alloc (Nat.le_refl _) _).alloc (by simp) _⟩

/-- none of the first i bytes is an arrow head -/
def NoArrow (s : ByteArray) (i : Nat) : Prop := ∀ k (h : k < s.size), k < i → ¬ s[k].toNat = 60 ∧ ¬ s[k].toNat = 62

theorem noArrow_lib {s : ByteArray} {i : Nat} (h : NoArrow s i) : Lib.NoAny s.data.toList [60, 62] i := by
  intro j b hj hb
  obtain ⟨hlt, e⟩ := List.getElem?_eq_some_iff.1 hb
  have hk : j < s.size := by rw [Lib.size_eq]; exact hlt
  have := h j hk hj
  rw [byte_list s j hk, e] at this
  simp only [List.contains_cons, List.contains_nil, Bool.or_false]
  rw [Bool.or_eq_false_iff]
  refine ⟨?_, ?_⟩
  · rw [beq_eq_false_iff_ne]; rintro rfl; exact this.1 rfl
  · rw [beq_eq_false_iff_ne]; rintro rfl; exact this.2 rfl

theorem arrow_hit {s : ByteArray} {i : Nat} (h : NoArrow s i) (hi : i < s.size) (hb : s[i].toNat = 60 ∨ s[i].toNat = 62) : arrowAt s.data.toList = (i : Int) := by
  refine Lib.indexAny_hit (noArrow_lib h) (x := s[i]) ?_ ?_
  · rw [byte_list s i hi]; exact List.getElem?_eq_getElem _
  · have : s[i] = 60 ∨ s[i] = 62 := by
      rcases hb with hb | hb
      · exact .inl (UInt8.toNat_inj.1 hb)
      · exact .inr (UInt8.toNat_inj.1 hb)
    rcases this with e | e <;> rw [e] <;> rfl

theorem arrow_none {s : ByteArray} {i : Nat} (h : NoArrow s i) (hi : s.size ≤ i) : arrowAt s.data.toList = -1 := by
  refine Lib.indexAny_none ?_
  rw [← Lib.size_eq]
  exact noArrow_lib fun k hk hlt => h k hk (by omega)

theorem ix_byte (x : UInt8) : Lib.indexByte [60, 62] x = if x.toNat = 60 then 0 else if x.toNat = 62 then 1 else -1 := by
  by_cases h0 : x.toNat = 60
  · rw [if_pos h0]
    have : x = 60 := UInt8.toNat_inj.1 h0
    subst this; rfl
  · rw [if_neg h0]
    have n0 : ¬ (60 : UInt8) = x := fun e => h0 (by rw [← e]; rfl)
    by_cases h1 : x.toNat = 62
    · rw [if_pos h1]
      have : x = 62 := UInt8.toNat_inj.1 h1
      subst this; rfl
    · rw [if_neg h1]
      have n1 : ¬ (62 : UInt8) = x := fun e => h1 (by rw [← e]; rfl)
      simp [Lib.indexByte, n0, n1]

/-- the iterator's block, and all below it -/
def IterAt (s : ByteArray) (w wx : World) (i : Nat) : Prop := wx.heap[w.heap.size]? = some (.stringIter s i) ∧ Below w.heap.size w wx ∧ w.heap.size < wx.heap.size

theorem IterAt.step {s : ByteArray} {w wx : World} {i : Nat} (h : IterAt s w wx i) (j : Nat) : IterAt s w (wx.iterAt w.heap.size s j) j :=
  ⟨Lib.iterAt_heap _ _ _ _ _ h.1, Lib.below_iterAt h.2.1 (Nat.le_refl _) _ _, by rw [Lib.iterAt_size]; exact h.2.2⟩

theorem IterAt.below {s : ByteArray} {w wx wy : World} {i : Nat} (h : IterAt s w wx i) (hb : Below wx.heap.size wx wy) : IterAt s w wy i :=
  ⟨(hb.block _ h.2.2).trans h.1, h.2.1.trans (hb.mono (Nat.le_of_lt h.2.2)), Nat.lt_of_lt_of_le h.2.2 hb.size⟩

set_option maxHeartbeats 4000000 in
set_option maxRecDepth 100000 in
theorem any_short (s : ByteArray) (w : World) (h8 : s.size ≤ 8) :
    Calls Tryd.prog 22 #[.string s, .string ⟨#[60, 62]⟩] w (AnyPost s w) := by
  have h8z : decide ((8 : Int) < (s.size : Int)) = false := decide_eq_false (by omega)
  go_enter Tryd.func22, Tryd.ntmps22
  go_wp2_with (go_at_call 34; refine (Tryd.strings_shouldUseASCIISet _ _).mono ?_; rintro e w' ⟨rfl, hw⟩; rw [hw, h8z])
  go_loopg [9, 10] s.size (fun g _ _ wx => ∃ i : Nat, s.size ≤ i + g ∧ IterAt s w wx i ∧ NoArrow s i)
  case atStart => exact ⟨0, by omega, ⟨World.iter_heap w s 0, (Below.refl _ _).alloc (Nat.le_refl _) _, by show w.heap.size < (w.heap.push _).size; simp⟩, fun _ _ h => absurd h (Nat.not_lt_zero _)⟩
  case round =>
    obtain ⟨i, hig, hit, hno⟩ := hrel
    have HI : Hid (IterAt s w wr i) := hit
    have HN : Hid (NoArrow s i) := hno
    clear hno
    by_cases hi : i < s.size
    · by_cases ha : (s[i].toNat) < 128
      · have hnx := fun ty => Lib.run_next_ascii_at (P := Tryd.prog) wr w.heap.size s i ty hit.1 hi ha
        obtain ⟨x, hx⟩ : ∃ x : UInt8, s[i] = x := ⟨_, rfl⟩
        rw [hx] at hnx ha
        have HX : Hid (s[i] = x) := hx
        clear hx hit
        have hc := fun w => Tryd.strings_IndexRune_ascii ⟨#[60, 62]⟩ (x.toNat : Int) w (by omega) (by omega)
        have hxx : ((x.toNat : Int)).toNat.toUInt8 = x := by simp
        simp only [hxx] at hc
        simp only [ix_byte] at hc
        clear hxx
        by_cases hb : x.toNat = 60 ∨ x.toNat = 62
        · have HE : Hid (arrowAt s.data.toList = (i : Int)) := arrow_hit HN.out hi (by rw [HX.out]; exact hb)
          obtain ⟨v, hv, hc2⟩ : ∃ v : Int, 0 ≤ v ∧ ∀ w, Calls Tryd.prog 33 #[.string ⟨#[60, 62]⟩, .int .i32 (x.toNat : Int)] w fun e w' => e = .returned (.int .i64 v) ∧ w' = w :=
            ⟨_, by split <;> omega, hc⟩
          clear hc hb
          go_wp2_with fail
          refine (hc2 _).mono ?_
          rintro e w1 ⟨rfl, rfl⟩
          go_wp2
          go_ret
          exact ⟨by rw [HE.out]; rfl, (HI.out.step _).2.1⟩
        · have HN2 : Hid (NoArrow s (i + 1)) := by
            intro k hk hlt
            by_cases e : k = i
            · subst e; rw [HX.out]; exact ⟨fun h => hb (.inl h), fun h => hb (.inr h)⟩
            · exact HN.out k hk (by omega)
          have hc2 : ∀ w, Calls Tryd.prog 33 #[.string ⟨#[60, 62]⟩, .int .i32 (x.toNat : Int)] w fun e w' => e = .returned (.int .i64 (-1)) ∧ w' = w := by
            rw [if_neg (fun h => hb (.inl h)), if_neg (fun h => hb (.inr h))] at hc
            exact hc
          clear hc hb
          obtain ⟨g, hg⟩ : ∃ g, gk = g + 1 := ⟨gk - 1, by omega⟩
          have hgg : s.size ≤ i + 1 + g := by omega
          have hgl : g < gk := by omega
          clear hg
          go_wp2_with fail
          refine (hc2 _).mono ?_
          rintro e w1 ⟨rfl, rfl⟩
          go_wp2
          go_roundg g
          case measure => omega
          case rel => exact ⟨i + 1, by omega, HI.out.step _, HN2⟩
      · have hd := decode_high s i hi (by omega)
        have ht := decode_tail s i hi (by omega)
        have hnx := fun ty => Lib.run_next_any_at (P := Tryd.prog) wr w.heap.size s i ty hit.1 hi
        obtain ⟨r, hr⟩ : ∃ r : Nat, (Utf8.decode s i).1 = r := ⟨_, rfl⟩
        obtain ⟨m, hm⟩ : ∃ m : Nat, (Utf8.decode s i).2 = m := ⟨_, rfl⟩
        rw [hr, hm] at hd hnx
        rw [hm] at ht
        clear hr hm hit
        have HN2 : Hid (NoArrow s (i + m)) := by
          intro k hk hlt
          by_cases e : k < i
          · exact HN.out k hk e
          · have := ht k hk (by omega) hlt
            omega
        clear ht
        obtain ⟨hd1, hd2⟩ := hd
        obtain ⟨g, hg⟩ : ∃ g, gk = g + 1 := ⟨gk - 1, by omega⟩
        have hgg : s.size ≤ i + m + g := by omega
        have hgl : g < gk := by omega
        clear hg
        go_wp2_with fail
        refine (rune_high _ _ (by omega)).mono ?_
        rintro e w1 ⟨rfl, hb1⟩
        have HB : Hid (IterAt s w w1 (i + m)) := (HI.out.step _).below hb1
        clear hb1
        go_wp2
        go_roundg g
        case measure => omega
        case rel => exact ⟨i + m, by omega, HB, HN2⟩
    · have hnx := fun ty => Lib.run_next_end_at (P := Tryd.prog) wr w.heap.size s i ty hit.1 hi
      have HE : Hid (arrowAt s.data.toList = -1) := arrow_none HN.out (by omega)
      clear hit
      go_wp2
      go_ret
      exact ⟨by rw [HE.out]; rfl, HI.out.2.1⟩

theorem indexAny_any (s : ByteArray) (w : World) (hs : s.size ≤ 1048576) :
    Calls Tryd.prog 22 #[.string s, .string ⟨#[60, 62]⟩] w (AnyPost s w) := by
  by_cases h8 : s.size ≤ 8
  · exact any_short s w h8
  · exact any_long s w hs (by omega)

end Go.Proofs.Qxb6601374aDoor
