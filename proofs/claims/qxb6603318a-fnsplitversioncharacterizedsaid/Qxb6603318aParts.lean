import Derived.Test.Qxb6603318aLibs
namespace Go.Proofs.Qxb6603318a
open Go.RowKit

/-- what the law asks of the parts -/
def Good (s ep up rev : ByteArray) (sg : Int) (he hr : Bool) : Prop :=
  (sg = 0 ∨ sg = 43 ∨ sg = 45) ∧ (¬ sg = 0 → he = true) ∧ Lacks ep 58 ∧ Lacks rev 45 ∧ (he = false → ep = ⟨#[]⟩ ∧ Lacks s 58) ∧
  (he = true → sg = 0 → ep = ⟨#[]⟩ ∨ ∃ h : 0 < ep.size, ¬ (ep[0].toNat : Int) = 43 ∧ ¬ (ep[0].toNat : Int) = 45) ∧
  (hr = false → rev = ⟨#[]⟩ ∧ Lacks up 45) ∧ joinB ep up rev sg he hr = s ∧ ep.size ≤ 1048576 ∧ up.size ≤ 1048576 ∧ rev.size ≤ 1048576

/-- the version part cut at its last dash -/
def Tail (up0 up rev : ByteArray) (hr : Bool) : Prop :=
  (hr = false ∧ up = up0 ∧ rev = ⟨#[]⟩ ∧ Lacks up0 45) ∨ (∃ d, hr = true ∧ Dash up0 d ∧ up = up0.extract 0 d ∧ rev = up0.extract (d + 1) up0.size)

/-- the epoch's part -/
def Head (s ep : ByteArray) (sg : Int) (he : Bool) (up0 : ByteArray) : Prop :=
  (sg = 0 ∨ sg = 43 ∨ sg = 45) ∧ (¬ sg = 0 → he = true) ∧ Lacks ep 58 ∧ (he = false → ep = ⟨#[]⟩ ∧ Lacks s 58) ∧
  (he = true → sg = 0 → ep = ⟨#[]⟩ ∨ ∃ h : 0 < ep.size, ¬ (ep[0].toNat : Int) = 43 ∧ ¬ (ep[0].toNat : Int) = 45) ∧
  (if he then sgn sg ++ ep ++ ⟨#[58]⟩ else sgn sg ++ ep) ++ up0 = s ∧ ep.size ≤ s.size ∧ up0.size ≤ s.size

theorem lacks_empty (c : Int) : Lacks ⟨#[]⟩ c := fun _ h => absurd h (Nat.not_lt_zero _)

theorem app_data (a b : ByteArray) : (a ++ b).data.toList = a.data.toList ++ b.data.toList := by simp

theorem cut_join (s : ByteArray) (k : Nat) (c : UInt8) (hk : k < s.size) (hc : s[k] = c) : s.extract 0 k ++ ⟨#[c]⟩ ++ s.extract (k + 1) s.size = s := by
  apply ba_ext
  rw [app_data, app_data, Lib.extract_data, Lib.extract_data, List.drop_zero]
  have e : List.take (s.size - (k + 1)) (List.drop (k + 1) s.data.toList) = List.drop (k + 1) s.data.toList := List.take_of_length_le (by rw [List.length_drop, ← Lib.size_eq]; exact Nat.le_refl _)
  rw [e]
  have hk' : k < s.data.toList.length := by rw [← Lib.size_eq]; exact hk
  have h2 : (⟨#[c]⟩ : ByteArray).data.toList = [s.data.toList[k]] := by rw [← byte_list s k hk, hc]
  rw [h2, Nat.sub_zero, List.take_append_getElem hk', List.take_append_drop]

theorem ext_get (s : ByteArray) (a b j : Nat) (h : j < (s.extract a b).size) (h2 : a + j < s.size) : (s.extract a b)[j] = s[a + j] := by
  rw [byte_list _ j h, byte_list s _ h2]
  simp only [Lib.extract_data]
  rw [List.getElem_take, List.getElem_drop]

theorem ext_size (s : ByteArray) (a b : Nat) : (s.extract a b).size = min b s.size - a := by simp

theorem byte_of {x : UInt8} {c : UInt8} (h : (x.toNat : Int) = (c.toNat : Int)) : x = c := UInt8.toNat_inj.1 (by omega)

theorem tail_none {s : ByteArray} (h : Lacks s 45) : Tail s s ⟨#[]⟩ false := .inl ⟨rfl, rfl, rfl, h⟩
theorem tail_some {s : ByteArray} {d : Nat} (h : Dash s d) : Tail s (s.extract 0 d) (s.extract (d + 1) s.size) true := .inr ⟨d, rfl, h, rfl, rfl⟩

theorem good_of {s ep up rev up0 : ByteArray} {sg : Int} {he hr : Bool} (hs : s.size ≤ 1048576) (hH : Head s ep sg he up0) (hT : Tail up0 up rev hr) : Good s ep up rev sg he hr := by
  obtain ⟨a1, a2, a3, a4, a5, a6, a7, a8⟩ := hH
  rcases hT with ⟨rfl, rfl, rfl, b4⟩ | ⟨d, rfl, ⟨hd, hd2, hd3⟩, rfl, rfl⟩
  · refine ⟨a1, a2, a3, lacks_empty _, a4, a5, fun _ => ⟨rfl, b4⟩, ?_, by omega, by omega, Nat.zero_le _⟩
    rw [← a6]; rfl
  · have e1 := ext_size up0 0 d
    have e2 := ext_size up0 (d + 1) up0.size
    refine ⟨a1, a2, a3, ?_, a4, a5, (fun h => by cases h), ?_, by omega, by omega, by omega⟩
    · intro j hj
      rw [ext_get up0 _ _ j hj (by omega)]
      exact hd3 _ _ (by omega)
    · rw [← a6]
      show _ ++ up0.extract 0 d ++ ⟨#[45]⟩ ++ up0.extract (d + 1) up0.size = _
      have := cut_join up0 d 45 hd (byte_of hd2)
      rw [ByteArray.append_assoc, ByteArray.append_assoc, ← ByteArray.append_assoc (a := up0.extract 0 d), this]

theorem head_none {s : ByteArray} (h : Lacks s 58) : Head s ⟨#[]⟩ 0 false s := by
  refine ⟨.inl rfl, fun h => absurd rfl h, lacks_empty _, fun _ => ⟨rfl, h⟩, (fun h => by cases h), ?_, Nat.zero_le _, Nat.le_refl _⟩
  apply ba_ext
  simp [sgn]

theorem colon_lacks {s : ByteArray} {k : Nat} (h : Colon s k) : Lacks (s.extract 0 k) 58 := by
  obtain ⟨hk, h1, h2⟩ := h
  intro j hj
  have e := ext_size s 0 k
  rw [ext_get s 0 k j hj (by omega)]
  exact h2 _ _ (by omega)

theorem head_plain {s : ByteArray} {k : Nat} (h : Colon s k) (hp : s.extract 0 k = ⟨#[]⟩ ∨ ∃ hh : 0 < (s.extract 0 k).size, ¬ ((s.extract 0 k)[0].toNat : Int) = 43 ∧ ¬ ((s.extract 0 k)[0].toNat : Int) = 45) :
    Head s (s.extract 0 k) 0 true (s.extract (k + 1) s.size) := by
  have e1 := ext_size s 0 k
  have e2 := ext_size s (k + 1) s.size
  refine ⟨.inl rfl, fun h => absurd rfl h, colon_lacks h, (fun h => by cases h), fun _ _ => hp, ?_, by omega, by omega⟩
  have := cut_join s k 58 h.1 (byte_of h.2.1)
  have e0 : sgn 0 ++ s.extract 0 k = s.extract 0 k := by apply ba_ext; simp [sgn]
  show sgn 0 ++ s.extract 0 k ++ ⟨#[58]⟩ ++ s.extract (k + 1) s.size = s
  rw [e0]; exact this

theorem sign_join (ep : ByteArray) (sg : Int) (h0 : 0 < ep.size) (hsg : (ep[0].toNat : Int) = sg) (h : sg = 43 ∨ sg = 45) : sgn sg ++ ep.extract 1 ep.size = ep := by
  apply ba_ext
  rw [app_data, Lib.extract_data]
  have e : List.take (ep.size - 1) (List.drop 1 ep.data.toList) = List.drop 1 ep.data.toList := List.take_of_length_le (by rw [List.length_drop, ← Lib.size_eq]; exact Nat.le_refl _)
  rw [e]
  have hl : ep.data.toList = ep[0] :: List.drop 1 ep.data.toList := by
    have h0' : 0 < ep.data.toList.length := by rw [← Lib.size_eq]; exact h0
    have := List.drop_eq_getElem_cons h0'
    rw [List.drop_zero] at this
    rw [byte_list ep 0 h0]
    exact this
  rcases h with h | h
  · have hb : ep[0] = 43 := byte_of (c := 43) (by rw [hsg, h]; rfl)
    subst h
    conv => rhs; rw [hl, hb]
    rfl
  · have hb : ep[0] = 45 := byte_of (c := 45) (by rw [hsg, h]; rfl)
    subst h
    conv => rhs; rw [hl, hb]
    rfl

theorem head_sign {s : ByteArray} {k : Nat} (h : Colon s k) (ep0 : ByteArray) (hep : s.extract 0 k = ep0) (h0 : 0 < ep0.size) (sg : Int) (hsg : (ep0[0].toNat : Int) = sg) (hp : sg = 43 ∨ sg = 45) :
    Head s (ep0.extract 1 ep0.size) sg true (s.extract (k + 1) s.size) := by
  have e1 := ext_size s 0 k
  have e2 := ext_size s (k + 1) s.size
  have e3 := ext_size ep0 1 ep0.size
  rw [hep] at e1
  refine ⟨.inr hp, fun _ => rfl, ?_, (fun h => by cases h), fun _ h0 => by omega, ?_, by omega, by omega⟩
  · have hl := colon_lacks h
    rw [hep] at hl
    intro j hj
    rw [ext_get ep0 1 _ j hj (by omega)]
    exact hl _ _
  · have := cut_join s k 58 h.1 (byte_of h.2.1)
    show sgn sg ++ ep0.extract 1 ep0.size ++ ⟨#[58]⟩ ++ s.extract (k + 1) s.size = s
    rw [sign_join ep0 sg h0 hsg hp, ← hep]
    exact this

end Go.Proofs.Qxb6603318a
