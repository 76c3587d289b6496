import Derived.Test.Qxb6601098aRefAt3
namespace Go.Proofs.Qxb6601098a
open Go.RowKit

theorem list_of (t : ByteArray) (k : Nat) (h : k < t.size) : t[k] = t.data.toList[k]'(by rw [← Lib.size_eq]; exact h) := rfl

theorem ba_ext {a b : ByteArray} (h : a.data.toList = b.data.toList) : a = b := by
  obtain ⟨⟨l⟩⟩ := a; obtain ⟨⟨m⟩⟩ := b; simp at h; subst h; rfl

theorem app_data (a b : ByteArray) : (a ++ b).data.toList = a.data.toList ++ b.data.toList := by
  simp

/-- what the name part of t gives, t's bytes being dollar and brace, the name, r -/
theorem names_of {t n : ByteArray} {r : List UInt8} (ht : t.data.toList = [36, 123] ++ n.data.toList ++ r) (hN : NameTo n n.size) :
    ∀ k (h : k < t.size), 2 ≤ k → k < 2 + n.size → nameI (t[k].toNat : Int) (decide ((2 : Int) < (k : Int))) = true := by
  intro k h h2 hk
  have hlt : k - 2 < n.size := by omega
  have e := hN (k - 2) hlt hlt
  have e1 : t[k] = n[k - 2] := by
    rw [list_of t k h, list_of n (k - 2) hlt]
    simp only [ht]
    rw [List.getElem_append_left (by simp; omega), List.getElem_append_right (by simp; omega)]
    rfl
  rw [e1]
  rw [show decide ((2 : Int) < (k : Int)) = decide (0 < k - 2) from by rw [decide_eq_decide]; omega]
  exact e

theorem byte_of {t n : ByteArray} {c : UInt8} {r : List UInt8} (ht : t.data.toList = [36, 123] ++ n.data.toList ++ c :: r) (h : 2 + n.size < t.size) : t[2 + n.size] = c := by
  rw [list_of t _ h]
  simp only [ht]
  rw [List.getElem_append_right (by simp; omega)]
  have e : 2 + n.size - ([36, 123] ++ n.data.toList).length = 0 := by
    rw [List.length_append, ← Lib.size_eq]; simp
  simp only [e]
  rfl

theorem rest_of {t n : ByteArray} {r : List UInt8} (ht : t.data.toList = [36, 123] ++ n.data.toList ++ r) :
    List.take (t.size - (2 + n.size)) (List.drop (2 + n.size) t.data.toList) = r := by
  have hl : ([36, 123] ++ n.data.toList).length = 2 + n.size := by
    rw [List.length_append, ← Lib.size_eq]; rfl
  have hsz : t.size = 2 + n.size + r.length := by rw [Lib.size_eq, ht, List.length_append, hl]
  rw [ht, ← hl, List.drop_left]
  exact List.take_of_length_le (by omega)

theorem name_of {t n : ByteArray} {r : List UInt8} (ht : t.data.toList = [36, 123] ++ n.data.toList ++ r) : t.extract 2 (2 + n.size) = n := by
  apply ba_ext
  rw [Lib.extract_data, ht]
  have e : List.drop 2 ([36, 123] ++ n.data.toList ++ r) = n.data.toList ++ r := rfl
  rw [e, show 2 + n.size - 2 = n.data.toList.length from by rw [← Lib.size_eq]; omega, List.take_left]

theorem indexByte_app (l r : List UInt8) (h : ∀ x ∈ l, ¬ x = 125) : Lib.indexByte (l ++ 125 :: r) 125 = (l.length : Int) := by
  induction l with
  | nil => rfl
  | cons b l ih =>
    have ih' := ih fun x hx => h x (List.mem_cons_of_mem _ hx)
    have hb : ¬ b = 125 := h b (List.mem_cons_self ..)
    rw [List.cons_append]
    unfold Lib.indexByte
    rw [ih']
    rw [if_neg (by simpa using hb), if_neg (by simp)]
    simp

theorem lacks_mem {f : ByteArray} (h : Lacks f 125 f.size) : ∀ x ∈ f.data.toList, ¬ x = 125 := by
  intro x hx
  obtain ⟨k, hk, e⟩ := List.getElem_of_mem hx
  have hk' : k < f.size := by rw [Lib.size_eq]; exact hk
  have := h k hk' hk'
  rw [list_of f k hk', e] at this
  intro e2
  subst e2
  exact this rfl

theorem size_app (a b : ByteArray) : (a ++ b).size = a.size + b.size := by simp

set_option maxRecDepth 100000 in
theorem ref_plain (n tl : ByteArray) (h0 : n.size ≤ 262144) (h2 : tl.size ≤ 262144) (hz : 0 < n.size) (hN : NameTo n n.size) (w : World) :
    Calls Try.prog 16 #[.string (⟨#[36, 123]⟩ ++ n ++ ⟨#[125]⟩ ++ tl)] w (ZzPost n ⟨#[]⟩ false (2 + (n.size : Int) + 1) w) := by
  obtain ⟨t, ht⟩ : ∃ t : ByteArray, t = ⟨#[36, 123]⟩ ++ n ++ ⟨#[125]⟩ ++ tl := ⟨_, rfl⟩
  rw [← ht]
  have hl : t.data.toList = [36, 123] ++ n.data.toList ++ 125 :: tl.data.toList := by
    rw [ht, app_data, app_data, app_data]; simp
  have hsz : t.size = 2 + n.size + 1 + tl.size := by rw [ht, size_app, size_app, size_app]; rfl
  have he : 2 + n.size < t.size := by omega
  have hb := byte_of hl he
  have hr := rest_of hl
  have hnm := name_of hl
  clear ht
  refine zzRef t n ⟨#[]⟩ false _ w fun w => ?_
  have := refAt_plain t (2 + n.size) w (by omega) (by omega) he (names_of hl hN) (by rw [hb]; decide) (by rw [hr]; rfl)
  rw [hnm] at this
  rw [show (2 + (n.size : Int) + 1) = ((2 + n.size : Nat) : Int) + 1 from by omega]
  exact this

set_option maxRecDepth 100000 in
theorem ref_dflt (n f tl : ByteArray) (h0 : n.size ≤ 262144) (h1 : f.size ≤ 262144) (h2 : tl.size ≤ 262144) (hz : 0 < n.size) (hN : NameTo n n.size) (hL : Lacks f 125 f.size) (w : World) :
    Calls Try.prog 16 #[.string (⟨#[36, 123]⟩ ++ n ++ ⟨#[58, 45]⟩ ++ f ++ ⟨#[125]⟩ ++ tl)] w (ZzPost n f true (2 + (n.size : Int) + 2 + (f.size : Int) + 1) w) := by
  obtain ⟨t, ht⟩ : ∃ t : ByteArray, t = ⟨#[36, 123]⟩ ++ n ++ ⟨#[58, 45]⟩ ++ f ++ ⟨#[125]⟩ ++ tl := ⟨_, rfl⟩
  rw [← ht]
  have hl : t.data.toList = [36, 123] ++ n.data.toList ++ 58 :: 45 :: (f.data.toList ++ 125 :: tl.data.toList) := by
    rw [ht, app_data, app_data, app_data, app_data, app_data]; simp
  have hsz : t.size = 2 + n.size + 2 + f.size + 1 + tl.size := by rw [ht, size_app, size_app, size_app, size_app, size_app]; rfl
  have he : 2 + n.size < t.size := by omega
  have hb := byte_of hl he
  have hr := rest_of hl
  have hnm := name_of hl
  have hfl : (t.extract (2 + n.size) t.size).extract 2 (2 + f.size) = f := by
    apply ba_ext
    rw [Lib.extract_data, Lib.extract_data, hr]
    have e : List.drop 2 (58 :: 45 :: (f.data.toList ++ 125 :: tl.data.toList)) = f.data.toList ++ 125 :: tl.data.toList := rfl
    rw [e, show 2 + f.size - 2 = f.data.toList.length from by rw [← Lib.size_eq]; omega, List.take_left]
  have hix : Lib.indexByte (58 :: 45 :: (f.data.toList ++ 125 :: tl.data.toList)) 125 = ((2 + f.size : Nat) : Int) := by
    have e := indexByte_app (58 :: 45 :: f.data.toList) tl.data.toList (by
      intro x hx
      rcases List.mem_cons.1 hx with rfl | hx
      · decide
      · rcases List.mem_cons.1 hx with rfl | hx
        · decide
        · exact lacks_mem hL x hx)
    rw [show 58 :: 45 :: (f.data.toList ++ 125 :: tl.data.toList) = (58 :: 45 :: f.data.toList) ++ 125 :: tl.data.toList from rfl, e]
    rw [List.length_cons, List.length_cons, ← Lib.size_eq]
    omega
  clear ht
  refine zzRef t n f true _ w fun w => ?_
  have := refAt_dflt t (2 + n.size) (2 + f.size) w (by omega) (by omega) (by omega) (by omega) (names_of hl hN) (by rw [hb]; decide) (by rw [hr]; rfl) (by rw [hr]; rfl) (by rw [hr]; exact hix)
  rw [hnm, hfl] at this
  rw [show (2 + (n.size : Int) + 2 + (f.size : Int) + 1) = ((2 + n.size : Nat) : Int) + ((2 + f.size : Nat) : Int) + 1 from by omega]
  exact this
end Go.Proofs.Qxb6601098a
