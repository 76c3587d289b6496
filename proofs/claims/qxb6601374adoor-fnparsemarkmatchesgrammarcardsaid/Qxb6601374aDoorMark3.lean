import Derived.Test.Qxb6601374aDoorMark
namespace Go.Proofs.Qxb6601374aDoor
open Go.RowKit

theorem trim_take (L : List UInt8) : Lib.trimSuffix L [93] = L.take (if Lib.hasSuffix L [93] then L.length - 1 else L.length) := by
  unfold Lib.trimSuffix
  by_cases h : Lib.hasSuffix L [93] = true
  · rw [if_pos h, if_pos h]; rfl
  · rw [if_neg h, if_neg h, List.take_length]

/-- dropping the closing bracket does not turn an opening that does not end in one -/
theorem trim_prefix (L p : List UInt8) (x : UInt8) (hx : ¬ x = 93) : Lib.hasPrefix (Lib.trimSuffix L [93]) (p ++ [x]) = Lib.hasPrefix L (p ++ [x]) := by
  unfold Lib.trimSuffix
  by_cases h : Lib.hasSuffix L [93] = true
  · rw [if_pos h]
    have hs : [93] <:+ L := List.isSuffixOf_iff_suffix.1 h
    obtain ⟨t, rfl⟩ := hs
    have e : List.take ((t ++ [93]).length - ([93] : List UInt8).length) (t ++ [93]) = t := by
      rw [List.length_append, Nat.add_sub_cancel, List.take_left]
    rw [e]
    unfold Lib.hasPrefix
    rw [Bool.eq_iff_iff, List.isPrefixOf_iff_prefix, List.isPrefixOf_iff_prefix]
    constructor
    · intro hp; exact hp.trans (List.prefix_append _ _)
    · intro hp
      have hl : (p ++ [x]).length ≤ t.length ∨ (p ++ [x]).length = (t ++ [93]).length := by
        have := hp.length_le
        simp only [List.length_append, List.length_cons, List.length_nil] at this ⊢
        omega
      rcases hl with hl | hl
      · exact List.prefix_of_prefix_length_le hp (List.prefix_append _ _) hl
      · have := hp.eq_of_length hl
        have := List.append_inj_right' this rfl
        injection this with this
        exact absurd this hx
  · rw [if_neg h]

theorem mw_trim (r : ByteArray) : Lib.hasPrefix (Lib.trimSuffix r.data.toList [93]) [45, 60, 60, 45] = mwOf r := trim_prefix r.data.toList [45, 60, 60] 45 (by decide)
theorem mt_trim (r : ByteArray) : Lib.hasPrefix (Lib.trimSuffix r.data.toList [93]) [45, 62, 45] = Lib.hasPrefix r.data.toList [45, 62, 45] := trim_prefix r.data.toList [45, 62] 45 (by decide)

theorem ba_ext {a b : ByteArray} (h : a.data.toList = b.data.toList) : a = b := by
  obtain ⟨⟨l⟩⟩ := a; obtain ⟨⟨m⟩⟩ := b; simp at h; subst h; rfl

/-- the node as parseMark cuts it -/
theorem node_eq (r : ByteArray) (h : Lib.hasPrefix r.data.toList [45, 62, 45] = true) : (⟨(Lib.trimPrefix (Lib.trimSuffix r.data.toList [93]) [45, 62, 45]).toArray⟩ : ByteArray) = mtOf r := by
  unfold mtOf
  rw [if_pos h]
  apply ba_ext
  rw [Lib.extract_data]
  show Lib.trimPrefix _ _ = _
  unfold Lib.trimPrefix
  rw [mt_trim, if_pos h, trim_take]
  unfold endOf
  rw [← Lib.size_eq, List.drop_take]
  rfl

end Go.Proofs.Qxb6601374aDoor
