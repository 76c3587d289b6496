import Derived.Test.Qxb6601374aDoorAny
namespace Go.Proofs.Qxb6601374aDoor
open Go.RowKit

/-- where the text of the arrow ends: its closing bracket is dropped -/
def endOf (r : ByteArray) : Nat := if Lib.hasSuffix r.data.toList [93] then r.size - 1 else r.size
/-- the node of an arrow '->-' -/
def mtOf (r : ByteArray) : ByteArray := if Lib.hasPrefix r.data.toList [45, 62, 45] then r.extract 3 (endOf r) else ⟨#[]⟩
/-- the arrow '-<<-' -/
def mwOf (r : ByteArray) : Bool := Lib.hasPrefix r.data.toList [45, 60, 60, 45]

theorem beqN (a b : UInt8) : (a == b) = decide (a.toNat = b.toNat) := by
  rw [Bool.eq_iff_iff]; simp [UInt8.toNat_inj]

theorem pre3 (r : ByteArray) (h : 3 ≤ r.size) (x y z : UInt8) : Lib.hasPrefix r.data.toList [x, y, z] = (decide (x.toNat = r[0].toNat) && decide (y.toNat = r[1].toNat) && decide (z.toNat = r[2].toNat)) := by
  obtain ⟨⟨l⟩⟩ := r
  match l, h with
  | a :: b :: c :: t, _ =>
    show ((x == a) && ((y == b) && ((z == c) && true))) = _
    rw [beqN, beqN, beqN, Bool.and_true, Bool.and_assoc]
    rfl

theorem pre4 (r : ByteArray) (h : 4 ≤ r.size) (x y z u : UInt8) : Lib.hasPrefix r.data.toList [x, y, z, u] = (decide (x.toNat = r[0].toNat) && decide (y.toNat = r[1].toNat) && decide (z.toNat = r[2].toNat) && decide (u.toNat = r[3].toNat)) := by
  obtain ⟨⟨l⟩⟩ := r
  match l, h with
  | a :: b :: c :: d :: t, _ =>
    show ((x == a) && ((y == b) && ((z == c) && ((u == d) && true)))) = _
    rw [beqN, beqN, beqN, beqN, Bool.and_true, Bool.and_assoc, Bool.and_assoc]
    rfl

theorem preShort (L p : List UInt8) (h : L.length < p.length) : Lib.hasPrefix L p = false := by
  unfold Lib.hasPrefix
  rw [Bool.eq_false_iff]
  intro e
  have := (List.isPrefixOf_iff_prefix.1 e).length_le
  omega

theorem suf1 (r : ByteArray) (h : 0 < r.size) : Lib.hasSuffix r.data.toList [93] = decide (r[r.size - 1].toNat = 93) := by
  have hl : r.data.toList.length = r.size := (Lib.size_eq r).symm
  have e := Lib.hasSuffix_of_drop r.data.toList [93]
  rw [← e]
  rw [show ([93] : List UInt8).length = 1 from rfl, hl]
  rw [drop_byte r (r.size - 1) (by omega), show r.size - 1 + 1 = r.size from by omega, drop_end]
  rw [show decide (1 ≤ r.size) = true from decide_eq_true h, Bool.true_and]
  rw [Bool.eq_iff_iff]
  simp
  constructor
  · intro e; rw [e]; rfl
  · intro e; exact UInt8.toNat_inj.1 e

def MarkPost (o : Option (Nat × Nat × ByteArray × Bool)) (w : World) (e : Ending) (w' : World) : Prop :=
  match o with
  | none => e = .returned (.tuple #[.agg #[.int .i64 0, .int .i64 0, .string ⟨#[]⟩, .bool false], .bool false]) ∧ Below w.heap.size w w'
  | some (a, b, t, f) => e = .returned (.tuple #[.agg #[.int .i64 (a : Int), .int .i64 (b : Int), .string t, .bool f], .bool true]) ∧ Below w.heap.size w w'

/-- a mark: a range, then an arrow that begins at the dash just before the first arrow head -/
def markOf (s : ByteArray) : Option (Nat × Nat × ByteArray × Bool) :=
  if arrowAt s.data.toList < 1 then none
  else if s.get! ((arrowAt s.data.toList).toNat - 1) = 45 then
    match rngL (s.extract 0 ((arrowAt s.data.toList).toNat - 1)).data.toList with
    | none => none
    | some (a, b) => some (a, b, mtOf (s.extract ((arrowAt s.data.toList).toNat - 1) s.size), mwOf (s.extract ((arrowAt s.data.toList).toNat - 1) s.size))
  else none

theorem mark_low {s : ByteArray} (h : arrowAt s.data.toList < 1) : markOf s = none := by unfold markOf; rw [if_pos h]
theorem mark_dash {s : ByteArray} {k : Nat} (h : arrowAt s.data.toList = (k : Int)) (h1 : 1 ≤ k) (hk : k - 1 < s.size) (hd : ¬ (s[k - 1].toNat : Int) = 45) : markOf s = none := by
  unfold markOf
  rw [h, if_neg (by omega), show ((k : Int)).toNat = k from by omega, get_of s _ hk, if_neg]
  intro e; exact hd (by rw [e]; rfl)
theorem mark_rng {s : ByteArray} {k : Nat} (h : arrowAt s.data.toList = (k : Int)) (h1 : 1 ≤ k) (hk : k - 1 < s.size) (hd : (s[k - 1].toNat : Int) = 45) :
    markOf s = match rngL (s.extract 0 (k - 1)).data.toList with
    | none => none
    | some (a, b) => some (a, b, mtOf (s.extract (k - 1) s.size), mwOf (s.extract (k - 1) s.size)) := by
  unfold markOf
  rw [h, if_neg (by omega), show ((k : Int)).toNat = k from by omega, get_of s _ hk, if_pos]
  exact UInt8.toNat_inj.1 (by show s[k - 1].toNat = 45; omega)

end Go.Proofs.Qxb6601374aDoor
