import Derived.Test.Qxb6603146aProg
import Derived.Test.Qxb6603146aPlain
import Derived.WalkKit
import Derived.ProofKit
import Derived.WalkLawsBesides
import Derived.WalkSpells
import Derived.BigQuiet
import Derived.Deep.QuietTactic
namespace Go.Proofs.Qxb6603146a
open Go.RowKit

/-- block g holds the text: n bytes, f -/
def Txt (w : World) (g n : Nat) (f : Nat → Int) : Prop := ∀ i, i < n → w.cell? ⟨g, i, none⟩ = some (.int .u8 (f i))
def Bytes8 (f : Nat → Int) (n : Nat) : Prop := ∀ i, i < n → 0 ≤ f i ∧ f i < 256

set_option maxHeartbeats 400000 in
set_option maxRecDepth 100000 in
theorem indexByte30 (b o n c : Nat) (xs : List Int) (cv : Int) (w : World) (hx : xs.length = n)
    (hc : ∀ i, i < n → w.cell? ⟨b, o + i, none⟩ = some (.int .u8 (xs.getD i 0))) :
    Calls Try.prog 30 #[.slice (some ⟨b, o, none⟩) n c, .int .u8 cv] w fun e w' => e = .returned (.int .i64 (Lib.indexByte (Lib.bytesOf xs) cv.toNat.toUInt8)) ∧ w' = w := by
  go_enter Try.func30, Try.ntmps30
  go_wp2
  rw [run_callFunc_extern Try.func31 (by kernel_rfl) (by kernel_rfl) (by kernel_rfl) (e := Extern.BytealgIndexByte.indexByte) (by kernel_rfl), Lib.run_indexByteSlice w b o n c xs hx hc cv]
  simp only [Result.andThen]
  rw [Oper.upon_value]
  go_wp2
  go_ret
  exact ⟨rfl, rfl⟩

/-- the cells from p on, as a list -/
def tail (f : Nat → Int) (n p : Nat) : List Int := (List.range (n - p)).map fun i => f (p + i)

theorem tail_get (f : Nat → Int) (n p i : Nat) (h : i < n - p) : (tail f n p).getD i 0 = f (p + i) := by
  unfold tail
  rw [List.getD_eq_getElem?_getD, List.getElem?_map, List.getElem?_range h]
  rfl

def IxPost (f : Nat → Int) (n : Nat) (c : Int) (p : Nat) (w : World) (e : Ending) (w' : World) : Prop :=
  ∃ m : Nat, IsFirst f n c p m ∧ e = .returned (.int .i64 (m : Int)) ∧ w' = w

set_option maxHeartbeats 400000 in
theorem ix_spec (f : Nat → Int) (n p : Nat) (c : Int) (hc : 0 ≤ c ∧ c < 256) (hf : Bytes8 f n) (hp : p < n) :
    (Lib.indexByte (Lib.bytesOf (tail f n p)) c.toNat.toUInt8 = -1 ∧ IsFirst f n c p n) ∨
    (∃ k : Nat, Lib.indexByte (Lib.bytesOf (tail f n p)) c.toNat.toUInt8 = (k : Int) ∧ p + k < n ∧ IsFirst f n c p (p + k)) := by
  have hlen : (Lib.bytesOf (tail f n p)).length = n - p := by simp [Lib.bytesOf, tail]
  have hget : ∀ j (h : j < (Lib.bytesOf (tail f n p)).length), ((Lib.bytesOf (tail f n p))[j] = c.toNat.toUInt8 ↔ f (p + j) = c) := by
    intro j h
    have hj : j < n - p := by rw [hlen] at h; exact h
    have hb := hf (p + j) (by omega)
    have e : (Lib.bytesOf (tail f n p))[j] = (f (p + j)).toNat.toUInt8 := by simp [Lib.bytesOf, tail]
    rw [e]
    constructor
    · intro h
      have := congrArg UInt8.toNat h
      simp at this
      omega
    · intro h; rw [h]
  rcases indexByte_spec (Lib.bytesOf (tail f n p)) c.toNat.toUInt8 with ⟨h1, h2⟩ | ⟨k, h1, hk, h2, h3⟩
  · refine .inl ⟨h1, by omega, Nat.le_refl _, fun j h4 h5 h6 => ?_, fun h => absurd h (Nat.lt_irrefl _)⟩
    have hj : j - p < (Lib.bytesOf (tail f n p)).length := by rw [hlen]; omega
    exact h2 (j - p) hj ((hget _ hj).2 (by rw [show p + (j - p) = j from by omega]; exact h6))
  · rw [hlen] at hk
    refine .inr ⟨k, h1, by omega, by omega, by omega, fun j h4 h5 h6 => ?_, fun _ => (hget k _).1 h2⟩
    have hj : j - p < (Lib.bytesOf (tail f n p)).length := by rw [hlen]; omega
    exact h3 (j - p) hj (by omega) ((hget _ hj).2 (by rw [show p + (j - p) = j from by omega]; exact h6))

set_option maxHeartbeats 800000 in
theorem indexFrom_any (g n p : Nat) (f : Nat → Int) (c : Int) (w : World) (hn : n ≤ 1048576) (hp : p < n) (hc : 0 ≤ c ∧ c < 256) (hf : Bytes8 f n) (hT : Txt w g n f) :
    Calls Try.prog 29 #[.slice (some ⟨g, 0, none⟩) n n, .int .i64 (p : Int), .int .u8 c] w (IxPost f n c p w) := by
  have hcall := indexByte30 g p (n - p) (n - p) (tail f n p) c w (by simp [tail]) (fun i hi => by rw [tail_get f n p i hi]; exact hT (p + i) (by omega))
  rcases ix_spec f n p c hc hf hp with ⟨h1, h2⟩ | ⟨k, h1, h2, h3⟩
  · rw [h1] at hcall
    clear h1 hf hT hc
    go_enter Try.func29, Try.ntmps29
    go_wp2_with fail
    refine hcall.mono ?_
    rintro e w' ⟨rfl, rfl⟩
    go_wp2
    go_ret
    exact ⟨n, h2, rfl, rfl⟩
  · rw [h1] at hcall
    clear h1 hf hT hc
    go_enter Try.func29, Try.ntmps29
    go_wp2_with fail
    refine hcall.mono ?_
    rintro e w' ⟨rfl, rfl⟩
    go_wp2
    go_ret
    exact ⟨p + k, h3, by go_num, rfl⟩

end Go.Proofs.Qxb6603146a
