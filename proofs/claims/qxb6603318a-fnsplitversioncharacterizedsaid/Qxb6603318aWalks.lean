import Derived.Test.Qxb6603318aProg
import Derived.WalkKit
import Derived.ProofKit
import Derived.WalkLawsBesides
import Derived.WalkSpells
import Derived.Lib.Bytealg
import Derived.Lib.Strings
import Derived.BigQuiet
import Derived.Deep.QuietTactic
import Derived.RegionTactic
namespace Go.Proofs.Qxb6603318a
open Go.RowKit

set_option maxHeartbeats 400000 in
theorem zzBytes_yes (a : ByteArray) (w : World) (h : a.size ≤ 1048576) :
    Calls Try.prog 4 #[.string a] w fun e w' => e = .returned (.bool true) ∧ w' = w := by
  go_enter Try.func4, Try.ntmps4
  go_wp2
  all_goals (go_ret; exact ⟨rfl, rfl⟩)

set_option maxHeartbeats 400000 in
theorem zzBytes_no (a : ByteArray) (w : World) (h : 1048576 < a.size) :
    Calls Try.prog 4 #[.string a] w fun e w' => e = .returned (.bool false) ∧ w' = w := by
  go_enter Try.func4, Try.ntmps4
  go_wp2
  all_goals (go_ret; exact ⟨rfl, rfl⟩)

/-- no byte of s is c -/
def Lacks (s : ByteArray) (c : Int) : Prop := ∀ k (h : k < s.size), ¬ (s[k].toNat : Int) = c

set_option maxHeartbeats 400000 in
theorem hasByte_no (s : ByteArray) (c : Int) (w : World) (hs : s.size ≤ 1048576) (hL : Lacks s c) :
    Calls Try.prog 6 #[.string s, .int .u8 c] w fun e w' => e = .returned (.bool false) ∧ w' = w := by
  have HL : Hid (Lacks s c) := hL
  clear hL
  go_enter Try.func6, Try.ntmps6
  go_wp2
  go_loop [5] (fun i => ∃ k : Nat, k ≤ s.size ∧ i = .int .i64 k) (fun i => s.size - (intOf i).toNat)
  case atStart => exact ⟨0, Nat.zero_le _, rfl⟩
  case round =>
    obtain ⟨k, hk, rfl⟩ := hrel
    by_cases hlt : k < s.size
    · have hb : ((s[k].toNat : Int) == c) = false := beq_eq_false_iff_ne.2 (HL.out k hlt)
      go_wp2
      go_round
      case rel => exact ⟨k + 1, by omega, by go_num⟩
      case measure => simp [intOf]; omega
    · go_wp2
      go_ret
      exact ⟨rfl, rfl⟩

/-- the sign as text -/
def sgn (sg : Int) : ByteArray := if sg = 43 then ⟨#[43]⟩ else if sg = 45 then ⟨#[45]⟩ else ⟨#[]⟩
/-- the parts written side by side -/
def joinB (ep up rev : ByteArray) (sg : Int) (he hr : Bool) : ByteArray :=
  let s1 := if he then sgn sg ++ ep ++ ⟨#[58]⟩ else sgn sg ++ ep
  if hr then s1 ++ up ++ ⟨#[45]⟩ ++ rev else s1 ++ up

def JoinPost (ep up rev : ByteArray) (sg : Int) (he hr : Bool) (w : World) (e : Ending) (w' : World) : Prop := e = .returned (.string (joinB ep up rev sg he hr)) ∧ w' = w

theorem ret_str {a b : ByteArray} (h : a = b) : Ending.returned (.string a) = .returned (.string b) := by rw [h]

theorem ba_ext {a b : ByteArray} (h : a.data.toList = b.data.toList) : a = b := by
  obtain ⟨⟨l⟩⟩ := a; obtain ⟨⟨m⟩⟩ := b; simp at h; subst h; rfl

set_option maxHeartbeats 800000 in
theorem join_any (ep up rev : ByteArray) (sg : Int) (he hr : Bool) (w : World) (h1 : ep.size ≤ 1048576) (h2 : up.size ≤ 1048576) (h3 : rev.size ≤ 1048576) (hsg : sg = 0 ∨ sg = 43 ∨ sg = 45) :
    Calls Try.prog 7 #[.string ep, .string up, .string rev, .int .u8 sg, .bool he, .bool hr] w (JoinPost ep up rev sg he hr w) := by
  rcases hsg with rfl | rfl | rfl <;> cases he <;> cases hr
  all_goals
    go_enter Try.func7, Try.ntmps7
    go_wp2
    go_ret
    refine ⟨ret_str ?_, rfl⟩
    apply ba_ext
    simp [joinB, sgn]

end Go.Proofs.Qxb6603318a
