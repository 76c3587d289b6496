import Derived.Test.Qxb6601098aProg
import Derived.WalkKit
import Derived.ProofKit
import Derived.WalkLawsBesides
import Derived.WalkSpells
import Derived.Lib.Bytealg
import Derived.Lib.Strings
import Derived.BigQuiet
import Derived.Deep.QuietTactic
namespace Go.Proofs.Qxb6601098a
open Go.RowKit

def leadI (c : Int) : Bool := decide ((97 ≤ c ∧ c ≤ 122) ∨ (65 ≤ c ∧ c ≤ 90) ∨ c = 95)
def digI (c : Int) : Bool := decide (48 ≤ c ∧ c ≤ 57)

theorem ret_bool {a b : Bool} (h : a = b) : Ending.returned (.bool a) = .returned (.bool b) := by rw [h]

set_option maxHeartbeats 400000 in
theorem isLead_any (c : Int) (w : World) :
    Calls Try.prog 22 #[.int .u8 c] w fun e w' => e = .returned (.bool (leadI c)) ∧ w' = w := by
  go_enter Try.func22, Try.ntmps22
  go_wp2
  all_goals (go_ret; refine ⟨ret_bool ?_, rfl⟩; rw [Bool.eq_iff_iff]; simp [leadI]; omega)

set_option maxHeartbeats 400000 in
theorem isDigit_any (c : Int) (w : World) :
    Calls Try.prog 23 #[.int .u8 c] w fun e w' => e = .returned (.bool (digI c)) ∧ w' = w := by
  go_enter Try.func23, Try.ntmps23
  go_wp2
  all_goals (go_ret; refine ⟨ret_bool ?_, rfl⟩; rw [Bool.eq_iff_iff]; simp [digI]; omega)


def nameI (c : Int) (later : Bool) : Bool := leadI c || (later && digI c)

set_option maxHeartbeats 800000 in
theorem isName_any (c : Int) (later : Bool) (w : World) :
    Calls Try.prog 24 #[.int .u8 c, .bool later] w fun e w' => e = .returned (.bool (nameI c later)) ∧ w' = w := by
  cases later
  all_goals
    go_enter Try.func24, Try.ntmps24
    go_wp2
    all_goals (go_ret; refine ⟨ret_bool ?_, rfl⟩; rw [Bool.eq_iff_iff]; simp [nameI, leadI, digI] <;> omega)

set_option maxHeartbeats 400000 in
theorem zzBytes_yes (a b c : ByteArray) (d : Bool) (w : World) (h : a.size + b.size + c.size ≤ 1048576) :
    Calls Try.prog 19 #[.string a, .string b, .string c, .bool d] w fun e w' => e = .returned (.bool true) ∧ w' = w := by
  go_enter Try.func19, Try.ntmps19
  go_wp2
  all_goals (go_ret; exact ⟨rfl, rfl⟩)

set_option maxHeartbeats 400000 in
theorem zzBytes_no (a b c : ByteArray) (d : Bool) (w : World) (h : 1048576 < a.size + b.size + c.size) :
    Calls Try.prog 19 #[.string a, .string b, .string c, .bool d] w fun e w' => e = .returned (.bool false) ∧ w' = w := by
  go_enter Try.func19, Try.ntmps19
  go_wp2
  all_goals (go_ret; exact ⟨rfl, rfl⟩)

/-- no byte of s is c -/
def Lacks (s : ByteArray) (c : Int) (n : Nat) : Prop := ∀ k (h : k < s.size), k < n → ¬ (s[k].toNat : Int) = c

theorem Lacks.succ {s : ByteArray} {c : Int} {n : Nat} (h : Lacks s c n) (hn : n < s.size) (hc : ¬ (s[n].toNat : Int) = c) : Lacks s c (n + 1) := by
  intro k hk hlt
  by_cases e : k = n
  · subst e; exact hc
  · exact h k hk (by omega)

set_option maxHeartbeats 400000 in
theorem zzIndexByte_any (s : ByteArray) (c : Int) (w : World) (hs : s.size ≤ 1048576) :
    Calls Try.prog 17 #[.string s, .int .u8 c] w fun e w' => ∃ r : Int, e = .returned (.int .i64 r) ∧ -1 ≤ r ∧ (r < 0 → Lacks s c s.size) ∧ w' = w := by
  go_enter Try.func17, Try.ntmps17
  go_wp2
  go_loop [5] (fun i => ∃ k : Nat, k ≤ s.size ∧ i = .int .i64 k ∧ Lacks s c k) (fun i => s.size - (intOf i).toNat)
  case atStart => exact ⟨0, Nat.zero_le _, rfl, fun k _ h => absurd h (Nat.not_lt_zero _)⟩
  case round =>
    obtain ⟨k, hk, rfl, hl⟩ := hrel
    by_cases hlt : k < s.size
    · by_cases hc : (s[k].toNat : Int) = c
      · have hb : ((s[k].toNat : Int) == c) = true := by simp [hc]
        clear hc
        go_wp2
        go_ret
        exact ⟨k, rfl, by omega, fun h => by omega, rfl⟩
      · have hb : ((s[k].toNat : Int) == c) = false := by simp [hc]
        have hl' := hl.succ hlt hc
        clear hc
        go_wp2
        go_round
        case rel => exact ⟨k + 1, by omega, by go_num, hl'⟩
        case measure => simp [intOf]; omega
    · go_wp2
      go_ret
      obtain rfl : k = s.size := by omega
      exact ⟨-1, rfl, by omega, fun _ => hl, rfl⟩


/-- the first n bytes of s read as a name's: byte j is a name's byte, 'later' where j is not the first. -/
def NameTo (s : ByteArray) (n : Nat) : Prop := ∀ k (h : k < s.size), k < n → nameI (s[k].toNat : Int) (decide (0 < k)) = true

theorem NameTo.succ {s : ByteArray} {n : Nat} (h : NameTo s n) (hn : n < s.size) (hc : nameI (s[n].toNat : Int) (decide (0 < n)) = true) : NameTo s (n + 1) := by
  intro k hk hlt
  by_cases e : k = n
  · subst e; exact hc
  · exact h k hk (by omega)

theorem nameI_lead {c : Int} {b : Bool} (h : leadI c = true) : nameI c b = true := by simp [nameI, h]
theorem nameI_dig {c : Int} (h : digI c = true) : nameI c true = true := by simp [nameI, h]

def ValidPost (s : ByteArray) (w : World) (e : Ending) (w' : World) : Prop :=
  ∃ b : Bool, e = .returned (.bool b) ∧ (b = true → 0 < s.size ∧ NameTo s s.size) ∧ w' = w

set_option maxHeartbeats 800000 in
theorem zzValidName_any (s : ByteArray) (w : World) (hs : s.size ≤ 1048576) :
    Calls Try.prog 18 #[.string s] w (ValidPost s w) := by
  by_cases h0 : 0 < s.size
  · have hne : ((s.size : Int) == 0) = false := beq_eq_false_iff_ne.2 (by omega)
    cases hl : leadI (s[0].toNat : Int)
    · go_enter Try.func18, Try.ntmps18
      go_wp2_with (go_at_call 22; refine (isLead_any _ _).mono ?_; rintro e w' ⟨rfl, rfl⟩)
      go_ret
      exact ⟨false, rfl, (fun h => by cases h), rfl⟩
    · have hN : NameTo s 1 := by
        intro k hk hlt
        obtain rfl : k = 0 := by omega
        exact nameI_lead hl
      go_enter Try.func18, Try.ntmps18
      go_wp2_with (go_at_call 22; refine (isLead_any _ _).mono ?_; rintro e w' ⟨rfl, rfl⟩)
      go_loop [3] (fun i => ∃ k : Nat, 1 ≤ k ∧ k ≤ s.size ∧ i = .int .i64 k ∧ NameTo s k) (fun i => s.size - (intOf i).toNat)
      case atStart => exact ⟨1, by omega, by omega, rfl, hN⟩
      case round =>
        obtain ⟨k, hk1, hk, rfl, hN'⟩ := hrel
        clear hN hl
        by_cases hlt : k < s.size
        · cases hl2 : leadI (s[k].toNat : Int)
          · cases hd : digI (s[k].toNat : Int)
            · go_wp2_with (first | (go_at_call 22; refine (isLead_any _ _).mono ?_; rintro e w' ⟨rfl, rfl⟩) | (go_at_call 23; refine (isDigit_any _ _).mono ?_; rintro e w' ⟨rfl, rfl⟩))
              go_ret
              exact ⟨false, rfl, (fun h => by cases h), rfl⟩
            · have hS := hN'.succ hlt (by rw [show decide (0 < k) = true from by simp; omega]; exact nameI_dig hd)
              go_wp2_with (first | (go_at_call 22; refine (isLead_any _ _).mono ?_; rintro e w' ⟨rfl, rfl⟩) | (go_at_call 23; refine (isDigit_any _ _).mono ?_; rintro e w' ⟨rfl, rfl⟩))
              go_round
              case rel => exact ⟨k + 1, by omega, by omega, by go_num, hS⟩
              case measure => simp [intOf]; omega
          · have hS := hN'.succ hlt (nameI_lead hl2)
            go_wp2_with (first | (go_at_call 22; refine (isLead_any _ _).mono ?_; rintro e w' ⟨rfl, rfl⟩) | (go_at_call 23; refine (isDigit_any _ _).mono ?_; rintro e w' ⟨rfl, rfl⟩))
            go_round
            case rel => exact ⟨k + 1, by omega, by omega, by go_num, hS⟩
            case measure => simp [intOf]; omega
        · go_wp2
          go_ret
          obtain rfl : k = s.size := by omega
          exact ⟨true, rfl, fun _ => ⟨h0, hN'⟩, rfl⟩
  · have hne : ((s.size : Int) == 0) = true := beq_iff_eq.2 (by omega)
    go_enter Try.func18, Try.ntmps18
    go_wp2_with (go_at_call 22; refine (isLead_any _ _).mono ?_; rintro e w' ⟨rfl, rfl⟩)
    go_ret
    exact ⟨false, rfl, (fun h => by cases h), rfl⟩

end Go.Proofs.Qxb6601098a
