import Derived.Test.Qxb6601098aRefAt
namespace Go.Proofs.Qxb6601098a
open Go.RowKit

def RefPost (n f : ByteArray) (d : Bool) (len : Int) (w : World) (e : Ending) (w' : World) : Prop :=
  e = .returned (.tuple #[.agg #[.string n, .string f, .bool d, .int .i64 len], .bool true]) ∧ Grown w w'

theorem extract_ne (t : ByteArray) (e : Nat) (he2 : 2 < e) (he : e < t.size) : (t.extract 2 e).toList.isEmpty = false := by
  have : 0 < (t.extract 2 e).toList.length := by rw [Lib.toList_data]; simp; omega
  cases h : (t.extract 2 e).toList with
  | nil => rw [h] at this; simp at this
  | cons a l => rfl

set_option maxHeartbeats 1000000 in
theorem refAt_plain (t : ByteArray) (e : Nat) (w : World) (hs : t.size ≤ 4000000) (he2 : 2 < e) (he : e < t.size)
    (hn : ∀ k (h : k < t.size), 2 ≤ k → k < e → nameI (t[k].toNat : Int) (decide ((2 : Int) < (k : Int))) = true)
    (hx : nameI (t[e].toNat : Int) true = false)
    (hp : Lib.hasPrefix (List.take (t.size - e) (List.drop e t.data.toList)) [125] = true) :
    Calls Try.prog 21 #[.string t] w (RefPost (t.extract 2 e) ⟨#[]⟩ false ((e : Int) + 1) w) := by
  have hne := extract_ne t e he2 he
  go_enter Try.func21, Try.ntmps21
  go_wp2
  go_loop [4] (fun i => ∃ k : Nat, 2 ≤ k ∧ k ≤ e ∧ i = .int .i64 k) (fun i => e - (intOf i).toNat)
  case atStart => exact ⟨2, by omega, by omega, rfl⟩
  case round =>
    obtain ⟨k, hk2, hk, rfl⟩ := hrel
    by_cases hlt : k < e
    · have hlt' : k < t.size := by omega
      have hnk := hn k hlt' hk2 hlt
      clear hn hx hp
      go_wp2_with (go_at_call 24; refine (isName_any _ _ _).mono ?_; rintro e w' ⟨rfl, rfl⟩)
      go_round
      case rel => exact ⟨k + 1, by omega, by omega, by go_num⟩
      case measure => simp [intOf]; omega
    · obtain rfl : k = e := by omega
      clear hn
      have hd : decide ((2 : Int) < (k : Int)) = true := by simp; omega
      go_wp2_with (first | (go_at_call 24; refine (isName_any _ _ _).mono ?_; rintro e w' ⟨rfl, rfl⟩) | (go_at_call 25; refine (hasPrefix25 _ _ _).mono ?_; rintro e w' ⟨rfl, rfl⟩))
      refine bodyPost_ret (v := .tuple #[.agg #[.string (t.extract 2 k), .string ⟨#[]⟩, .bool false, .int .i64 ((k : Int) + 1)], .bool true]) (by simp [results, Try.results21, go_sem]) rfl ⟨rfl, ?_⟩
      exact (Grown.refl w).alloc _ _ |>.alloc _ _

set_option maxHeartbeats 1000000 in
theorem refAt_dflt (t : ByteArray) (e m : Nat) (w : World) (hs : t.size ≤ 4000000) (he2 : 2 < e) (he : e + m < t.size) (hm : 2 ≤ m)
    (hn : ∀ k (h : k < t.size), 2 ≤ k → k < e → nameI (t[k].toNat : Int) (decide ((2 : Int) < (k : Int))) = true)
    (hx : nameI (t[e].toNat : Int) true = false)
    (hp : Lib.hasPrefix (List.take (t.size - e) (List.drop e t.data.toList)) [125] = false)
    (hq : Lib.hasPrefix (List.take (t.size - e) (List.drop e t.data.toList)) [58, 45] = true)
    (hi : Lib.indexByte (List.take (t.size - e) (List.drop e t.data.toList)) 125 = (m : Int)) :
    Calls Try.prog 21 #[.string t] w (RefPost (t.extract 2 e) ((t.extract e t.size).extract 2 m) true ((e : Int) + m + 1) w) := by
  have hne := extract_ne t e he2 (by omega)
  go_enter Try.func21, Try.ntmps21
  go_wp2
  go_loop [4] (fun i => ∃ k : Nat, 2 ≤ k ∧ k ≤ e ∧ i = .int .i64 k) (fun i => e - (intOf i).toNat)
  case atStart => exact ⟨2, by omega, by omega, rfl⟩
  case round =>
    obtain ⟨k, hk2, hk, rfl⟩ := hrel
    by_cases hlt : k < e
    · have hlt' : k < t.size := by omega
      have hnk := hn k hlt' hk2 hlt
      clear hn hx hp hq hi
      go_wp2_with (go_at_call 24; refine (isName_any _ _ _).mono ?_; rintro e w' ⟨rfl, rfl⟩)
      go_round
      case rel => exact ⟨k + 1, by omega, by omega, by go_num⟩
      case measure => simp [intOf]; omega
    · obtain rfl : k = e := by omega
      clear hn
      have hd : decide ((2 : Int) < (k : Int)) = true := by simp; omega
      go_wp2_with (first | (go_at_call 24; refine (isName_any _ _ _).mono ?_; rintro e w' ⟨rfl, rfl⟩) | (go_at_call 25; refine (hasPrefix25 _ _ _).mono ?_; rintro e w' ⟨rfl, rfl⟩) | (go_at_call 26; refine (indexByte26 _ _ _).mono ?_; rintro e w' ⟨rfl, rfl⟩))
      refine bodyPost_ret (v := .tuple #[.agg #[.string (t.extract 2 k), .string ((t.extract k t.size).extract 2 m), .bool true, .int .i64 ((k : Int) + m + 1)], .bool true]) (by simp [results, Try.results21, go_sem]) rfl ⟨rfl, ?_⟩
      exact (Grown.refl w).alloc _ _ |>.alloc _ _
end Go.Proofs.Qxb6601098a
