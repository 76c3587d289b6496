import Derived.Test.Qxb6603146aIndex
namespace Go.Proofs.Qxb6603146a
open Go.RowKit

def CntPost (f : Nat → Int) (n : Nat) (w : World) (e : Ending) (w' : World) : Prop := e = .returned (.int .i64 (total f n : Int)) ∧ w' = w

set_option maxHeartbeats 400000 in
theorem zzBytes_yes (a : Option Addr) (n c : Nat) (w : World) (h : n ≤ 1048576) :
    Calls Try.prog 16 #[.slice a n c] w fun e w' => e = .returned (.bool true) ∧ w' = w := by
  go_enter Try.func16, Try.ntmps16
  go_wp2
  all_goals (go_ret; exact ⟨rfl, rfl⟩)

set_option maxHeartbeats 400000 in
theorem zzBytes_no (a : Option Addr) (n c : Nat) (w : World) (h : 1048576 < n) (hm : n ≤ 9223372036854775807) :
    Calls Try.prog 16 #[.slice a n c] w fun e w' => e = .returned (.bool false) ∧ w' = w := by
  go_enter Try.func16, Try.ntmps16
  go_wp2
  all_goals (go_ret; exact ⟨rfl, rfl⟩)

set_option maxHeartbeats 1000000 in
theorem count_nil (a : Option Addr) (f : Nat → Int) (c : Nat) (w : World) :
    Calls Try.prog 17 #[.slice a 0 c] w (CntPost f 0 w) := by
  go_enter Try.func17, Try.ntmps17
  go_wp2
  go_loop [3, 4] (fun m i => m = .int .i64 0 ∧ i = .int .i64 0) (fun _ _ => 0)
  case atStart => exact ⟨rfl, rfl⟩
  case round =>
    obtain ⟨rfl, rfl⟩ := hrel
    go_wp2
    go_ret
    exact ⟨rfl, rfl⟩

set_option maxHeartbeats 4000000 in
set_option maxRecDepth 100000 in
theorem count_any (g n : Nat) (f : Nat → Int) (w : World) (hn : n ≤ 1048576) (h0 : 0 < n) (hT : Txt w g n f) :
    Calls Try.prog 17 #[.slice (some ⟨g, 0, none⟩) n n] w (CntPost f n w) := by
  have HT : Hid (Txt w g n f) := hT
  clear hT
  go_enter Try.func17, Try.ntmps17
  go_wp2
  go_loop [3, 4] (fun m i => ∃ k : Nat, ∃ a : Int, k ≤ n ∧ 0 ≤ a ∧ a ≤ 1048576 ∧ i = .int .i64 k ∧ m = .int .i64 a ∧ Hid (a = (cntTo f n k : Int))) (fun _ i => n - (intOf i).toNat)
  case atStart => exact ⟨0, 0, by omega, by omega, by omega, rfl, rfl, rfl⟩
  case round =>
    obtain ⟨k, a, hk, ha0, ha1, rfl, rfl, HA⟩ := hrel
    by_cases hlt : k < n
    · have hck := HT.out k hlt
      have hle := cnt_le f n (k + 1)
      by_cases h10 : f k = 10
      · have hb : (f k == 10) = true := beq_iff_eq.2 h10
        have HA2 : Hid (a + 1 = (cntTo f n (k + 1) : Int)) := by show _ = _; rw [cnt_yes (.inl h10), HA.out]; omega
        have hle2 : a + 1 ≤ 1048576 := by rw [HA2.out]; omega
        clear h10 hle
        go_wp2
        go_round
        case rel => exact ⟨k + 1, a + 1, by omega, by omega, hle2, by go_num, rfl, HA2⟩
        case measure => simp [intOf]; omega
      · have hb : (f k == 10) = false := beq_eq_false_iff_ne.2 h10
        by_cases h13 : f k = 13
        · have hb2 : (f k == 13) = true := beq_iff_eq.2 h13
          by_cases hk1 : k + 1 < n
          · have hck1 := HT.out (k + 1) hk1
            by_cases hx : f (k + 1) = 10
            · have hb3 : (f (k + 1) == 10) = true := beq_iff_eq.2 hx
              have HA2 : Hid (a = (cntTo f n (k + 1) : Int)) := by
                show _ = _
                rw [cnt_no, HA.out]
                rintro (h | h)
                · exact h10 h
                · exact h.2 ⟨hk1, hx⟩
              clear h10 h13 hx hle
              go_wp2
              go_round
              case rel => exact ⟨k + 1, a, by omega, by omega, by omega, by go_num, rfl, HA2⟩
              case measure => simp [intOf]; omega
            · have hb3 : (f (k + 1) == 10) = false := beq_eq_false_iff_ne.2 hx
              have HA2 : Hid (a + 1 = (cntTo f n (k + 1) : Int)) := by show _ = _; rw [cnt_yes (.inr ⟨h13, fun h => hx h.2⟩), HA.out]; omega
              have hle2 : a + 1 ≤ 1048576 := by rw [HA2.out]; omega
              clear h10 h13 hx hle
              go_wp2
              go_round
              case rel => exact ⟨k + 1, a + 1, by omega, by omega, hle2, by go_num, rfl, HA2⟩
              case measure => simp [intOf]; omega
          · have HA2 : Hid (a + 1 = (cntTo f n (k + 1) : Int)) := by show _ = _; rw [cnt_yes (.inr ⟨h13, fun h => hk1 h.1⟩), HA.out]; omega
            have hle2 : a + 1 ≤ 1048576 := by rw [HA2.out]; omega
            clear h10 h13 hle
            go_wp2
            go_round
            case rel => exact ⟨k + 1, a + 1, by omega, by omega, hle2, by go_num, rfl, HA2⟩
            case measure => simp [intOf]; omega
        · have hb2 : (f k == 13) = false := beq_eq_false_iff_ne.2 h13
          have HA2 : Hid (a = (cntTo f n (k + 1) : Int)) := by
            show _ = _
            rw [cnt_no, HA.out]
            rintro (h | h)
            · exact h10 h
            · exact h13 h.1
          clear h10 h13 hle
          go_wp2
          go_round
          case rel => exact ⟨k + 1, a, by omega, by omega, by omega, by go_num, rfl, HA2⟩
          case measure => simp [intOf]; omega
    · obtain rfl : k = n := by omega
      have hcl := HT.out (k - 1) (by omega)
      by_cases h10 : f (k - 1) = 10
      · have hb : (f (k - 1) != 10) = false := by rw [bne_eq_false_iff_eq]; exact h10
        have HE : Hid ((total f k : Int) = a) := by show _ = _; rw [total_shut (.inr (.inl h10)), HA.out]
        clear h10
        go_wp2
        go_ret
        exact ⟨by rw [HE.out]; rfl, rfl⟩
      · have hb : (f (k - 1) != 10) = true := by rw [bne_iff_ne]; exact h10
        by_cases h13 : f (k - 1) = 13
        · have hb2 : (f (k - 1) != 13) = false := by rw [bne_eq_false_iff_eq]; exact h13
          have HE : Hid ((total f k : Int) = a) := by show _ = _; rw [total_shut (.inr (.inr h13)), HA.out]
          clear h10 h13
          go_wp2
          go_ret
          exact ⟨by rw [HE.out]; rfl, rfl⟩
        · have hb2 : (f (k - 1) != 13) = true := by rw [bne_iff_ne]; exact h13
          have HE : Hid ((total f k : Int) = a + 1) := by show _ = _; rw [total_open h0 h10 h13, HA.out]; omega
          clear h10 h13
          go_wp2
          go_ret
          exact ⟨by rw [HE.out]; rfl, rfl⟩

end Go.Proofs.Qxb6603146a
