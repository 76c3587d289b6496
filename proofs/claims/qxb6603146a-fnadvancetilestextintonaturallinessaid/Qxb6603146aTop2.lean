import Derived.Test.Qxb6603146aTop
namespace Go.Proofs.Qxb6603146a
open Go.RowKit

set_option maxHeartbeats 4000000 in
set_option maxRecDepth 100000 in
theorem top_some (xb xo n c : Nat) (f : Nat → Int) (w : World) (hn : n ≤ 1048576) (h0 : 0 < n) (hx : xb < w.heap.size) (hf : Bytes8 f n)
    (hsrc : ∀ i, i < n → w.cell? ⟨xb, xo + i, none⟩ = some (.int .u8 (f i))) :
    Calls Try.prog 6 #[.slice (some ⟨xb, xo, none⟩) n c] w (TopPost w) := by
  have hcl := clone_any xb xo n c f w hn hx hsrc
  have HF : Hid (Bytes8 f n) := hf
  clear hsrc hf
  go_enter Try.func6, Try.ntmps6
  go_wp2_with (first | (go_at_call 16; refine (zzBytes_yes _ _ _ _ hn).mono ?_; rintro e w' ⟨rfl, rfl⟩))
  refine hcl.mono ?_
  rintro e w1 ⟨rfl, hT, hb, hlt⟩
  have HR : Hid (Rel f w' w'.heap.size n 0 0 (-1) (-1) w1) := ⟨by omega, by omega, fun _ => ⟨.inl ⟨by omega, by omega⟩, .inl ⟨by omega, by omega⟩, rfl⟩, fun h => by omega, hT, hb, hlt⟩
  clear hT hb hlt hcl
  obtain ⟨g, hg⟩ : ∃ g, w'.heap.size = g := ⟨_, rfl⟩
  rw [hg] at HR
  rw [hg]
  have HG : Hid (w'.heap.size = g) := hg
  clear hg
  go_wp2
  go_loopw [3, 4, 5, 6, 7, 8, 9] (fun p l c num prev cnt i wr => ∃ (pp k : Nat) (lf cr : Int), k ≤ n ∧ pp ≤ n ∧ p = .int .i64 pp ∧ l = .int .i64 lf ∧ c = .int .i64 cr ∧ num = .int .i64 k ∧ prev = .int .i64 pp ∧ cnt = .int .i64 k ∧ i = .int .i64 k ∧ Hid (Rel f w' g n pp k lf cr wr)) (fun _ _ _ _ _ _ i _ => n + 1 - (intOf i).toNat)
  case atStart => exact ⟨0, 0, -1, -1, by omega, by omega, rfl, rfl, rfl, rfl, rfl, rfl, rfl, HR⟩
  case round =>
    clear HR
    obtain ⟨p, k, lf, cr, hkn, hpn, rfl, rfl, rfl, rfl, rfl, rfl, rfl, HR⟩ := hrel
    have hkp := HR.out.2.1
    by_cases hp : p < n
    · obtain ⟨hst1, hst2, hcnt⟩ := HR.out.2.2.1 hp
      have hcall := zzAdv_any g n p f lf cr k wr hn hp HF.out HR.out.2.2.2.2.2.2 HR.out.2.2.2.2.1 ⟨by omega, by omega⟩ hst1 hst2
      clear hst1 hst2 hcnt
      go_wp2_with fail
      refine hcall.mono ?_
      rintro e' w2 ⟨L, C, e, s, hL, hC, hS, rfl, hb2⟩
      have HR2 : Hid (Rel f w' g n s (k + 1) L C w2) := HR.out.step hp hL hC hS hb2
      have HS : Hid (StepIs f n p e s) := hS
      have hs1 := hS.1
      have hs2 := hS.2.1
      have hs3 := hS.2.2.1
      have hs4 := hS.2.2.2.1
      clear hL hC hS hb2 hcall HR
      have hne : ((p : Int) != (p : Int)) = false := by simp
      go_wp2
      go_loop [18] (fun j => ∃ jj : Nat, p ≤ jj ∧ jj ≤ e ∧ j = .int .i64 jj) (fun j => e - (intOf j).toNat)
      case atStart => exact ⟨p, by omega, by omega, rfl⟩
      case round =>
        obtain ⟨j, hj1, hj2, rfl⟩ := hrel
        by_cases hje : j < e
        · have hcj := HR2.out.2.2.2.2.1 j (by omega)
          have hno := HS.out.2.2.2.2.1 j hj1 hje
          have hb1 : (f j == 10) = false := beq_eq_false_iff_ne.2 hno.1
          have hb2 : (f j == 13) = false := beq_eq_false_iff_ne.2 hno.2
          clear hno
          go_wp2
          go_round
          case rel => exact ⟨j + 1, by omega, by omega, by go_num⟩
          case measure => simp [intOf]; omega
        · obtain rfl : j = e := by omega
          rcases HS.out.2.2.2.2.2 with ⟨c1, c2⟩ | ⟨c1, c2, c3⟩ | ⟨c1, c2, c3, c4⟩
          · have q0 : ((s : Int) - (j : Int) == 0) = true := beq_iff_eq.2 (by omega)
            have q1 : ((s : Int) != (n : Int)) = false := by rw [bne_eq_false_iff_eq]; omega
            have hk2 : k + 1 ≤ n := by have := HR2.out.2.1; omega
            clear c1 c2
            go_wp2
            go_roundw
            case rel => exact ⟨s, k + 1, L, C, by omega, by omega, rfl, rfl, rfl, by go_num, rfl, by go_num, by go_num, HR2⟩
            case measure => simp [intOf]; omega
          · have q0 : ((s : Int) - (j : Int) == 0) = false := beq_eq_false_iff_ne.2 (by omega)
            have q1 : ((s : Int) - (j : Int) == 1) = true := beq_iff_eq.2 (by omega)
            have hcj := HR2.out.2.2.2.2.1 j (by omega)
            have hk2 : k + 1 ≤ n := by have := HR2.out.2.1; omega
            by_cases h13 : f j = 13
            · have hb1 : (f j == 13) = true := beq_iff_eq.2 h13
              have hno : ¬ (s < n ∧ f s = 10) := by
                rcases c3 with c3 | c3
                · rw [h13] at c3; exact absurd c3 (by decide)
                · exact c3.2
              by_cases hsn : s < n
              · have hcs := HR2.out.2.2.2.2.1 s hsn
                have hb2 : (f s == 10) = false := beq_eq_false_iff_ne.2 (fun h => hno ⟨hsn, h⟩)
                clear c1 c2 c3 h13 hno
                go_wp2
                go_roundw
                case rel => exact ⟨s, k + 1, L, C, by omega, by omega, rfl, rfl, rfl, by go_num, rfl, by go_num, by go_num, HR2⟩
                case measure => simp [intOf]; omega
              · obtain rfl : s = n := by omega
                clear c1 c3 h13 hno hsn
                go_wp2
                go_roundw
                case rel => exact ⟨s, k + 1, L, C, by omega, by omega, rfl, rfl, rfl, by go_num, rfl, by go_num, by go_num, HR2⟩
                case measure => simp [intOf]; omega
            · have hb1 : (f j == 13) = false := beq_eq_false_iff_ne.2 h13
              have hb2 : (f j != 10) = false := by
                rw [bne_eq_false_iff_eq]
                rcases c3 with c3 | c3
                · exact c3
                · exact absurd c3.1 h13
              clear c1 c3 h13
              go_wp2
              go_roundw
              case rel => exact ⟨s, k + 1, L, C, by omega, by omega, rfl, rfl, rfl, by go_num, rfl, by go_num, by go_num, HR2⟩
              case measure => simp [intOf]; omega
          · have q0 : ((s : Int) - (j : Int) == 0) = false := beq_eq_false_iff_ne.2 (by omega)
            have q1 : ((s : Int) - (j : Int) == 1) = false := beq_eq_false_iff_ne.2 (by omega)
            have q2 : ((s : Int) - (j : Int) == 2) = true := beq_iff_eq.2 (by omega)
            have hcj := HR2.out.2.2.2.2.1 j (by omega)
            have hcj2 := HR2.out.2.2.2.2.1 (j + 1) (by omega)
            have hk2 : k + 1 ≤ n := by have := HR2.out.2.1; omega
            have hb1 : (f j != 13) = false := by rw [bne_eq_false_iff_eq]; exact c3
            have hb2 : (f (j + 1) != 10) = false := by rw [bne_eq_false_iff_eq]; exact c4
            clear c1 c3 c4
            go_wp2
            go_roundw
            case rel => exact ⟨s, k + 1, L, C, by omega, by omega, rfl, rfl, rfl, by go_num, rfl, by go_num, by go_num, HR2⟩
            case measure => simp [intOf]; omega
    · obtain rfl : p = n := by omega
      have hcount := fun wx hT => count_any g p f wx hn h0 hT
      unfold CntPost at hcount
      rw [← HR.out.2.2.2.1 rfl] at hcount
      go_wp2_with fail
      refine (zzAdv_end _ p p lf cr k _).mono ?_
      rintro e' w2 ⟨rfl, hb2⟩
      have HT : Hid (Txt w2 g p f) := HR.out.2.2.2.2.1.below hb2 HR.out.2.2.2.2.2.2
      have HB : Hid (Below w'.heap.size w' w2) := HR.out.2.2.2.2.2.1.trans (hb2.mono HR.out.2.2.2.2.2.1.size)
      have hc2 := hcount w2 HT.out
      clear hb2 hcount HR
      go_wp2_with (go_at_call 17; refine hc2.mono ?_; rintro e w' ⟨rfl, rfl⟩)
      go_ret
      exact ⟨rfl, HB.out⟩

end Go.Proofs.Qxb6603146a
