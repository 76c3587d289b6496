import Derived.Test.Qxb6601374aDoorMark
namespace Go.Proofs.Qxb6601374aDoor
open Go.RowKit

theorem markPost_none {o : Option (Nat × Nat × ByteArray × Bool)} {w w' : World} (h : o = none) (hb : Below w.heap.size w w') :
    MarkPost o w (.returned (.tuple #[.agg #[.int .i64 0, .int .i64 0, .string ⟨#[]⟩, .bool false], .bool false])) w' := by subst h; exact ⟨rfl, hb⟩
theorem markPost_some {o : Option (Nat × Nat × ByteArray × Bool)} {w w' : World} {a b : Nat} {t : ByteArray} {f : Bool} (h : o = some (a, b, t, f)) (hb : Below w.heap.size w w') :
    MarkPost o w (.returned (.tuple #[.agg #[.int .i64 (a : Int), .int .i64 (b : Int), .string t, .bool f], .bool true])) w' := by subst h; exact ⟨rfl, hb⟩

theorem below1 (w : World) (o : Obj) : Below w.heap.size w (w.alloc o) := (Below.refl _ _).alloc (Nat.le_refl _) _
theorem below2 (w : World) (o o2 : Obj) : Below w.heap.size w ((w.alloc o).alloc o2) := (below1 w o).alloc (by simp) _

theorem rest_at {s r : ByteArray} {k : Nat} (hr : s.extract (k - 1) s.size = r) (h1 : 1 ≤ k) (hk : k < s.size) :
    r.size = s.size - (k - 1) ∧ (∀ (h : 0 < r.size) (hk1 : k - 1 < s.size), r[0] = s[k - 1]) ∧ (∀ (h : 1 < r.size), r[1] = s[k]) := by
  have hl : r.data.toList = List.drop (k - 1) s.data.toList := by
    rw [← hr, Lib.extract_data]
    exact List.take_of_length_le (by rw [List.length_drop, ← Lib.size_eq]; exact Nat.le_refl _)
  refine ⟨?_, ?_, ?_⟩
  · rw [Lib.size_eq, hl, List.length_drop, ← Lib.size_eq]
  · intro h hk1
    rw [byte_list r 0 h, byte_list s _ hk1]
    simp only [hl]
    rw [List.getElem_drop]
    rfl
  · intro h
    rw [byte_list r 1 h, byte_list s _ hk]
    simp only [hl]
    rw [List.getElem_drop]
    simp only [show k - 1 + 1 = k from by omega]

theorem mt_yes {r : ByteArray} (h : 3 ≤ r.size) (h0 : r[0].toNat = 45) (h1 : r[1].toNat = 62) (h2 : r[2].toNat = 45) : mtOf r = r.extract 3 (endOf r) := by
  unfold mtOf; rw [pre3 r h, h0, h1, h2]; rfl
theorem mt_no1 {r : ByteArray} (h : 1 < r.size) (h1 : ¬ r[1].toNat = 62) : mtOf r = ⟨#[]⟩ := by
  unfold mtOf
  by_cases h3 : 3 ≤ r.size
  · rw [pre3 r h3]
    rw [show decide ((62 : UInt8).toNat = r[1].toNat) = false from decide_eq_false (fun e => h1 e.symm)]
    simp
  · rw [preShort _ _ (by rw [← Lib.size_eq]; simp; omega)]; rfl
theorem mt_short {r : ByteArray} (h : ¬ 3 ≤ r.size) : mtOf r = ⟨#[]⟩ := by
  unfold mtOf; rw [preShort _ _ (by rw [← Lib.size_eq]; simp; omega)]; rfl
theorem mt_no2 {r : ByteArray} (h : 3 ≤ r.size) (h2 : ¬ r[2].toNat = 45) : mtOf r = ⟨#[]⟩ := by
  unfold mtOf
  rw [pre3 r h]
  rw [show decide ((45 : UInt8).toNat = r[2].toNat) = false from decide_eq_false (fun e => h2 e.symm)]
  simp
theorem mw_yes {r : ByteArray} (h : 4 ≤ r.size) (h0 : r[0].toNat = 45) (h1 : r[1].toNat = 60) (h2 : r[2].toNat = 60) (h3 : r[3].toNat = 45) : mwOf r = true := by
  unfold mwOf; rw [pre4 r h, h0, h1, h2, h3]; rfl
theorem mw_short {r : ByteArray} (h : ¬ 4 ≤ r.size) : mwOf r = false := by
  unfold mwOf; exact preShort _ _ (by rw [← Lib.size_eq]; simp; omega)
theorem mw_no1 {r : ByteArray} (h : 1 < r.size) (h1 : ¬ r[1].toNat = 60) : mwOf r = false := by
  by_cases h4 : 4 ≤ r.size
  · unfold mwOf
    rw [pre4 r h4]
    rw [show decide ((60 : UInt8).toNat = r[1].toNat) = false from decide_eq_false (fun e => h1 e.symm)]
    simp
  · exact mw_short h4
theorem mw_no2 {r : ByteArray} (h : 4 ≤ r.size) (h2 : ¬ r[2].toNat = 60) : mwOf r = false := by
  unfold mwOf
  rw [pre4 r h]
  rw [show decide ((60 : UInt8).toNat = r[2].toNat) = false from decide_eq_false (fun e => h2 e.symm)]
  simp
theorem mw_no3 {r : ByteArray} (h : 4 ≤ r.size) (h2 : ¬ r[3].toNat = 45) : mwOf r = false := by
  unfold mwOf
  rw [pre4 r h]
  rw [show decide ((45 : UInt8).toNat = r[3].toNat) = false from decide_eq_false (fun e => h2 e.symm)]
  simp
theorem end_yes {r : ByteArray} (h : 0 < r.size) (h1 : r[r.size - 1].toNat = 93) : endOf r = r.size - 1 := by
  unfold endOf; rw [suf1 r h, h1]; rfl
theorem end_no {r : ByteArray} (h : 0 < r.size) (h1 : ¬ r[r.size - 1].toNat = 93) : endOf r = r.size := by
  unfold endOf; rw [suf1 r h, decide_eq_false h1]; rfl

theorem last_ne {r : ByteArray} (p2 : 2 < r.size) (p9 : r.size - 1 < r.size) (h9 : r[r.size - 1].toNat = 93) (h2 : r[2].toNat = 45) : 4 ≤ r.size := by
  by_cases e : r.size - 1 = 2
  · have : r[r.size - 1]'p9 = r[2]'p2 := by simp only [e]
    rw [this] at h9
    omega
  · omega

set_option maxHeartbeats 4000000 in
set_option maxRecDepth 100000 in
theorem zzMark_any (s : ByteArray) (w : World) (hs : s.size ≤ 1048576) :
    Calls Tryd.prog 17 #[.string s] w (MarkPost (markOf s) w) := by
  obtain ⟨M, hM⟩ : ∃ M, markOf s = M := ⟨_, rfl⟩
  have HM : Hid (markOf s = M) := hM
  rw [hM]
  clear hM
  go_enter Tryd.func17, Tryd.ntmps17
  go_wp2
  go_loop [4, 5] (fun d j => ∃ k : Nat, k ≤ s.size ∧ d = .int .i64 (-1) ∧ j = .int .i64 k ∧ NoArrow s k) (fun _ j => s.size - (intOf j).toNat)
  case atStart => exact ⟨0, by omega, rfl, rfl, fun _ _ h => absurd h (Nat.not_lt_zero _)⟩
  case round =>
    obtain ⟨k, hk, rfl, rfl, hL⟩ := hrel
    by_cases hlt : k < s.size
    · by_cases hc : s[k].toNat = 60 ∨ s[k].toNat = 62
      · by_cases hck : s[k].toNat = 60
        · have HA : Hid (arrowAt s.data.toList = (k : Int)) := arrow_hit hL hlt hc
          have hcc : s[k].toNat = 60 := hck
          clear hL hc hck
          have hb1 : ((s[k].toNat : Int) == 60) = true := beq_iff_eq.2 (by omega)
          by_cases h1 : 1 ≤ k
          · have hk1 : k - 1 < s.size := by omega
            by_cases hd : (s[k - 1].toNat : Int) = 45
            · have hm := mark_rng HA.out h1 hk1 hd
              rw [HM.out] at hm
              obtain ⟨r, hr⟩ : ∃ r, s.extract (k - 1) s.size = r := ⟨_, rfl⟩
              rw [hr] at hm
              have hra := rest_at hr h1 hlt
              have hrs : 2 ≤ r.size := by omega
              have hrs2 : r.size ≤ 1048576 := by omega
              have p0 : 0 < r.size := by omega
              have p1 : 1 < r.size := by omega
              have p9 : r.size - 1 < r.size := by omega
              have HR0 : Hid (r[0].toNat = 45) := by show _ = _; rw [hra.2.1 (by omega) hk1]; omega
              have hr1 : True ∧ r[1].toNat = 60 := ⟨trivial, by rw [hra.2.2 (by omega)]; exact hcc⟩
              have HR1 : Hid (r[1].toNat = 60) := hr1.2
              have q1 : ((r[1].toNat : Int) == 60) = true := beq_iff_eq.2 (by have := hr1.2; omega)
              have q1b : ((r[1].toNat : Int) == 62) = false := beq_eq_false_iff_ne.2 (by have := hr1.2; omega)
              have hdb : ((s[k - 1].toNat : Int) != 45) = false := by rw [bne_eq_false_iff_eq]; exact hd
              have HM2 : Hid _ := hm
              have HRA : Hid _ := hra
              have hcall := zzRange_any (s.extract 0 (k - 1)) (w.alloc (.cells #[.int .i64 0, .int .i64 0, .string ⟨#[]⟩, .bool false] 25)) (by simp; omega)
              clear hm HM HA hd hcc hra
              cases hrg : rngL (s.extract 0 (k - 1)).data.toList with
              | none =>
                have HM3 : Hid (M = none) := by have := HM2.out; rw [hrg] at this; exact this
                rw [hrg] at hcall
                clear HM2 hrg HR1 HR0 HRA q1 q1b hr1
                go_wp2_with fail
                refine hcall.mono ?_
                rintro e w1 ⟨rfl, rfl⟩
                go_wp2
                refine bodyPost_ret (v := .tuple #[.agg #[.int .i64 0, .int .i64 0, .string ⟨#[]⟩, .bool false], .bool false]) (by simp [results, Tryd.results17, go_sem]) rfl ?_
                exact markPost_none HM3.out (below1 _ _)
              | some ab =>
                obtain ⟨a, b⟩ := ab
                have HM3 : Hid (M = some (a, b, mtOf r, mwOf r)) := by have := HM2.out; rw [hrg] at this; exact this
                rw [hrg] at hcall
                clear HM2 hrg HRA
                go_wp2_with fail
                refine hcall.mono ?_
                rintro e w1 ⟨rfl, rfl⟩
                by_cases c9 : r[r.size - 1].toNat = 93
                · have q9 : ((r[r.size - 1].toNat : Int) == 93) = true := beq_iff_eq.2 (by omega)
                  have HE : Hid (endOf r = r.size - 1) := end_yes (by omega) c9
                  clear c9
                  by_cases h4 : 4 ≤ r.size
                  · have p2 : 2 < r.size := by omega
                    have p3 : 3 < r.size := by omega
                    have H1 : Hid (¬ r[1].toNat = 62) := by show ¬ _; rw [hr1.2]; omega
                    by_cases c2 : r[2].toNat = 60
                    · have q2 : ((r[2].toNat : Int) == 60) = true := beq_iff_eq.2 (by omega)
                      have H2 : Hid (r[2].toNat = 60) := c2
                      clear c2
                      by_cases c3 : r[3].toNat = 45
                      · have q3 : ((r[3].toNat : Int) == 45) = true := beq_iff_eq.2 (by omega)
                        have H3 : Hid (r[3].toNat = 45) := c3
                        clear c3
                        go_wp2
                        refine bodyPost_ret (v := .tuple #[.agg #[.int .i64 (a : Int), .int .i64 (b : Int), .string ⟨#[]⟩, .bool true], .bool true]) (by simp [results, Tryd.results17, go_sem]) rfl ?_
                        exact markPost_some (by rw [HM3.out, mt_no1 p1 H1.out, mw_yes h4 HR0.out HR1.out H2.out H3.out]) (below2 _ _ _)
                      · have q3 : ((r[3].toNat : Int) == 45) = false := beq_eq_false_iff_ne.2 (by omega)
                        have H3 : Hid (¬ r[3].toNat = 45) := c3
                        clear c3
                        go_wp2
                        refine bodyPost_ret (v := .tuple #[.agg #[.int .i64 (a : Int), .int .i64 (b : Int), .string ⟨#[]⟩, .bool false], .bool true]) (by simp [results, Tryd.results17, go_sem]) rfl ?_
                        exact markPost_some (by rw [HM3.out, mt_no1 p1 H1.out, mw_no3 h4 H3.out]) (below2 _ _ _)
                    · have q2 : ((r[2].toNat : Int) == 60) = false := beq_eq_false_iff_ne.2 (by omega)
                      have H2 : Hid (¬ r[2].toNat = 60) := c2
                      clear c2
                      go_wp2
                      refine bodyPost_ret (v := .tuple #[.agg #[.int .i64 (a : Int), .int .i64 (b : Int), .string ⟨#[]⟩, .bool false], .bool true]) (by simp [results, Tryd.results17, go_sem]) rfl ?_
                      exact markPost_some (by rw [HM3.out, mt_no1 p1 H1.out, mw_no2 h4 H2.out]) (below2 _ _ _)
                  · have H1 : Hid (¬ r[1].toNat = 62) := by show ¬ _; rw [hr1.2]; omega
                    by_cases h3 : 3 ≤ r.size
                    · go_wp2
                      refine bodyPost_ret (v := .tuple #[.agg #[.int .i64 (a : Int), .int .i64 (b : Int), .string ⟨#[]⟩, .bool false], .bool true]) (by simp [results, Tryd.results17, go_sem]) rfl ?_
                      exact markPost_some (by rw [HM3.out, mt_no1 p1 H1.out, mw_short h4]) (below2 _ _ _)
                    · go_wp2
                      refine bodyPost_ret (v := .tuple #[.agg #[.int .i64 (a : Int), .int .i64 (b : Int), .string ⟨#[]⟩, .bool false], .bool true]) (by simp [results, Tryd.results17, go_sem]) rfl ?_
                      exact markPost_some (by rw [HM3.out, mt_no1 p1 H1.out, mw_short h4]) (below2 _ _ _)
                · have q9 : ((r[r.size - 1].toNat : Int) == 93) = false := beq_eq_false_iff_ne.2 (by omega)
                  have HE : Hid (endOf r = r.size) := end_no (by omega) c9
                  clear c9
                  by_cases h4 : 4 ≤ r.size
                  · have p2 : 2 < r.size := by omega
                    have p3 : 3 < r.size := by omega
                    have H1 : Hid (¬ r[1].toNat = 62) := by show ¬ _; rw [hr1.2]; omega
                    by_cases c2 : r[2].toNat = 60
                    · have q2 : ((r[2].toNat : Int) == 60) = true := beq_iff_eq.2 (by omega)
                      have H2 : Hid (r[2].toNat = 60) := c2
                      clear c2
                      by_cases c3 : r[3].toNat = 45
                      · have q3 : ((r[3].toNat : Int) == 45) = true := beq_iff_eq.2 (by omega)
                        have H3 : Hid (r[3].toNat = 45) := c3
                        clear c3
                        go_wp2
                        refine bodyPost_ret (v := .tuple #[.agg #[.int .i64 (a : Int), .int .i64 (b : Int), .string ⟨#[]⟩, .bool true], .bool true]) (by simp [results, Tryd.results17, go_sem]) rfl ?_
                        exact markPost_some (by rw [HM3.out, mt_no1 p1 H1.out, mw_yes h4 HR0.out HR1.out H2.out H3.out]) (below2 _ _ _)
                      · have q3 : ((r[3].toNat : Int) == 45) = false := beq_eq_false_iff_ne.2 (by omega)
                        have H3 : Hid (¬ r[3].toNat = 45) := c3
                        clear c3
                        go_wp2
                        refine bodyPost_ret (v := .tuple #[.agg #[.int .i64 (a : Int), .int .i64 (b : Int), .string ⟨#[]⟩, .bool false], .bool true]) (by simp [results, Tryd.results17, go_sem]) rfl ?_
                        exact markPost_some (by rw [HM3.out, mt_no1 p1 H1.out, mw_no3 h4 H3.out]) (below2 _ _ _)
                    · have q2 : ((r[2].toNat : Int) == 60) = false := beq_eq_false_iff_ne.2 (by omega)
                      have H2 : Hid (¬ r[2].toNat = 60) := c2
                      clear c2
                      go_wp2
                      refine bodyPost_ret (v := .tuple #[.agg #[.int .i64 (a : Int), .int .i64 (b : Int), .string ⟨#[]⟩, .bool false], .bool true]) (by simp [results, Tryd.results17, go_sem]) rfl ?_
                      exact markPost_some (by rw [HM3.out, mt_no1 p1 H1.out, mw_no2 h4 H2.out]) (below2 _ _ _)
                  · have H1 : Hid (¬ r[1].toNat = 62) := by show ¬ _; rw [hr1.2]; omega
                    by_cases h3 : 3 ≤ r.size
                    · go_wp2
                      refine bodyPost_ret (v := .tuple #[.agg #[.int .i64 (a : Int), .int .i64 (b : Int), .string ⟨#[]⟩, .bool false], .bool true]) (by simp [results, Tryd.results17, go_sem]) rfl ?_
                      exact markPost_some (by rw [HM3.out, mt_no1 p1 H1.out, mw_short h4]) (below2 _ _ _)
                    · go_wp2
                      refine bodyPost_ret (v := .tuple #[.agg #[.int .i64 (a : Int), .int .i64 (b : Int), .string ⟨#[]⟩, .bool false], .bool true]) (by simp [results, Tryd.results17, go_sem]) rfl ?_
                      exact markPost_some (by rw [HM3.out, mt_no1 p1 H1.out, mw_short h4]) (below2 _ _ _)
            · have HM2 : Hid (M = none) := by rw [← HM.out]; exact mark_dash HA.out h1 hk1 hd
              have hdb : ((s[k - 1].toNat : Int) != 45) = true := by rw [bne_iff_ne]; exact hd
              clear HM HA hd hcc
              go_wp2
              refine bodyPost_ret (v := .tuple #[.agg #[.int .i64 0, .int .i64 0, .string ⟨#[]⟩, .bool false], .bool false]) (by simp [results, Tryd.results17, go_sem]) rfl ?_
              exact markPost_none HM2.out (below1 _ _)
          · have HM2 : Hid (M = none) := by rw [← HM.out]; exact mark_low (by rw [HA.out]; omega)
            clear HM HA hcc
            go_wp2
            refine bodyPost_ret (v := .tuple #[.agg #[.int .i64 0, .int .i64 0, .string ⟨#[]⟩, .bool false], .bool false]) (by simp [results, Tryd.results17, go_sem]) rfl ?_
            exact markPost_none HM2.out (below1 _ _)
        · replace hck : s[k].toNat = 62 := by omega
          have HA : Hid (arrowAt s.data.toList = (k : Int)) := arrow_hit hL hlt hc
          have hcc : s[k].toNat = 62 := hck
          clear hL hc hck
          have hb1 : ((s[k].toNat : Int) == 60) = false := beq_eq_false_iff_ne.2 (by omega)
          have hb2 : ((s[k].toNat : Int) == 62) = true := beq_iff_eq.2 (by omega)
          by_cases h1 : 1 ≤ k
          · have hk1 : k - 1 < s.size := by omega
            by_cases hd : (s[k - 1].toNat : Int) = 45
            · have hm := mark_rng HA.out h1 hk1 hd
              rw [HM.out] at hm
              obtain ⟨r, hr⟩ : ∃ r, s.extract (k - 1) s.size = r := ⟨_, rfl⟩
              rw [hr] at hm
              have hra := rest_at hr h1 hlt
              have hrs : 2 ≤ r.size := by omega
              have hrs2 : r.size ≤ 1048576 := by omega
              have p0 : 0 < r.size := by omega
              have p1 : 1 < r.size := by omega
              have p9 : r.size - 1 < r.size := by omega
              have HR0 : Hid (r[0].toNat = 45) := by show _ = _; rw [hra.2.1 (by omega) hk1]; omega
              have hr1 : True ∧ r[1].toNat = 62 := ⟨trivial, by rw [hra.2.2 (by omega)]; exact hcc⟩
              have HR1 : Hid (r[1].toNat = 62) := hr1.2
              have q1 : ((r[1].toNat : Int) == 60) = false := beq_eq_false_iff_ne.2 (by have := hr1.2; omega)
              have q1b : ((r[1].toNat : Int) == 62) = true := beq_iff_eq.2 (by have := hr1.2; omega)
              have hdb : ((s[k - 1].toNat : Int) != 45) = false := by rw [bne_eq_false_iff_eq]; exact hd
              have HM2 : Hid _ := hm
              have HRA : Hid _ := hra
              have hcall := zzRange_any (s.extract 0 (k - 1)) (w.alloc (.cells #[.int .i64 0, .int .i64 0, .string ⟨#[]⟩, .bool false] 25)) (by simp; omega)
              clear hm HM HA hd hcc hra
              cases hrg : rngL (s.extract 0 (k - 1)).data.toList with
              | none =>
                have HM3 : Hid (M = none) := by have := HM2.out; rw [hrg] at this; exact this
                rw [hrg] at hcall
                clear HM2 hrg HR1 HR0 HRA q1 q1b hr1
                go_wp2_with fail
                refine hcall.mono ?_
                rintro e w1 ⟨rfl, rfl⟩
                go_wp2
                refine bodyPost_ret (v := .tuple #[.agg #[.int .i64 0, .int .i64 0, .string ⟨#[]⟩, .bool false], .bool false]) (by simp [results, Tryd.results17, go_sem]) rfl ?_
                exact markPost_none HM3.out (below1 _ _)
              | some ab =>
                obtain ⟨a, b⟩ := ab
                have HM3 : Hid (M = some (a, b, mtOf r, mwOf r)) := by have := HM2.out; rw [hrg] at this; exact this
                rw [hrg] at hcall
                clear HM2 hrg HRA
                go_wp2_with fail
                refine hcall.mono ?_
                rintro e w1 ⟨rfl, rfl⟩
                by_cases c9 : r[r.size - 1].toNat = 93
                · have q9 : ((r[r.size - 1].toNat : Int) == 93) = true := beq_iff_eq.2 (by omega)
                  have H9 : Hid (r[r.size - 1].toNat = 93) := c9
                  have HE : Hid (endOf r = r.size - 1) := end_yes (by omega) c9
                  clear c9
                  have H1 : Hid (¬ r[1].toNat = 60) := by show ¬ _; rw [hr1.2]; omega
                  by_cases h3 : 3 ≤ r.size
                  · have p2 : 2 < r.size := by omega
                    by_cases c2 : r[2].toNat = 45
                    · have q2 : ((r[2].toNat : Int) == 45) = true := beq_iff_eq.2 (by omega)
                      have H2 : Hid (r[2].toNat = 45) := c2
                      have h4 : 4 ≤ r.size := last_ne p2 p9 H9.out c2
                      have hle : 3 ≤ r.size - 1 := by omega
                      clear c2
                      go_wp2
                      refine bodyPost_ret (v := .tuple #[.agg #[.int .i64 (a : Int), .int .i64 (b : Int), .string (r.extract 3 (r.size - 1)), .bool false], .bool true]) (by simp [results, Tryd.results17, go_sem]) rfl ?_
                      exact markPost_some (by rw [HM3.out, mt_yes h3 HR0.out HR1.out H2.out, HE.out, mw_no1 p1 H1.out]) (below2 _ _ _)
                    · have q2 : ((r[2].toNat : Int) == 45) = false := beq_eq_false_iff_ne.2 (by omega)
                      have H2 : Hid (¬ r[2].toNat = 45) := c2
                      clear c2
                      by_cases h4 : 4 ≤ r.size
                      · go_wp2
                        refine bodyPost_ret (v := .tuple #[.agg #[.int .i64 (a : Int), .int .i64 (b : Int), .string ⟨#[]⟩, .bool false], .bool true]) (by simp [results, Tryd.results17, go_sem]) rfl ?_
                        exact markPost_some (by rw [HM3.out, mt_no2 h3 H2.out, mw_no1 p1 H1.out]) (below2 _ _ _)
                      · go_wp2
                        refine bodyPost_ret (v := .tuple #[.agg #[.int .i64 (a : Int), .int .i64 (b : Int), .string ⟨#[]⟩, .bool false], .bool true]) (by simp [results, Tryd.results17, go_sem]) rfl ?_
                        exact markPost_some (by rw [HM3.out, mt_no2 h3 H2.out, mw_no1 p1 H1.out]) (below2 _ _ _)
                  · go_wp2
                    refine bodyPost_ret (v := .tuple #[.agg #[.int .i64 (a : Int), .int .i64 (b : Int), .string ⟨#[]⟩, .bool false], .bool true]) (by simp [results, Tryd.results17, go_sem]) rfl ?_
                    exact markPost_some (by rw [HM3.out, mt_short h3, mw_no1 p1 H1.out]) (below2 _ _ _)
                · have q9 : ((r[r.size - 1].toNat : Int) == 93) = false := beq_eq_false_iff_ne.2 (by omega)
                  have HE : Hid (endOf r = r.size) := end_no (by omega) c9
                  clear c9
                  have H1 : Hid (¬ r[1].toNat = 60) := by show ¬ _; rw [hr1.2]; omega
                  by_cases h3 : 3 ≤ r.size
                  · have p2 : 2 < r.size := by omega
                    by_cases c2 : r[2].toNat = 45
                    · have q2 : ((r[2].toNat : Int) == 45) = true := beq_iff_eq.2 (by omega)
                      have H2 : Hid (r[2].toNat = 45) := c2
                      have hle : 3 ≤ r.size := by omega
                      clear c2
                      by_cases h4 : 4 ≤ r.size
                      · go_wp2
                        refine bodyPost_ret (v := .tuple #[.agg #[.int .i64 (a : Int), .int .i64 (b : Int), .string (r.extract 3 (r.size)), .bool false], .bool true]) (by simp [results, Tryd.results17, go_sem]) rfl ?_
                        exact markPost_some (by rw [HM3.out, mt_yes h3 HR0.out HR1.out H2.out, HE.out, mw_no1 p1 H1.out]) (below2 _ _ _)
                      · go_wp2
                        refine bodyPost_ret (v := .tuple #[.agg #[.int .i64 (a : Int), .int .i64 (b : Int), .string (r.extract 3 (r.size)), .bool false], .bool true]) (by simp [results, Tryd.results17, go_sem]) rfl ?_
                        exact markPost_some (by rw [HM3.out, mt_yes h3 HR0.out HR1.out H2.out, HE.out, mw_no1 p1 H1.out]) (below2 _ _ _)
                    · have q2 : ((r[2].toNat : Int) == 45) = false := beq_eq_false_iff_ne.2 (by omega)
                      have H2 : Hid (¬ r[2].toNat = 45) := c2
                      clear c2
                      by_cases h4 : 4 ≤ r.size
                      · go_wp2
                        refine bodyPost_ret (v := .tuple #[.agg #[.int .i64 (a : Int), .int .i64 (b : Int), .string ⟨#[]⟩, .bool false], .bool true]) (by simp [results, Tryd.results17, go_sem]) rfl ?_
                        exact markPost_some (by rw [HM3.out, mt_no2 h3 H2.out, mw_no1 p1 H1.out]) (below2 _ _ _)
                      · go_wp2
                        refine bodyPost_ret (v := .tuple #[.agg #[.int .i64 (a : Int), .int .i64 (b : Int), .string ⟨#[]⟩, .bool false], .bool true]) (by simp [results, Tryd.results17, go_sem]) rfl ?_
                        exact markPost_some (by rw [HM3.out, mt_no2 h3 H2.out, mw_no1 p1 H1.out]) (below2 _ _ _)
                  · go_wp2
                    refine bodyPost_ret (v := .tuple #[.agg #[.int .i64 (a : Int), .int .i64 (b : Int), .string ⟨#[]⟩, .bool false], .bool true]) (by simp [results, Tryd.results17, go_sem]) rfl ?_
                    exact markPost_some (by rw [HM3.out, mt_short h3, mw_no1 p1 H1.out]) (below2 _ _ _)
            · have HM2 : Hid (M = none) := by rw [← HM.out]; exact mark_dash HA.out h1 hk1 hd
              have hdb : ((s[k - 1].toNat : Int) != 45) = true := by rw [bne_iff_ne]; exact hd
              clear HM HA hd hcc
              go_wp2
              refine bodyPost_ret (v := .tuple #[.agg #[.int .i64 0, .int .i64 0, .string ⟨#[]⟩, .bool false], .bool false]) (by simp [results, Tryd.results17, go_sem]) rfl ?_
              exact markPost_none HM2.out (below1 _ _)
          · have HM2 : Hid (M = none) := by rw [← HM.out]; exact mark_low (by rw [HA.out]; omega)
            clear HM HA hcc
            go_wp2
            refine bodyPost_ret (v := .tuple #[.agg #[.int .i64 0, .int .i64 0, .string ⟨#[]⟩, .bool false], .bool false]) (by simp [results, Tryd.results17, go_sem]) rfl ?_
            exact markPost_none HM2.out (below1 _ _)
      · have hb1 : ((s[k].toNat : Int) == 60) = false := beq_eq_false_iff_ne.2 (by omega)
        have hb2 : ((s[k].toNat : Int) == 62) = false := beq_eq_false_iff_ne.2 (by omega)
        have hL2 : NoArrow s (k + 1) := by
          intro j hj hlt2
          by_cases e : j = k
          · subst e; exact ⟨fun h => hc (.inl h), fun h => hc (.inr h)⟩
          · exact hL j hj (by omega)
        clear hL hc
        go_wp2
        go_round
        case rel => exact ⟨k + 1, by omega, rfl, by go_num, hL2⟩
        case measure => simp [intOf]; omega
    · have HM2 : Hid (M = none) := by rw [← HM.out]; exact mark_low (by rw [arrow_none hL (by omega)]; decide)
      clear HM hL
      go_wp2
      refine bodyPost_ret (v := .tuple #[.agg #[.int .i64 0, .int .i64 0, .string ⟨#[]⟩, .bool false], .bool false]) (by simp [results, Tryd.results17, go_sem]) rfl ?_
      exact markPost_none HM2.out (below1 _ _)

end Go.Proofs.Qxb6601374aDoor
