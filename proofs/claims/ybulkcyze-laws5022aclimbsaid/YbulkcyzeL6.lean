import Derived.Test.YbulkcyzeL5
namespace Go.Proofs.Ybulkcyze
open Go.RowKit

set_option maxRecDepth 100000 in
set_option maxHeartbeats 8000000 in
theorem law_any (a0 a1 : Option Addr) (k cap0 n1 cap1 : Nat) (Z0 Z1 : Nat → Int) (hl : Bool) (ed : Int) (w : World) (hk : k ≤ 1024) (_hn1 : n1 ≤ maxLen) (s0 : Src w a0 k Z0) (s1 : Src w a1 n1 Z1) :
    Calls Yba.prog 3 #[.slice a0 k cap0, .slice a1 n1 cap1, .bool hl, .int .u64 ed] w fun e w' => e = .returned (.bool true) ∧ Below w.heap.size w w' := by
  have hk' : ¬ (1024 : Int) < (k : Int) := by omega
  have m24 := fun w => mk_run Yba.underlying24 info28 (by decide) hk w
  have m25 := fun w => mk_run Yba.underlying25 info39 (by decide) hk w
  have m26 := fun w => mk_run Yba.underlying26 info3 (by decide) hk w
  have m27 := fun w => mk_run Yba.underlying27 info53 (by decide) hk w
  unfold maxLen at _hn1
  go_enter Yba.func3, Yba.ntmps3
  go_wp2
  clear m24 m25 m26 m27
  go_loopw [14] (fun i wr => ∃ (j : Nat) (Nb Ib Rb : Nat → Nat) (Rp : Nat → Nat → Nat), j ≤ k ∧ i = .int .i64 j ∧ Blt wr w.heap.size k j (Mz Z0) (Iz Z0 Z1 k n1) Nb Ib Rb Rp ∧ Below w.heap.size w wr ∧ w.heap.size + 4 ≤ wr.heap.size) (fun i _ => k - (intOf i).toNat)
  case atStart => exact ⟨0, fun _ => 0, fun _ => 0, fun _ => 0, fun _ _ => 0, Nat.zero_le _, rfl, blt_start w k _ _ _ _ _ _, ((((Below.refl _ _).alloc (Nat.le_refl _) _).alloc (by simp) _).alloc (by simp; omega) _).alloc (by simp; omega) _, by simp⟩
  case round =>
    obtain ⟨j, Nb, Ib, Rb, Rp, hj, rfl, hB, hbel, hb4⟩ := hrel
    rename World => wo
    by_cases hjk : j < k
    · obtain ⟨b0, o0, ha0, hZ0⟩ : ∃ b o, a0 = some ⟨b, o, none⟩ ∧ ∀ j, j < k → w.cell? ⟨b, o + j, none⟩ = some (.int .u8 (Z0 j)) ∧ 0 ≤ Z0 j ∧ Z0 j ≤ 255 := by
        rcases s0 with h | h
        · omega
        · exact h
      subst ha0
      obtain ⟨c0, z1, z2⟩ := hZ0 j hjk
      have hb0 := lt_of_cell c0
      rw [← hbel.cell (p := ⟨b0, o0 + j, none⟩) hb0] at c0
      have hm5 : Z0 j % 5 = ((Mz Z0 j : Nat) : Int) := by unfold Mz; omega
      have hm4 : Mz Z0 j ≤ 4 := by unfold Mz; omega
      have m36 := fun w => mk_run (n := Mz Z0 j) Yba.underlying36 info51 (by decide) (by omega) w
      have m39 := fun w => mk_run (n := Mz Z0 j) Yba.underlying39 info40 (by decide) (by omega) w
      go_wp2
      clear m36 m39 c0
      go_loopw [19] (fun i wi => ∃ (t : Nat) (rp : Nat → Nat), t ≤ Mz Z0 j ∧ i = .int .i64 t ∧ Inn (w1of wo (Mz Z0 j)) wi (wo.heap.size + 1) (wo.heap.size + 1 + 1) (Mz Z0 j) t rp) (fun i _ => Mz Z0 j - (intOf i).toNat)
      case atStart => exact ⟨0, fun _ => 0, Nat.zero_le _, rfl, inn_start wo (Mz Z0 j) _⟩
      case round =>
        obtain ⟨t, rp, ht, rfl, hin⟩ := hrel
        by_cases htm : t < Mz Z0 j
        · obtain ⟨⟨v1, g1⟩, f1⟩ := hin.rr t htm
          obtain ⟨⟨v2, g2⟩, f2⟩ := hin.ri (t * 2) (by omega)
          obtain ⟨⟨v3, g3⟩, f3⟩ := hin.ri (t * 2 + 1) (by omega)
          have l1 := lt_of_cell g1
          have l2 := lt_of_cell g2
          go_wp2
          go_roundw
          case rel => exact ⟨t + 1, _, by omega, by go_num, hin.step htm (by omega) _ _⟩
          case measure => simp [intOf]; omega
        · have htm' : t = Mz Z0 j := by omega
          subst htm'
          obtain ⟨hwo, n0, n2, n4, nf⟩ := hin.after
          obtain ⟨⟨x0, q0⟩, p0⟩ := (hB.rN.same hwo) j hjk
          obtain ⟨⟨x1, q1⟩, p1⟩ := (hB.rR.same hwo) j hjk
          obtain ⟨⟨x2, q2⟩, p2⟩ := (hB.rW.same hwo) j hjk
          obtain ⟨⟨x3, q3⟩, p3⟩ := (hB.rP.same hwo) (j * 2) (by omega)
          obtain ⟨⟨x4, q4⟩, p4⟩ := (hB.rP.same hwo) (j * 2 + 1) (by omega)
          have hB3 := hB.rP.lt (by omega)
          have e0 : ¬ wo.heap.size = w.heap.size := by omega
          have e1 : ¬ wo.heap.size = w.heap.size + 1 := by omega
          have e2 : ¬ wo.heap.size = w.heap.size + 1 + 1 := by omega
          have e3 : ¬ wo.heap.size = w.heap.size + 1 + 1 + 1 := by omega
          have nf4 := nf 4
          have HRR : Hid (∀ iv, iv = Iz Z0 Z1 k n1 j → Blt (w6of wr wo.heap.size w.heap.size j (Mz Z0 j) iv) w.heap.size k (j + 1) (Mz Z0) (Iz Z0 Z1 k n1) (up Nb j wo.heap.size) (up Ib j (wo.heap.size + 1)) (up Rb j (wo.heap.size + 1 + 1)) (up Rp j rp) ∧ Below w.heap.size w (w6of wr wo.heap.size w.heap.size j (Mz Z0 j) iv) ∧ w.heap.size + 4 ≤ (w6of wr wo.heap.size w.heap.size j (Mz Z0 j) iv).heap.size) :=
            fun iv h => ⟨(hB.round hjk hb4 hin iv h).1, hbel.trans ((hB.round hjk hb4 hin iv h).2.below (B := w.heap.size) (fun x hx => at4_ge hx) (by omega)), Nat.le_trans hb4 (hB.round hjk hb4 hin iv h).2.size⟩
          have HOL : Hid (∀ b o, b < w.heap.size → wr.cell? ⟨b, o, none⟩ = w.cell? ⟨b, o, none⟩) := fun b o hb => (hwo.cell b o (by omega) id).trans (hbel.cell (p := ⟨b, o, none⟩) hb)
          clear nf hwo hin hB n0 n2 s0 hZ0 hbel
          by_cases hj1 : j < n1
          · obtain ⟨b1, o1, ha1, hZ1⟩ : ∃ b o, a1 = some ⟨b, o, none⟩ ∧ ∀ j, j < n1 → w.cell? ⟨b, o + j, none⟩ = some (.int .u8 (Z1 j)) ∧ 0 ≤ Z1 j ∧ Z1 j ≤ 255 := by
              rcases s1 with h | h
              · omega
              · exact h
            subst ha1
            obtain ⟨c1, y1, y2⟩ := hZ1 j hj1
            have hb1 := lt_of_cell c1
            have c1' : wr.cell? ⟨b1, o1 + j, none⟩ = some (.int .u8 (Z1 j)) := by rw [HOL.out b1 _ hb1]; exact c1
            have l1 : ¬ b1 = wo.heap.size := by omega
            have l2 : ¬ wo.heap.size = b1 := by omega
            have l3 : ¬ b1 = w.heap.size := by omega
            have l4 : ¬ w.heap.size = b1 := by omega
            have l5 : ¬ b1 = w.heap.size + 1 := by omega
            have l6 : ¬ w.heap.size + 1 = b1 := by omega
            have hj1' : (j : Int) < (n1 : Int) := by omega
            have hnn : (0 : Int) < (Mz Z0 j : Int) + 1 := by omega
            have q1' := Int.emod_nonneg (Z1 j) (show ((Mz Z0 j : Nat) : Int) + 1 ≠ 0 by omega)
            have q2' := Int.emod_lt_of_pos (Z1 j) hnn
            clear s1 hZ1 c1 HOL
            cases hjb : ((j : Int) == (k : Int) - 1)
            · go_wp2
              go_roundw
              case rel => exact ⟨j + 1, _, _, _, _, by omega, by go_num, HRR.out _ (by unfold Iz; rw [if_pos hj1, if_neg (by simp at hjb; omega)]; simp)⟩
              case measure => simp [intOf]; omega
            · go_wp2
              go_roundw
              case rel => exact ⟨j + 1, _, _, _, _, by omega, by go_num, HRR.out _ (by unfold Iz; rw [if_pos hj1, if_pos (by simp at hjb; omega)])⟩
              case measure => simp [intOf]; omega
          · have hj1' : ¬ (j : Int) < (n1 : Int) := by omega
            clear s1 HOL
            cases hjb : ((j : Int) == (k : Int) - 1)
            · go_wp2
              go_roundw
              case rel => exact ⟨j + 1, _, _, _, _, by omega, by go_num, HRR.out _ (by unfold Iz; rw [if_neg hj1, if_neg (by simp at hjb; omega)]; simp)⟩
              case measure => simp [intOf]; omega
            · go_wp2
              go_roundw
              case rel => exact ⟨j + 1, _, _, _, _, by omega, by go_num, HRR.out _ (by unfold Iz; rw [if_neg hj1, if_pos (by simp at hjb; omega)]; simp)⟩
              case measure => simp [intOf]; omega
    · have hjk' : k = j := by omega
      subst hjk'
      clear hj hjk s0 s1
      have HI : Hid (∀ j, j < k → -1 ≤ Iz Z0 Z1 k n1 j ∧ Iz Z0 Z1 k n1 j ≤ 4 ∧ (j + 1 < k → 0 ≤ Iz Z0 Z1 k n1 j ∧ Iz Z0 Z1 k n1 j ≤ Mz Z0 j) ∧ (j + 1 = k → Iz Z0 Z1 k n1 j < Mz Z0 j)) := fun j _ => by
        have := iz_bounds Z0 Z1 k n1 j; have := mz_le Z0 j; omega
      have HML : Hid (∀ j, j < k → Mz Z0 j ≤ 4) := fun j _ => mz_le Z0 j
      rcases Nat.eq_zero_or_pos k with hk0 | hk0
      · subst hk0
        have hfx := hB.fx (cur0 := -1) (Chg.refl (fun _ => False) wo) (fun _ h => h.elim) rfl (fun h => absurd h (Nat.lt_irrefl _)) none hb4
        have hbw : Below w.heap.size w (wo.alloc (curObj (w.heap.size + 1 + 1 + 1) 0 none)) := hbel.alloc (by omega) _
        have hLk : Lk (wo.alloc (curObj (w.heap.size + 1 + 1 + 1) 0 none)) wo.heap.size 0 0 none ed none := .inl ⟨rfl, .inl rfl⟩
        clear hB hbel
        obtain ⟨wc, hwc⟩ : ∃ wc, wo.alloc (curObj (w.heap.size + 1 + 1 + 1) 0 none) = wc := ⟨_, rfl⟩
        rw [hwc] at hfx hbw hLk
        have hwc2 : wo.alloc (Obj.cells #[Value.pointer none, Value.int IntKind.u64 0, Value.int IntKind.u64 0, Value.slice (some ⟨w.heap.size + 1 + 1 + 1, 0, none⟩) 0 0, Value.pointer none] 57) = wc := hwc
        clear hwc
        have HFX := Hid.intro hfx
        clear hfx
        cases hl
        all_goals
          go_wp2
          go_loop [25, 26, 27, 28] (fun dp wt cr pp => dp = .int .i64 0 ∧ wt = .pointer none ∧ cr = .int .i64 (-1) ∧ pp = .bool false) (fun _ _ _ _ => 0)
          case atStart => exact ⟨rfl, rfl, rfl, rfl⟩
          case round =>
            obtain ⟨rfl, rfl, rfl, rfl⟩ := hrel
            clear hwc2
            go_wp2_with fail
            refine (climb_any wo.heap.size (w.heap.size + 1 + 1 + 1) 0 (Iz Z0 Z1 0 n1) (Mz Z0) Nb Ib Rp none ed (-1) none _ hk HI.out HML.out (fun h => absurd h (Nat.lt_irrefl _)) (fun nl h => by cases h) HFX.out hLk (by omega)).mono ?_
            rintro x w3 ⟨D, C, lv', hfin, hDk, hDC, rfl, hF3, hL3, hch3⟩
            have hD0 : D = 0 := by omega
            subst hD0
            have hp3 := hF3.p
            have hbw3 : Below w.heap.size w w3 := hbw.trans (hch3.below (B := w.heap.size) (fun x hx => may_ge hx (by omega) (fun nl h => by cases h)) (by have := hbw.size; omega))
            rcases hL3 with ⟨rfl, _⟩ | ⟨nl, hx, _⟩
            case inr => cases hx
            have hl3 := hF3.l
            clear HFX hLk hbw hch3 HI HML hF3 hDC hfin
            go_wp2
            go_loop [30, 31] (fun ok i => ok = .bool true ∧ i = .int .i64 0) (fun _ _ => 0)
            case atStart => exact ⟨rfl, rfl⟩
            case round =>
              obtain ⟨rfl, rfl⟩ := hrel
              go_wp2
              go_ret
              exact ⟨rfl, hbw3⟩
      · have i0 : (0 : Int) < (k : Int) := by omega
        cases hl with
        | false =>
          have hmf := hB.mf ((Chg.refl (fun _ => False) wo).alloc (curObj (w.heap.size + 1 + 1 + 1) k none)) (fun _ h => h.elim)
          have hfx := hB.fx (cur0 := Iz Z0 Z1 k n1 (k - 1)) (Chg.refl (fun _ => False) wo) (fun _ h => h.elim) rfl (fun _ => rfl) none hb4
          have hbw : Below w.heap.size w (wo.alloc (curObj (w.heap.size + 1 + 1 + 1) k none)) := hbel.alloc (by omega) _
          have hLk : Lk (wo.alloc (curObj (w.heap.size + 1 + 1 + 1) k none)) wo.heap.size k k none ed none := .inl ⟨rfl, .inl rfl⟩
          have hbc : wo.heap.size < (wo.alloc (curObj (w.heap.size + 1 + 1 + 1) k none)).heap.size := by simp
          clear hB hbel
          have hwi := hmf.wi (k - 1) (by omega)
          obtain ⟨wc, hwc⟩ : ∃ wc, wo.alloc (curObj (w.heap.size + 1 + 1 + 1) k (none)) = wc := ⟨_, rfl⟩
          rw [hwc] at hfx hmf hbw hLk hwi hbc
          have hwc2 : wo.alloc (Obj.cells #[Value.pointer none, Value.int IntKind.u64 0, Value.int IntKind.u64 0, Value.slice (some ⟨w.heap.size + 1 + 1 + 1, 0, none⟩) k k, Value.pointer (none)] 57) = wc := hwc
          clear hwc
          have HFX := Hid.intro hfx
          have HMF := Hid.intro hmf
          clear hfx hmf
          go_wp2
          clear hwc2
          go_loop [25, 26, 27, 28] (fun dp wt cr pp => ∃ (d : Nat) (c : Int), d ≤ k ∧ dp = .int .i64 d ∧ wt = .pointer none ∧ cr = .int .i64 c ∧ pp = .bool (decide (d < k)) ∧ -1 ≤ c ∧ c ≤ 4 ∧ Hid (fin (Iz Z0 Z1 k n1) d c = fin (Iz Z0 Z1 k n1) k (Iz Z0 Z1 k n1 (k - 1)) ∧ (0 < d → c < Mz Z0 (d - 1)))) (fun dp _ _ _ => (intOf dp).toNat)
          case atStart =>
            have h1 := HI.out (k - 1) (by omega)
            exact ⟨k, _, Nat.le_refl _, rfl, rfl, rfl, by simp, h1.1, h1.2.1, rfl, fun _ => h1.2.2.2 (by omega)⟩
          case round =>
            obtain ⟨d, c, hd, rfl, rfl, rfl, rfl, hc1, hc2, HD⟩ := hrel
            clear hwi
            rcases Nat.eq_zero_or_pos d with hd0 | hd0
            · subst hd0
              have HFIN : Hid (fin (Iz Z0 Z1 k n1) k (Iz Z0 Z1 k n1 (k - 1)) = (0, c)) := HD.out.1.symm
              have dk1 : decide (0 < k) = true := by simpa using hk0
              clear HD
              go_wp2_with fail
              refine (climb_any wo.heap.size (w.heap.size + 1 + 1 + 1) k (Iz Z0 Z1 k n1) (Mz Z0) Nb Ib Rp (none) ed (Iz Z0 Z1 k n1 (k - 1)) (none) _ hk HI.out HML.out (fun _ => rfl) (fun nl h => by cases h) HFX.out hLk ?_).mono ?_
              · have := HI.out (k - 1) (by omega); exact ⟨this.1, this.2.1⟩
              rintro x w3 ⟨D, C, lv', hfin, hDk, hDC, rfl, hF3, hL3, hch3⟩
              rw [HFIN.out] at hfin
              simp only [Prod.mk.injEq] at hfin
              obtain ⟨rfl, rfl⟩ := hfin
              have hp3 := hF3.p
              have HF3 := Hid.intro hF3
              have hMF3 : Hid (∀ x, x < k → w3.cell? ⟨w.heap.size, x, none⟩ = some (.pointer (some ⟨Nb x, 0, none⟩)) ∧ w3.cell? ⟨w.heap.size + 1 + 1, x, none⟩ = some (.int .i64 (Iz Z0 Z1 k n1 x))) := fun x hx =>
                mf_kept HMF.out hch3 (by omega) (fun nl h => by cases h) x hx
              have hbw3 : Below w.heap.size w w3 := hbw.trans (hch3.below (B := w.heap.size) (fun x hx => may_ge hx (by omega) (fun nl h => by cases h)) (by have := hbw.size; omega))
              have hE := eq40
              have hbc3 := lt_of_cell hp3
              clear HFX HMF hLk hbw hch3 HFIN HI HML hF3 hDC 
              rcases hL3 with ⟨rfl, _⟩ | ⟨nl, hx, _⟩
              case inr => cases hx
              go_wp2
              go_loop [30, 31] (fun ok i => ok = .bool true ∧ i = .int .i64 0) (fun _ _ => 0)
              case atStart => exact ⟨rfl, rfl⟩
              case round =>
                obtain ⟨rfl, rfl⟩ := hrel
                have hl3 := HF3.out.l
                go_wp2
                go_ret
                exact ⟨rfl, hbw3⟩

            · have di : (0 : Int) < (d : Int) := by omega
              have dk : (d : Int) ≤ (k : Int) := by omega
              by_cases hc : 0 ≤ c
              · -- the record is found
                obtain ⟨t, rfl⟩ : ∃ t : Nat, c = (t : Int) := ⟨c.toNat, by omega⟩
                have hcm := HD.out.2 hd0
                have hrc := HMF.out.rc (d - 1) (by omega)
                have hrs := HMF.out.rs (d - 1) t (by omega) (by omega)
                have dt : (t : Int) < (Mz Z0 (d - 1) : Int) := by omega
                have HFIN : Hid (fin (Iz Z0 Z1 k n1) k (Iz Z0 Z1 k n1 (k - 1)) = (d, (t : Int))) := by
                  have h1 := HD.out.1
                  obtain ⟨e, rfl⟩ : ∃ e, d = e + 1 := ⟨d - 1, by omega⟩
                  rw [fin_pos hc] at h1
                  exact h1.symm
                clear HD hcm
                go_wp2_with fail
                refine (climb_any wo.heap.size (w.heap.size + 1 + 1 + 1) k (Iz Z0 Z1 k n1) (Mz Z0) Nb Ib Rp (none) ed (Iz Z0 Z1 k n1 (k - 1)) (none) _ hk HI.out HML.out (fun _ => rfl) (fun nl h => by cases h) HFX.out hLk ?_).mono ?_
                · have := HI.out (k - 1) (by omega); exact ⟨this.1, this.2.1⟩
                rintro x w3 ⟨D, C, lv', hfin, hDk, hDC, rfl, hF3, hL3, hch3⟩
                rw [HFIN.out] at hfin
                simp only [Prod.mk.injEq] at hfin
                obtain ⟨rfl, rfl⟩ := hfin
                have hp3 := hF3.p
                have HF3 := Hid.intro hF3
                have hMF3 : Hid (∀ x, x < k → w3.cell? ⟨w.heap.size, x, none⟩ = some (.pointer (some ⟨Nb x, 0, none⟩)) ∧ w3.cell? ⟨w.heap.size + 1 + 1, x, none⟩ = some (.int .i64 (Iz Z0 Z1 k n1 x))) := fun x hx =>
                  mf_kept HMF.out hch3 (by omega) (fun nl h => by cases h) x hx
                have hbw3 : Below w.heap.size w w3 := hbw.trans (hch3.below (B := w.heap.size) (fun x hx => may_ge hx (by omega) (fun nl h => by cases h)) (by have := hbw.size; omega))
                have hE := eq40
                have hbc3 := lt_of_cell hp3
                clear HFX HMF hLk hbw hch3 HFIN HI HML hF3 hDC hrc hrs
                rcases hL3 with ⟨rfl, _⟩ | ⟨nl, hx, _⟩
                case inr => cases hx
                go_wp2
                go_loopw [30, 31] (fun ok i wr => ok = .bool true ∧ ∃ y : Nat, y ≤ d ∧ i = .int .i64 y ∧ Chg (fun _ => False) w3 wr) (fun _ i _ => d - (intOf i).toNat)
                case atStart => exact ⟨rfl, 0, Nat.zero_le _, rfl, Chg.refl _ _⟩
                case round =>
                  obtain ⟨rfl, y, hy, rfl, hchr⟩ := hrel
                  have hFr := HF3.out.same hchr
                  have hpr := hFr.p
                  by_cases hyd : y < d
                  · have hpn := hFr.pn y (by omega)
                    have hpi := hFr.pi y hyd
                    obtain ⟨hnd3, hwi3⟩ := hMF3.out y (by omega)
                    have hnd : wr.cell? ⟨w.heap.size, y, none⟩ = some (.pointer (some ⟨Nb y, 0, none⟩)) := by rw [hchr.cell _ _ (lt_of_cell hnd3) id]; exact hnd3
                    have hwi : wr.cell? ⟨w.heap.size + 1 + 1, y, none⟩ = some (.int .i64 (Iz Z0 Z1 k n1 y)) := by rw [hchr.cell _ _ (lt_of_cell hwi3) id]; exact hwi3
                    have hN := ne28
                    have y1 : (y : Int) < (d : Int) := by omega
                    have y2 : (y : Int) < (k : Int) := by omega
                    clear hFr hnd3 hwi3 hp3 hE hbw3
                    by_cases hye : y + 1 = d
                    · rw [if_pos hye] at hpi
                      have yb : ((y : Int) == (d : Int) - 1) = true := by simp; omega
                      clear hye
                      go_wp2_with fail
                      go_quiet (fail)
                      have hchq := hchr.drewN nq
                      go_wp2
                      go_roundw
                      case rel => exact ⟨rfl, y + 1, by omega, by go_num, hchq⟩
                      case measure => simp [intOf]; omega
                    · rw [if_neg hye] at hpi
                      have yb : ((y : Int) == (d : Int) - 1) = false := by simp; omega
                      clear hye
                      go_wp2_with fail
                      go_quiet (fail)
                      have hchq := hchr.drewN nq
                      go_wp2
                      go_roundw
                      case rel => exact ⟨rfl, y + 1, by omega, by go_num, hchq⟩
                      case measure => simp [intOf]; omega
                  · have hyd' : y = d := by omega
                    subst hyd'
                    have hbwr : Below w.heap.size w wr := hbw3.trans (hchr.below (B := w.heap.size) (fun x hx => hx.elim) (by have := hbw3.size; omega))
                    have hl3 := hFr.l
                    clear hp3 hbw3
                    go_wp2
                    go_ret
                    exact ⟨rfl, hbwr⟩

              · -- one step up
                have hcn : c < 0 := by omega
                have h1 := HD.out.1
                have HN : Hid (fin (Iz Z0 Z1 k n1) (d - 1) (if 0 < d - 1 then Iz Z0 Z1 k n1 (d - 1 - 1) - 1 else c) = fin (Iz Z0 Z1 k n1) k (Iz Z0 Z1 k n1 (k - 1))) := by
                  obtain ⟨e, rfl⟩ : ∃ e, d = e + 1 := ⟨d - 1, by omega⟩
                  rw [fin_neg hc] at h1
                  exact h1
                clear HD h1
                by_cases hdk : d = k
                · subst hdk
                  have dkk : ((d : Int) == (d : Int)) = true := by simp
                  by_cases hd1 : d = 1
                  · subst hd1
                    go_wp2
                    go_round
                    case rel => exact ⟨0, c, by omega, rfl, rfl, rfl, rfl, hc1, hc2, HN.out, fun h => absurd h (Nat.lt_irrefl _)⟩
                    case measure => simp [intOf]
                  · have hd2 : (0 : Int) < (d : Int) - 1 := by omega
                    have hwi := HMF.out.wi (d - 1 - 1) (by omega)
                    have hIb := HI.out (d - 1 - 1) (by omega)
                    have hIb1 := hIb.1
                    have hIb2 := hIb.2.1
                    have hIb3 := hIb.2.2.1 (by omega)
                    have HI3 := Hid.intro hIb3
                    clear hIb hIb3
                    go_wp2
                    go_round
                    case rel => exact ⟨d - 1, _, by omega, by go_num, rfl, rfl, by simp; omega, by have := HI3.out; omega, by omega, by have := HN.out; rw [if_pos (by omega)] at this; exact this, fun _ => by have := HI3.out; omega⟩
                    case measure => simp [intOf]; omega
                · have dkk : ((d : Int) == (k : Int)) = false := by simp; omega
                  have dkd : decide (d < k) = true := by simp; omega
                  by_cases hd1 : d = 1
                  · subst hd1
                    go_wp2
                    go_round
                    case rel => exact ⟨0, c, by omega, rfl, rfl, rfl, by simp; omega, hc1, hc2, HN.out, fun h => absurd h (Nat.lt_irrefl _)⟩
                    case measure => simp [intOf]
                  · have hd2 : (0 : Int) < (d : Int) - 1 := by omega
                    have hwi := HMF.out.wi (d - 1 - 1) (by omega)
                    have hIb := HI.out (d - 1 - 1) (by omega)
                    have hIb1 := hIb.1
                    have hIb2 := hIb.2.1
                    have hIb3 := hIb.2.2.1 (by omega)
                    have HI3 := Hid.intro hIb3
                    clear hIb hIb3
                    go_wp2
                    go_round
                    case rel => exact ⟨d - 1, _, by omega, by go_num, rfl, rfl, by simp; omega, by have := HI3.out; omega, by omega, by have := HN.out; rw [if_pos (by omega)] at this; exact this, fun _ => by have := HI3.out; omega⟩
                    case measure => simp [intOf]; omega
        | true =>
          have hnd := hB.nd (k - 1) (by omega)
          obtain ⟨c0, c2, f0, f2⟩ := hB.n0 (k - 1) (by omega)
          have hni := (hB.hi (k - 1) (by omega)).1
          have hnlt := lt_of_cell c0
          go_wp2_with fail
          refine (lock_free (Nb (k - 1)) 0 _ ?_ ?_).mono ?_
          · rw [World.cell?_setCell_other _ _ _ _ (ne_off (by omega))]; exact c0
          · rw [World.frozen?_setCell]; exact f0
          rintro x w2 ⟨rfl, hw2⟩
          have hch : Chg (fun a => a = ⟨Nb (k - 1), 0, none⟩ ∨ a = ⟨Nb (k - 1), 2, none⟩) wo w2 := by
            rw [hw2]; exact ((Chg.refl _ _).setCell (.inr rfl) _).setCell (.inl rfl) _
          have hs2 : w2.heap.size = wo.heap.size := by rw [hw2]; simp [World.setCell]
          have hb42 : w.heap.size + 4 ≤ w2.heap.size := by omega
          have hnl2 : Nb (k - 1) < w2.heap.size := by omega
          have g0 : w2.cell? ⟨Nb (k - 1), 0, none⟩ = some (.int .i32 1) := by
            rw [hw2]; refine World.cell?_setCell_same _ _ _ (u := .int .i32 0) ?_
            rw [World.cell?_setCell_other _ _ _ _ (ne_off (by omega))]; exact c0
          have g2 : w2.cell? ⟨Nb (k - 1), 2, none⟩ = some (.int .u64 ed) := by
            rw [hw2, World.cell?_setCell_other _ _ _ _ (ne_off (by omega))]; exact World.cell?_setCell_same _ _ _ c2
          have g0f : w2.frozen? ⟨Nb (k - 1), 0, none⟩ = false := by rw [hch.fro _ _ hnlt]; exact f0
          have hmf := hB.mf (hch.alloc (curObj (w.heap.size + 1 + 1 + 1) k (some ⟨Nb (k - 1), 0, none⟩))) (fun x hx => ⟨k - 1, by omega, by rcases hx with rfl | rfl <;> rfl⟩)
          have hfx := hB.fx (cur0 := Iz Z0 Z1 k n1 (k - 1)) hch (fun x hx => by rcases hx with rfl | rfl; exact ⟨hni, .inl rfl⟩; exact ⟨hni, .inr rfl⟩) hs2 (fun _ => rfl) (some ⟨Nb (k - 1), 0, none⟩) hb4
          have hbw : Below w.heap.size w (w2.alloc (curObj (w.heap.size + 1 + 1 + 1) k (some ⟨Nb (k - 1), 0, none⟩))) :=
            (hbel.trans (hch.below (B := w.heap.size) (fun x hx => by rcases hx with rfl | rfl <;> (show w.heap.size ≤ Nb (k - 1); omega)) (by omega))).alloc (by omega) _
          have hLk : Lk (w2.alloc (curObj (w.heap.size + 1 + 1 + 1) k (some ⟨Nb (k - 1), 0, none⟩))) w2.heap.size k k (some (Nb (k - 1))) ed (some ⟨Nb (k - 1), 0, none⟩) :=
            .inr ⟨Nb (k - 1), rfl, rfl, rfl, ⟨by rw [World.cell?_alloc_past _ _ _ hnl2]; exact g0, by rw [World.cell?_alloc_past _ _ _ hnl2]; exact g2, ⟨0, World.cell?_alloc_at _ _ _ _ rfl⟩, by rw [World.frozen?_alloc_past _ _ _ hnl2]; exact g0f, World.frozen?_alloc_at _ _ _ _ rfl, World.frozen?_alloc_at _ _ _ _ rfl⟩⟩
          have hbc : w2.heap.size < (w2.alloc (curObj (w.heap.size + 1 + 1 + 1) k (some ⟨Nb (k - 1), 0, none⟩))).heap.size := by simp
          have HNL : Hid (∀ nl, some (Nb (k - 1)) = some nl → 0 < k ∧ nl = Nb (k - 1)) := fun nl h => ⟨hk0, by cases h; rfl⟩
          clear hB hbel hw2 hch hs2 g0 g2 g0f hnd c0 c2 f0 f2 hnlt hb4
          have hwi := hmf.wi (k - 1) (by omega)
          obtain ⟨wc, hwc⟩ : ∃ wc, w2.alloc (curObj (w.heap.size + 1 + 1 + 1) k (some ⟨Nb (k - 1), 0, none⟩)) = wc := ⟨_, rfl⟩
          rw [hwc] at hfx hmf hbw hLk hwi hbc
          have hwc2 : w2.alloc (Obj.cells #[Value.pointer none, Value.int IntKind.u64 0, Value.int IntKind.u64 0, Value.slice (some ⟨w.heap.size + 1 + 1 + 1, 0, none⟩) k k, Value.pointer (some ⟨Nb (k - 1), 0, none⟩)] 57) = wc := hwc
          clear hwc
          have HFX := Hid.intro hfx
          have HMF := Hid.intro hmf
          clear hfx hmf
          go_wp2
          clear hwc2
          go_loop [25, 26, 27, 28] (fun dp wt cr pp => ∃ (d : Nat) (c : Int), d ≤ k ∧ dp = .int .i64 d ∧ wt = .pointer none ∧ cr = .int .i64 c ∧ pp = .bool (decide (d < k)) ∧ -1 ≤ c ∧ c ≤ 4 ∧ Hid (fin (Iz Z0 Z1 k n1) d c = fin (Iz Z0 Z1 k n1) k (Iz Z0 Z1 k n1 (k - 1)) ∧ (0 < d → c < Mz Z0 (d - 1)))) (fun dp _ _ _ => (intOf dp).toNat)
          case atStart =>
            have h1 := HI.out (k - 1) (by omega)
            exact ⟨k, _, Nat.le_refl _, rfl, rfl, rfl, by simp, h1.1, h1.2.1, rfl, fun _ => h1.2.2.2 (by omega)⟩
          case round =>
            obtain ⟨d, c, hd, rfl, rfl, rfl, rfl, hc1, hc2, HD⟩ := hrel
            clear hwi
            rcases Nat.eq_zero_or_pos d with hd0 | hd0
            · subst hd0
              have HFIN : Hid (fin (Iz Z0 Z1 k n1) k (Iz Z0 Z1 k n1 (k - 1)) = (0, c)) := HD.out.1.symm
              have dk1 : decide (0 < k) = true := by simpa using hk0
              clear HD
              go_wp2_with fail
              refine (climb_any w2.heap.size (w.heap.size + 1 + 1 + 1) k (Iz Z0 Z1 k n1) (Mz Z0) Nb Ib Rp (some (Nb (k - 1))) ed (Iz Z0 Z1 k n1 (k - 1)) (some ⟨Nb (k - 1), 0, none⟩) _ hk HI.out HML.out (fun _ => rfl) HNL.out HFX.out hLk ?_).mono ?_
              · have := HI.out (k - 1) (by omega); exact ⟨this.1, this.2.1⟩
              rintro x w3 ⟨D, C, lv', hfin, hDk, hDC, rfl, hF3, hL3, hch3⟩
              rw [HFIN.out] at hfin
              simp only [Prod.mk.injEq] at hfin
              obtain ⟨rfl, rfl⟩ := hfin
              have hp3 := hF3.p
              have HF3 := Hid.intro hF3
              have hMF3 : Hid (∀ x, x < k → w3.cell? ⟨w.heap.size, x, none⟩ = some (.pointer (some ⟨Nb x, 0, none⟩)) ∧ w3.cell? ⟨w.heap.size + 1 + 1, x, none⟩ = some (.int .i64 (Iz Z0 Z1 k n1 x))) := fun x hx =>
                mf_kept HMF.out hch3 (by omega) (fun nl h => by cases h; exact hni) x hx
              have hbw3 : Below w.heap.size w w3 := hbw.trans (hch3.below (B := w.heap.size) (fun x hx => may_ge hx (by omega) (fun nl h => by cases h; omega)) (by have := hbw.size; omega))
              have hE := eq40
              have hbc3 := lt_of_cell hp3
              clear HFX HMF hLk hbw hch3 HFIN HI HML hF3 hDC 
              go_wp2
              go_loop [30, 31] (fun ok i => ok = .bool true ∧ i = .int .i64 0) (fun _ _ => 0)
              case atStart => exact ⟨rfl, rfl⟩
              case round =>
                obtain ⟨rfl, rfl⟩ := hrel
                rcases hL3 with ⟨rfl, hz | ⟨_, nl, hnl, hfr⟩⟩ | ⟨nl, _, _, hz, _⟩
                · cases hz
                · cases hnl
                  have hl4 := HF3.out.l
                  clear HF3 hMF3
                  have hs0 := hfr.s
                  have hc2 := hfr.c
                  have hfs := hfr.fs
                  have hee : (ed == ed) = true := by simp
                  go_wp2_with fail
                  refine (try_free (Nb (k - 1)) 0 _ hs0 hfs).mono ?_
                  rintro x w8 ⟨rfl, hw8⟩
                  have a0 : w8.cell? ⟨Nb (k - 1), 0, none⟩ = some (.int .i32 1) := by rw [hw8]; exact World.cell?_setCell_same _ _ _ hs0
                  have a1 : w8.frozen? ⟨Nb (k - 1), 0, none⟩ = false := by rw [hw8, World.frozen?_setCell]; exact hfs
                  have a2 : w8.cell? ⟨w2.heap.size, 4, none⟩ = some (.pointer none) := by rw [hw8, World.cell?_setCell_other _ _ _ _ (ne_blk (by omega))]; exact hl4
                  have a3 : w8.cell? ⟨w2.heap.size, 2, none⟩ = some (.int .u64 ed) := by rw [hw8, World.cell?_setCell_other _ _ _ _ (ne_blk (by omega))]; exact hc2
                  have a4 : Below w.heap.size w w8 := by rw [hw8]; exact hbw3.setCell (by show w.heap.size ≤ Nb (k - 1); omega) _
                  clear hw8 hs0 hc2 hfs hl4 hfr
                  go_wp2_with fail
                  refine (unlock_held (Nb (k - 1)) 0 _ a0 a1).mono ?_
                  rintro x w9 ⟨rfl, hw9⟩
                  have b2 : w9.cell? ⟨w2.heap.size, 4, none⟩ = some (.pointer none) := by rw [hw9, World.cell?_setCell_other _ _ _ _ (ne_blk (by omega))]; exact a2
                  have b3 : w9.cell? ⟨w2.heap.size, 2, none⟩ = some (.int .u64 ed) := by rw [hw9, World.cell?_setCell_other _ _ _ _ (ne_blk (by omega))]; exact a3
                  have b4 : Below w.heap.size w w9 := by rw [hw9]; exact a4.setCell (by show w.heap.size ≤ Nb (k - 1); omega) _
                  clear hw9 a0 a1 a2 a3 a4
                  go_wp2
                  go_ret
                  exact ⟨rfl, b4⟩
                · omega

            · have di : (0 : Int) < (d : Int) := by omega
              have dk : (d : Int) ≤ (k : Int) := by omega
              by_cases hc : 0 ≤ c
              · -- the record is found
                obtain ⟨t, rfl⟩ : ∃ t : Nat, c = (t : Int) := ⟨c.toNat, by omega⟩
                have hcm := HD.out.2 hd0
                have hrc := HMF.out.rc (d - 1) (by omega)
                have hrs := HMF.out.rs (d - 1) t (by omega) (by omega)
                have dt : (t : Int) < (Mz Z0 (d - 1) : Int) := by omega
                have HFIN : Hid (fin (Iz Z0 Z1 k n1) k (Iz Z0 Z1 k n1 (k - 1)) = (d, (t : Int))) := by
                  have h1 := HD.out.1
                  obtain ⟨e, rfl⟩ : ∃ e, d = e + 1 := ⟨d - 1, by omega⟩
                  rw [fin_pos hc] at h1
                  exact h1.symm
                clear HD hcm
                go_wp2_with fail
                refine (climb_any w2.heap.size (w.heap.size + 1 + 1 + 1) k (Iz Z0 Z1 k n1) (Mz Z0) Nb Ib Rp (some (Nb (k - 1))) ed (Iz Z0 Z1 k n1 (k - 1)) (some ⟨Nb (k - 1), 0, none⟩) _ hk HI.out HML.out (fun _ => rfl) HNL.out HFX.out hLk ?_).mono ?_
                · have := HI.out (k - 1) (by omega); exact ⟨this.1, this.2.1⟩
                rintro x w3 ⟨D, C, lv', hfin, hDk, hDC, rfl, hF3, hL3, hch3⟩
                rw [HFIN.out] at hfin
                simp only [Prod.mk.injEq] at hfin
                obtain ⟨rfl, rfl⟩ := hfin
                have hp3 := hF3.p
                have HF3 := Hid.intro hF3
                have hMF3 : Hid (∀ x, x < k → w3.cell? ⟨w.heap.size, x, none⟩ = some (.pointer (some ⟨Nb x, 0, none⟩)) ∧ w3.cell? ⟨w.heap.size + 1 + 1, x, none⟩ = some (.int .i64 (Iz Z0 Z1 k n1 x))) := fun x hx =>
                  mf_kept HMF.out hch3 (by omega) (fun nl h => by cases h; exact hni) x hx
                have hbw3 : Below w.heap.size w w3 := hbw.trans (hch3.below (B := w.heap.size) (fun x hx => may_ge hx (by omega) (fun nl h => by cases h; omega)) (by have := hbw.size; omega))
                have hE := eq40
                have hbc3 := lt_of_cell hp3
                clear HFX HMF hLk hbw hch3 HFIN HI HML hF3 hDC hrc hrs
                have HL3 := Hid.intro hL3
                clear hL3
                go_wp2
                go_loopw [30, 31] (fun ok i wr => ok = .bool true ∧ ∃ y : Nat, y ≤ d ∧ i = .int .i64 y ∧ Chg (fun _ => False) w3 wr) (fun _ i _ => d - (intOf i).toNat)
                case atStart => exact ⟨rfl, 0, Nat.zero_le _, rfl, Chg.refl _ _⟩
                case round =>
                  obtain ⟨rfl, y, hy, rfl, hchr⟩ := hrel
                  have hFr := HF3.out.same hchr
                  have hpr := hFr.p
                  by_cases hyd : y < d
                  · have hpn := hFr.pn y (by omega)
                    have hpi := hFr.pi y hyd
                    obtain ⟨hnd3, hwi3⟩ := hMF3.out y (by omega)
                    have hnd : wr.cell? ⟨w.heap.size, y, none⟩ = some (.pointer (some ⟨Nb y, 0, none⟩)) := by rw [hchr.cell _ _ (lt_of_cell hnd3) id]; exact hnd3
                    have hwi : wr.cell? ⟨w.heap.size + 1 + 1, y, none⟩ = some (.int .i64 (Iz Z0 Z1 k n1 y)) := by rw [hchr.cell _ _ (lt_of_cell hwi3) id]; exact hwi3
                    have hN := ne28
                    have y1 : (y : Int) < (d : Int) := by omega
                    have y2 : (y : Int) < (k : Int) := by omega
                    clear hFr hnd3 hwi3 hp3 hE hbw3
                    by_cases hye : y + 1 = d
                    · rw [if_pos hye] at hpi
                      have yb : ((y : Int) == (d : Int) - 1) = true := by simp; omega
                      clear hye
                      go_wp2_with fail
                      go_quiet (fail)
                      have hchq := hchr.drewN nq
                      go_wp2
                      go_roundw
                      case rel => exact ⟨rfl, y + 1, by omega, by go_num, hchq⟩
                      case measure => simp [intOf]; omega
                    · rw [if_neg hye] at hpi
                      have yb : ((y : Int) == (d : Int) - 1) = false := by simp; omega
                      clear hye
                      go_wp2_with fail
                      go_quiet (fail)
                      have hchq := hchr.drewN nq
                      go_wp2
                      go_roundw
                      case rel => exact ⟨rfl, y + 1, by omega, by go_num, hchq⟩
                      case measure => simp [intOf]; omega
                  · have hyd' : y = d := by omega
                    subst hyd'
                    have hbwr : Below w.heap.size w wr := hbw3.trans (hchr.below (B := w.heap.size) (fun x hx => hx.elim) (by have := hbw3.size; omega))
                    have hLr := Lk.same HL3.out hchr
                    have hl4 := hFr.l
                    clear HL3 HF3 hMF3 hchr hFr hp3 hbw3
                    rcases hLr with ⟨rfl, hz | ⟨hdk, nl, hnl, hfr⟩⟩ | ⟨nl, hnl, rfl, hdk, hheld⟩
                    · cases hz
                    · cases hnl
                      have hdd : decide (y < k) = true := by simpa using hdk
                      have hs0 := hfr.s
                      have hc2 := hfr.c
                      have hfs := hfr.fs
                      have hee : (ed == ed) = true := by simp
                      go_wp2_with fail
                      refine (try_free (Nb (k - 1)) 0 _ hs0 hfs).mono ?_
                      rintro x w8 ⟨rfl, hw8⟩
                      have a0 : w8.cell? ⟨Nb (k - 1), 0, none⟩ = some (.int .i32 1) := by rw [hw8]; exact World.cell?_setCell_same _ _ _ hs0
                      have a1 : w8.frozen? ⟨Nb (k - 1), 0, none⟩ = false := by rw [hw8, World.frozen?_setCell]; exact hfs
                      have a2 : w8.cell? ⟨w2.heap.size, 4, none⟩ = some (.pointer none) := by rw [hw8, World.cell?_setCell_other _ _ _ _ (ne_blk (by omega))]; exact hl4
                      have a3 : w8.cell? ⟨w2.heap.size, 2, none⟩ = some (.int .u64 ed) := by rw [hw8, World.cell?_setCell_other _ _ _ _ (ne_blk (by omega))]; exact hc2
                      have a4 : Below w.heap.size w w8 := by rw [hw8]; exact hbwr.setCell (by show w.heap.size ≤ Nb (k - 1); omega) _
                      clear hw8 hs0 hc2 hfs hl4 hfr
                      go_wp2_with fail
                      refine (unlock_held (Nb (k - 1)) 0 _ a0 a1).mono ?_
                      rintro x w9 ⟨rfl, hw9⟩
                      have b2 : w9.cell? ⟨w2.heap.size, 4, none⟩ = some (.pointer none) := by rw [hw9, World.cell?_setCell_other _ _ _ _ (ne_blk (by omega))]; exact a2
                      have b3 : w9.cell? ⟨w2.heap.size, 2, none⟩ = some (.int .u64 ed) := by rw [hw9, World.cell?_setCell_other _ _ _ _ (ne_blk (by omega))]; exact a3
                      have b4 : Below w.heap.size w w9 := by rw [hw9]; exact a4.setCell (by show w.heap.size ≤ Nb (k - 1); omega) _
                      clear hw9 a0 a1 a2 a3 a4
                      go_wp2
                      go_ret
                      exact ⟨rfl, b4⟩
                    · cases hnl
                      subst hdk
                      have hs0 := hheld.s
                      have hfs := hheld.fs
                      have hE := eq28
                      go_wp2_with fail
                      refine (try_held (Nb (y - 1)) 0 _ hs0).mono ?_
                      rintro x w8 ⟨rfl, rfl⟩
                      go_wp2_with fail
                      refine (unlock_held (Nb (y - 1)) 0 _ hs0 hfs).mono ?_
                      rintro x w9 ⟨rfl, hw9⟩
                      have b2 : w9.cell? ⟨w2.heap.size, 4, none⟩ = some (.pointer (some ⟨Nb (y - 1), 0, none⟩)) := by rw [hw9, World.cell?_setCell_other _ _ _ _ (ne_blk (by omega))]; exact hl4
                      have b4 : Below w.heap.size w w9 := by rw [hw9]; exact hbwr.setCell (by show w.heap.size ≤ Nb (y - 1); omega) _
                      clear hw9 hs0 hfs hl4 hheld
                      go_wp2
                      go_ret
                      exact ⟨rfl, b4⟩

              · -- one step up
                have hcn : c < 0 := by omega
                have h1 := HD.out.1
                have HN : Hid (fin (Iz Z0 Z1 k n1) (d - 1) (if 0 < d - 1 then Iz Z0 Z1 k n1 (d - 1 - 1) - 1 else c) = fin (Iz Z0 Z1 k n1) k (Iz Z0 Z1 k n1 (k - 1))) := by
                  obtain ⟨e, rfl⟩ : ∃ e, d = e + 1 := ⟨d - 1, by omega⟩
                  rw [fin_neg hc] at h1
                  exact h1
                clear HD h1
                by_cases hdk : d = k
                · subst hdk
                  have dkk : ((d : Int) == (d : Int)) = true := by simp
                  by_cases hd1 : d = 1
                  · subst hd1
                    go_wp2
                    go_round
                    case rel => exact ⟨0, c, by omega, rfl, rfl, rfl, rfl, hc1, hc2, HN.out, fun h => absurd h (Nat.lt_irrefl _)⟩
                    case measure => simp [intOf]
                  · have hd2 : (0 : Int) < (d : Int) - 1 := by omega
                    have hwi := HMF.out.wi (d - 1 - 1) (by omega)
                    have hIb := HI.out (d - 1 - 1) (by omega)
                    have hIb1 := hIb.1
                    have hIb2 := hIb.2.1
                    have hIb3 := hIb.2.2.1 (by omega)
                    have HI3 := Hid.intro hIb3
                    clear hIb hIb3
                    go_wp2
                    go_round
                    case rel => exact ⟨d - 1, _, by omega, by go_num, rfl, rfl, by simp; omega, by have := HI3.out; omega, by omega, by have := HN.out; rw [if_pos (by omega)] at this; exact this, fun _ => by have := HI3.out; omega⟩
                    case measure => simp [intOf]; omega
                · have dkk : ((d : Int) == (k : Int)) = false := by simp; omega
                  have dkd : decide (d < k) = true := by simp; omega
                  by_cases hd1 : d = 1
                  · subst hd1
                    go_wp2
                    go_round
                    case rel => exact ⟨0, c, by omega, rfl, rfl, rfl, by simp; omega, hc1, hc2, HN.out, fun h => absurd h (Nat.lt_irrefl _)⟩
                    case measure => simp [intOf]
                  · have hd2 : (0 : Int) < (d : Int) - 1 := by omega
                    have hwi := HMF.out.wi (d - 1 - 1) (by omega)
                    have hIb := HI.out (d - 1 - 1) (by omega)
                    have hIb1 := hIb.1
                    have hIb2 := hIb.2.1
                    have hIb3 := hIb.2.2.1 (by omega)
                    have HI3 := Hid.intro hIb3
                    clear hIb hIb3
                    go_wp2
                    go_round
                    case rel => exact ⟨d - 1, _, by omega, by go_num, rfl, rfl, by simp; omega, by have := HI3.out; omega, by omega, by have := HN.out; rw [if_pos (by omega)] at this; exact this, fun _ => by have := HI3.out; omega⟩
                    case measure => simp [intOf]; omega

set_option maxRecDepth 100000 in
set_option maxHeartbeats 400000 in
theorem law_big (a0 a1 : Option Addr) (k cap0 n1 cap1 : Nat) (hl : Bool) (ed : Int) (w : World) (hk : ¬ k ≤ 1024) :
    Calls Yba.prog 3 #[.slice a0 k cap0, .slice a1 n1 cap1, .bool hl, .int .u64 ed] w fun e w' => e = .returned (.bool true) ∧ Below w.heap.size w w' := by
  have hk' : (1024 : Int) < (k : Int) := by omega
  go_enter Yba.func3, Yba.ntmps3
  go_wp2
  go_ret
  exact ⟨rfl, Below.refl _ _⟩
end Go.Proofs.Ybulkcyze
