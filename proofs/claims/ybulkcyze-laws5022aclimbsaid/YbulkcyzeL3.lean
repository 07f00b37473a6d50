import Derived.Test.YbulkcyzeL2
namespace Go.Proofs.Ybulkcyze
open Go.RowKit

theorem fin_pos {I : Nat → Int} {d : Nat} {c : Int} (h : 0 ≤ c) : fin I (d + 1) c = (d + 1, c) := by rw [fin, if_pos h]
theorem fin_neg {I : Nat → Int} {d : Nat} {c : Int} (h : ¬ 0 ≤ c) : fin I (d + 1) c = fin I d (if 0 < d then I (d - 1) - 1 else c) := by rw [fin, if_neg h]

/-- One step popped, nothing let go: what the next round finds. -/
theorem Fx.pop {w W : World} {bc bp k : Nat} {I : Nat → Int} {M Nb Ib : Nat → Nat} {Rp : Nat → Nat → Nat} {e : Nat} {cur : Int} {lf : Option Addr} (h : Fx w bc bp k I M Nb Ib Rp (e + 1) cur lf) {A : Addr → Prop} (hc : Chg A w W)
    (hA : ∀ x, A x → x.block = bc ∨ x.block = bp ∧ x.off = (e - 1) * 2 + 1 ∨ x.off = 0 ∧ ¬ x.block = bp) {lf' : Option Addr} (p' : W.cell? ⟨bc, 3, none⟩ = some (.slice (some ⟨bp, 0, none⟩) e k)) (l' : W.cell? ⟨bc, 4, none⟩ = some (.pointer lf'))
    (pi' : 0 < e → W.cell? ⟨bp, (e - 1) * 2 + 1, none⟩ = some (.int .i64 (I (e - 1) - 1))) : Fx W bc bp k I M Nb Ib Rp e (if 0 < e then I (e - 1) - 1 else cur) lf' := by
  refine h.move hc (fun x hx => by rcases hA x hx with h | h | h <;> omega) p' l' (fun j hj => ?_)
  by_cases hje : j + 1 = e
  · have : j = e - 1 := by omega
    subst this
    rw [if_pos hje, if_pos (by omega)]
    exact pi' (by omega)
  · rw [if_neg hje]
    have hj' := h.pi j (by omega)
    rw [if_neg (by omega)] at hj'
    rw [hc.cell _ _ (lt_of_cell hj') (fun x => by have := hA _ x; have := h.ne; simp at *; omega)]
    exact hj'

theorem Freed.kept {w W : World} {bc bp nl : Nat} {ed : Int} (h : Freed w bc nl ed) {A : Addr → Prop} (hc : Chg A w W) (hA : ∀ x, A x → x = ⟨bc, 3, none⟩ ∨ x.block = bp) (h1 : ¬ nl = bc) (h2 : ¬ nl = bp) (h3 : ¬ bc = bp) : Freed W bc nl ed :=
  ⟨by rw [hc.cell _ _ (lt_of_cell h.s) (fun x => by rcases hA _ x with e | e; exact h1 (congrArg Addr.block e); exact h2 e)]; exact h.s,
   by rw [hc.cell _ _ (lt_of_cell h.c) (fun x => by rcases hA _ x with e | e; exact absurd (congrArg Addr.off e) (by simp); exact h3 e)]; exact h.c,
   by rw [hc.fro _ _ (lt_of_cell h.s)]; exact h.fs⟩

theorem Fx.same {w W : World} {bc bp k : Nat} {I : Nat → Int} {M Nb Ib : Nat → Nat} {Rp : Nat → Nat → Nat} {d : Nat} {cur : Int} {lf : Option Addr} (h : Fx w bc bp k I M Nb Ib Rp d cur lf) (hc : Chg (fun _ => False) w W) : Fx W bc bp k I M Nb Ib Rp d cur lf :=
  h.move hc (fun _ h => h.elim) (by rw [hc.cell _ _ (lt_of_cell h.p) id]; exact h.p) (by rw [hc.cell _ _ (lt_of_cell h.l) id]; exact h.l) (fun j hj => by rw [hc.cell _ _ (lt_of_cell (h.pi j hj)) id]; exact h.pi j hj)
theorem Held.same {w W : World} {bc nl : Nat} {ed : Int} (h : Held w bc nl ed) (hc : Chg (fun _ => False) w W) : Held W bc nl ed := by
  obtain ⟨sh, hsh⟩ := h.c
  have h1 := lt_of_cell hsh
  exact ⟨by rw [hc.cell _ _ (lt_of_cell h.s) id]; exact h.s, by rw [hc.cell _ _ (lt_of_cell h.e) id]; exact h.e, ⟨sh, by rw [hc.cell _ _ h1 id]; exact hsh⟩, by rw [hc.fro _ _ (lt_of_cell h.s)]; exact h.fs, by rw [hc.fro _ _ h1]; exact h.fc, by rw [hc.fro _ _ h1]; exact h.fl⟩
theorem Freed.same {w W : World} {bc nl : Nat} {ed : Int} (h : Freed w bc nl ed) (hc : Chg (fun _ => False) w W) : Freed W bc nl ed :=
  ⟨by rw [hc.cell _ _ (lt_of_cell h.s) id]; exact h.s, by rw [hc.cell _ _ (lt_of_cell h.c) id]; exact h.c, by rw [hc.fro _ _ (lt_of_cell h.s)]; exact h.fs⟩
theorem Lk.same {w W : World} {bc k d : Nat} {hl : Option Nat} {ed : Int} {lv : Option Addr} (h : Lk w bc k d hl ed lv) (hc : Chg (fun _ => False) w W) : Lk W bc k d hl ed lv := by
  rcases h with ⟨h1, h2⟩ | ⟨nl, h1, h2, h3, h4⟩
  · refine .inl ⟨h1, ?_⟩
    rcases h2 with h2 | ⟨h2, nl, h3, h4⟩
    · exact .inl h2
    · exact .inr ⟨h2, nl, h3, h4.same hc⟩
  · exact .inr ⟨nl, h1, h2, h3, h4.same hc⟩

theorem Hid.intro {p : Prop} (h : p) : Hid p := h

/-- How many steps the cursor's path holds: for the loop's measure. -/
def sliceLen (w : World) (bc : Nat) : Nat := match w.cell? ⟨bc, 3, none⟩ with | some (.slice _ n _) => n | _ => 0
theorem sliceLen_of {w : World} {bc : Nat} {a : Option Addr} {n c : Nat} (h : w.cell? ⟨bc, 3, none⟩ = some (.slice a n c)) : sliceLen w bc = n := by unfold sliceLen; rw [h]

/-- The climb under way: the loop's relation. -/
def CRel (bc bp k : Nat) (I : Nat → Int) (M Nb Ib : Nat → Nat) (Rp : Nat → Nat → Nat) (hl : Option Nat) (ed cur0 : Int) (w wr : World) : Prop :=
  ∃ (d : Nat) (cur : Int) (lv : Option Addr), d ≤ k ∧ Hid (fin I d cur = fin I k cur0) ∧ -1 ≤ cur ∧ cur ≤ 4 ∧ Hid (0 < d → cur < M (d - 1)) ∧ Fx wr bc bp k I M Nb Ib Rp d cur lv ∧ Lk wr bc k d hl ed lv ∧ Chg (May bc bp hl) w wr

/-- What a round may write, the leaf apart. -/
def Rw (bc bp e : Nat) (x : Addr) : Prop := x = ⟨bc, 3, none⟩ ∨ 0 < e ∧ x = ⟨bp, (e - 1) * 2 + 1, none⟩

theorem rw_zero {V X : World} {bc bp : Nat} {x : Value} (hX : Chg (fun _ => False) V X) (hp : V.cell? ⟨bc, 3, none⟩ = some x) (v : Value) : Chg (Rw bc bp 0) V (X.setCell ⟨bc, 3, none⟩ v) ∧ (X.setCell ⟨bc, 3, none⟩ v).cell? ⟨bc, 3, none⟩ = some v :=
  ⟨(hX.mono (fun _ h => h.elim)).setCell (.inl rfl) v, World.cell?_setCell_same _ _ _ ((hX.cell _ _ (lt_of_cell hp) id).trans hp)⟩
theorem rw_pos {V X : World} {bc bp e : Nat} {x y : Value} (hX : Chg (fun _ => False) V X) (he : 0 < e) (hne : ¬ bc = bp) (hp : V.cell? ⟨bc, 3, none⟩ = some x) (hq : V.cell? ⟨bp, (e - 1) * 2 + 1, none⟩ = some y) (v u : Value) :
    Chg (Rw bc bp e) V ((X.setCell ⟨bc, 3, none⟩ v).setCell ⟨bp, (e - 1) * 2 + 1, none⟩ u) ∧ ((X.setCell ⟨bc, 3, none⟩ v).setCell ⟨bp, (e - 1) * 2 + 1, none⟩ u).cell? ⟨bc, 3, none⟩ = some v ∧
      ((X.setCell ⟨bc, 3, none⟩ v).setCell ⟨bp, (e - 1) * 2 + 1, none⟩ u).cell? ⟨bp, (e - 1) * 2 + 1, none⟩ = some u := by
  refine ⟨((hX.mono (fun _ h => h.elim)).setCell (.inl rfl) v).setCell (.inr ⟨he, rfl⟩) u, ?_, ?_⟩
  · rw [World.cell?_setCell_other _ _ _ _ (fun e => hne (congrArg Addr.block e).symm)]
    exact World.cell?_setCell_same _ _ _ ((hX.cell _ _ (lt_of_cell hp) id).trans hp)
  · refine World.cell?_setCell_same _ _ _ (u := y) ?_
    rw [World.cell?_setCell_other _ _ _ _ (fun e => hne (congrArg Addr.block e))]
    exact (hX.cell _ _ (lt_of_cell hq) id).trans hq

theorem crel_step {bc bp k : Nat} {I : Nat → Int} {M Nb Ib : Nat → Nat} {Rp : Nat → Nat → Nat} {hl : Option Nat} {ed cur0 : Int} {w V W : World} {e : Nat} {cur : Int} (hF : Fx V bc bp k I M Nb Ib Rp (e + 1) cur none)
    (hc1 : -1 ≤ cur) (hc2 : cur ≤ 4) (HF' : Hid (fin I e (if 0 < e then I (e - 1) - 1 else cur) = fin I k cur0)) (hd : e + 1 ≤ k)
    (hI : ∀ j, j < k → -1 ≤ I j ∧ I j ≤ 4 ∧ (j + 1 < k → 0 ≤ I j ∧ I j ≤ M j) ∧ (j + 1 = k → I j < M j)) (hnl : ∀ nl, hl = some nl → 0 < k ∧ nl = Nb (k - 1))
    (hLk : hl = none ∨ ∃ nl, hl = some nl ∧ Freed V bc nl ed) (hchg : Chg (May bc bp hl) w V) (hC : Chg (Rw bc bp e) V W) (p' : W.cell? ⟨bc, 3, none⟩ = some (.slice (some ⟨bp, 0, none⟩) e k)) (pi' : 0 < e → W.cell? ⟨bp, (e - 1) * 2 + 1, none⟩ = some (.int .i64 (I (e - 1) - 1))) :
    CRel bc bp k I M Nb Ib Rp hl ed cur0 w W := by
  have hbc := lt_of_cell hF.p
  have hrw : ∀ x, Rw bc bp e x → x.block = bc ∨ x.block = bp ∧ x.off = (e - 1) * 2 + 1 ∨ x.off = 0 ∧ ¬ x.block = bp := by
    rintro x (rfl | ⟨_, rfl⟩)
    · exact .inl rfl
    · exact .inr (.inl ⟨rfl, rfl⟩)
  have hl4 : W.cell? ⟨bc, 4, none⟩ = some (.pointer none) := by
    rw [hC.cell _ _ hbc (fun x => by rcases x with x | ⟨_, x⟩; exact absurd (congrArg Addr.off x) (by simp); exact hF.ne (congrArg Addr.block x))]; exact hF.l
  refine ⟨e, _, none, by omega, HF', ?_, ?_, ?_, hF.pop hC hrw p' hl4 pi', .inl ⟨rfl, ?_⟩, hchg.trans (hC.mono ?_)⟩
  · by_cases h0 : 0 < e
    · have := (hI (e - 1) (by omega)).2.2.1 (by omega); rw [if_pos h0]; omega
    · rw [if_neg h0]; exact hc1
  · by_cases h0 : 0 < e
    · have := (hI (e - 1) (by omega)).2.1; rw [if_pos h0]; omega
    · rw [if_neg h0]; exact hc2
  · intro h0
    have := (hI (e - 1) (by omega)).2.2.1 (by omega); rw [if_pos h0]; omega
  · rcases hLk with h | ⟨nl, h, hf⟩
    · exact .inl h
    · obtain ⟨hk0, rfl⟩ := hnl nl h
      have hn := hF.nN (k - 1) (by omega)
      exact .inr ⟨by omega, _, h, hf.kept (bp := bp) hC (fun x hx => by rcases hx with hx | ⟨_, hx⟩; exact .inl hx; exact .inr (congrArg Addr.block hx)) hn.1 hn.2 hF.ne⟩
  · rintro x (rfl | ⟨_, rfl⟩)
    · exact .inl rfl
    · exact .inr (.inl ⟨rfl, by simp⟩)

/-- The leaf let go of: what stands behind 'release'. -/
theorem after_release {bc bp k : Nat} {I : Nat → Int} {M Nb Ib : Nat → Nat} {Rp : Nat → Nat → Nat} {nl : Nat} {ed : Int} {V X : World} {d : Nat} {cur : Int} {lv : Option Addr} (hF : Fx V bc bp k I M Nb Ib Rp d cur lv) (hH : Held V bc nl ed) (hX : Chg (fun _ => False) V X)
    (h1 : ¬ nl = bc) (h2 : ¬ nl = bp) : Fx (((X.setCell ⟨bc, 2, none⟩ (.int .u64 ed)).setCell ⟨nl, 0, none⟩ (.int .i32 0)).setCell ⟨bc, 4, none⟩ (.pointer none)) bc bp k I M Nb Ib Rp d cur none ∧
      Freed (((X.setCell ⟨bc, 2, none⟩ (.int .u64 ed)).setCell ⟨nl, 0, none⟩ (.int .i32 0)).setCell ⟨bc, 4, none⟩ (.pointer none)) bc nl ed ∧
      Chg (May bc bp (some nl)) V (((X.setCell ⟨bc, 2, none⟩ (.int .u64 ed)).setCell ⟨nl, 0, none⟩ (.int .i32 0)).setCell ⟨bc, 4, none⟩ (.pointer none)) := by
  obtain ⟨sh, hsh⟩ := hH.c
  have hbc := lt_of_cell hsh
  have hC : Chg (fun x => x = ⟨bc, 2, none⟩ ∨ x = ⟨nl, 0, none⟩ ∨ x = ⟨bc, 4, none⟩) V (((X.setCell ⟨bc, 2, none⟩ (.int .u64 ed)).setCell ⟨nl, 0, none⟩ (.int .i32 0)).setCell ⟨bc, 4, none⟩ (.pointer none)) :=
    (((hX.mono (fun _ h => h.elim)).setCell (.inl rfl) _).setCell (.inr (.inl rfl)) _).setCell (.inr (.inr rfl)) _
  have far : ∀ b o, b < V.heap.size → ¬ (b = bc ∧ o = 2) → ¬ (b = nl ∧ o = 0) → ¬ (b = bc ∧ o = 4) → (((X.setCell ⟨bc, 2, none⟩ (.int .u64 ed)).setCell ⟨nl, 0, none⟩ (.int .i32 0)).setCell ⟨bc, 4, none⟩ (.pointer none)).cell? ⟨b, o, none⟩ = V.cell? ⟨b, o, none⟩ := fun b o hb e1 e2 e3 =>
    hC.cell b o hb (by rintro (e | e | e) <;> simp at e <;> omega)
  have hne := hF.ne
  refine ⟨hF.move hC ?_ ?_ ?_ ?_, ⟨?_, ?_, ?_⟩, hC.mono ?_⟩
  · rintro x (rfl | rfl | rfl)
    · exact .inl rfl
    · exact .inr (.inr ⟨rfl, h2⟩)
    · exact .inl rfl
  · rw [far _ _ hbc (by omega) (by omega) (by omega)]; exact hF.p
  · refine World.cell?_setCell_same _ _ _ (u := .pointer lv) ?_
    rw [World.cell?_setCell_other _ _ _ _ (fun e => h1 (congrArg Addr.block e)), World.cell?_setCell_other _ _ _ _ (by simp)]
    exact (hX.cell _ _ hbc id).trans hF.l
  · intro j hj
    rw [far _ _ (lt_of_cell (hF.pi j hj)) (by omega) (by omega) (by omega)]; exact hF.pi j hj
  · rw [World.cell?_setCell_other _ _ _ _ (fun e => h1 (congrArg Addr.block e).symm)]
    refine World.cell?_setCell_same _ _ _ (u := .int .i32 1) ?_
    rw [World.cell?_setCell_other _ _ _ _ (fun e => h1 (congrArg Addr.block e).symm)]
    exact (hX.cell _ _ (lt_of_cell hH.s) id).trans hH.s
  · rw [World.cell?_setCell_other _ _ _ _ (by simp), World.cell?_setCell_other _ _ _ _ (fun e => h1 (congrArg Addr.block e))]
    exact World.cell?_setCell_same _ _ _ ((hX.cell _ _ hbc id).trans hsh)
  · rw [hC.fro _ _ (lt_of_cell hH.s)]; exact hH.fs
  · rintro x (rfl | rfl | rfl)
    · exact .inl rfl
    · exact .inr (.inr ⟨rfl, h2, rfl⟩)
    · exact .inl rfl

set_option maxRecDepth 100000 in
set_option maxHeartbeats 1600000 in
theorem climb_any (bc bp k : Nat) (I : Nat → Int) (M Nb Ib : Nat → Nat) (Rp : Nat → Nat → Nat) (hl : Option Nat) (ed cur0 : Int) (lv0 : Option Addr) (w : World) (hk : k ≤ 1024)
    (hI : ∀ j, j < k → -1 ≤ I j ∧ I j ≤ 4 ∧ (j + 1 < k → 0 ≤ I j ∧ I j ≤ M j) ∧ (j + 1 = k → I j < M j)) (hM : ∀ j, j < k → M j ≤ 4) (hcur : 0 < k → cur0 = I (k - 1)) (hnl : ∀ nl, hl = some nl → 0 < k ∧ nl = Nb (k - 1))
    (hF : Fx w bc bp k I M Nb Ib Rp k cur0 lv0) (hL : Lk w bc k k hl ed lv0) (hb0 : -1 ≤ cur0 ∧ cur0 ≤ 4) :
    Calls Yba.prog 7 #[.pointer (some ⟨bc, 0, none⟩)] w fun e w' => ∃ (D : Nat) (C : Int) (lv : Option Addr), fin I k cur0 = (D, C) ∧ D ≤ k ∧ (0 < D → 0 ≤ C ∧ C < M (D - 1)) ∧ e = .returned (if D = 0 then .pointer none else .pointer (some ⟨Rp (D - 1) C.toNat, 0, none⟩)) ∧
      Fx w' bc bp k I M Nb Ib Rp D C lv ∧ Lk w' bc k D hl ed lv ∧ Chg (May bc bp hl) w w' := by
  have hne := hF.ne
  have hne' : ¬ bp = bc := fun e => hne e.symm
  have hbc := lt_of_cell hF.p
  have HI := Hid.intro hI
  have HNL := Hid.intro hnl
  have HM4 := Hid.intro hM
  clear hI hnl hM
  go_enter Yba.func7, Yba.ntmps7
  go_wp2
  go_loopw [2] (fun _ wr => CRel bc bp k I M Nb Ib Rp hl ed cur0 w wr) (fun _ wr => sliceLen wr bc)
  case atStart =>
    refine ⟨k, cur0, lv0, Nat.le_refl _, rfl, ?_, ?_, ?_, hF, hL, Chg.refl _ _⟩
    · exact hb0.1
    · exact hb0.2
    · intro h0
      rw [hcur h0]
      exact (HI.out (k - 1) (by omega)).2.2.2 (by omega)
  case round =>
    obtain ⟨d, cur, lv, hd, HF, hc1, hc2, HM, hFr, hLr, hchg⟩ := hrel
    clear hF hL
    cases d with
    | zero =>
      have hp := hFr.p
      go_wp2
      go_ret
      exact ⟨0, cur, lv, HF.out.symm, Nat.zero_le _, fun h => absurd h (Nat.lt_irrefl _), rfl, hFr, hLr, hchg⟩
    | succ e =>
      have hp := hFr.p
      have hfp := hFr.fp
      have hll := hFr.l
      have hpn := hFr.pn e (by omega)
      have hpi := hFr.pi e (by omega)
      rw [if_pos rfl] at hpi
      have hbc' : bc < wr.heap.size := lt_of_cell hp
      have hbb' : bp < wr.heap.size := lt_of_cell hpn
      have i1 : (e : Int) < ((e + 1 : Nat) : Int) := by omega
      have i2 : (0 : Int) ≤ (e : Int) := by omega
      have i4 : (e : Int) ≤ (k : Int) := by omega
      have hMe := HM.out (by omega)
      simp only [Nat.add_sub_cancel] at hMe
      have hM4 := HM4.out e (by omega)
      by_cases hc : 0 ≤ cur
      · -- a record is found
        obtain ⟨t, rfl⟩ : ∃ t : Nat, cur = (t : Int) := ⟨cur.toNat, by omega⟩
        have hn4 := hFr.n4 e (by omega)
        have hit := hFr.it e t (by omega) (by omega)
        have hnb := lt_of_cell hn4
        have hib := lt_of_cell hit
        have i3 : (t : Int) < (M e : Int) := by omega
        clear hfp hll hbc
        go_wp2
        go_region
        go_wp2
        go_quiet (fail)
        go_wp2
        go_ret
        have hC : Chg (fun _ => False) wr ((wr.alloc (Obj.cells #[Value.pointer (some { block := Nb e, off := 0 }), Value.int IntKind.i64 (t : Int)] 53)).drew.drewN nq) := (((Chg.refl _ _).alloc _).drew).drewN _
        exact ⟨e + 1, t, lv, by rw [← HF.out, fin_pos hc], hd, fun _ => ⟨hc, by simpa using hMe⟩, by simp, hFr.same hC, hLr.same hC, hchg.trans (hC.mono (fun _ h => h.elim))⟩
      · -- one step up
        have hcn : cur < 0 := by omega
        have HF' : Hid (fin I e (if 0 < e then I (e - 1) - 1 else cur) = fin I k cur0) := by rw [← HF.out, fin_neg hc]; rfl
        rcases hLr with ⟨rfl, hLr⟩ | ⟨nl, hnle, rfl, hdk, hheld⟩
        · have hLk : hl = none ∨ ∃ nl, hl = some nl ∧ Freed wr bc nl ed := by
            rcases hLr with h | ⟨_, h⟩
            · exact .inl h
            · exact .inr h
          rcases Nat.eq_zero_or_pos e with he | he
          · subst he
            clear hbc HM hMe hLr
            go_wp2
            go_region
            go_wp2
            go_quiet (fail)
            go_wp2
            go_region
            go_wp2
            have hR := rw_zero (bp := bp) (X := (wr.alloc (Obj.cells #[Value.pointer (some { block := Nb 0, off := 0 }), Value.int IntKind.i64 cur] 53)).drewN (1 + nq + 1)) (((Chg.refl _ _).alloc _).drewN _) hp (.slice (some ⟨bp, 0, none⟩) 0 k)
            go_roundw
            case rel => exact crel_step hFr hc1 hc2 HF' hd HI.out HNL.out hLk hchg hR.1 hR.2 (fun h => absurd h (Nat.lt_irrefl _))
            case measure => rw [sliceLen_of hR.2, sliceLen_of hp]; omega
          · have hpj := hFr.pi (e - 1) (by omega)
            rw [if_neg (by omega)] at hpj
            have hfj := hFr.fi (e - 1) (by omega)
            have hII := HI.out (e - 1) (by omega)
            have hII1 := hII.1
            have hII2 := hII.2.1
            have i5 : (0 : Int) < (e : Int) := by omega
            clear hbc HM hMe hLr hII
            go_wp2
            go_region
            go_wp2
            go_quiet (fail)
            go_wp2
            go_region
            go_wp2
            go_region
            go_wp2
            have hR := rw_pos (X := (wr.alloc (Obj.cells #[Value.pointer (some { block := Nb e, off := 0 }), Value.int IntKind.i64 cur] 53)).drewN (1 + nq + 1)) (((Chg.refl _ _).alloc _).drewN _) he hne hp hpj (.slice (some ⟨bp, 0, none⟩) e k) (.int .i64 (I (e - 1) - 1))
            go_roundw
            case rel => exact crel_step hFr hc1 hc2 HF' hd HI.out HNL.out hLk hchg hR.1.drew hR.2.1 (fun _ => hR.2.2)
            case measure =>
              rw [sliceLen_of hp]
              exact Nat.lt_of_le_of_lt (Nat.le_of_eq (sliceLen_of (n := e) hR.2.1)) (Nat.lt_succ_self e)
        · obtain ⟨hk0, hnN⟩ := HNL.out nl hnle
          subst hdk
          simp only [Nat.add_sub_cancel] at hnN
          subst hnN
          have hnn := hFr.nN e (by omega)
          obtain ⟨sh, hsh⟩ := hheld.c
          clear hbc HM hMe hk0
          have hE := eq28
          go_wp2
          go_region
          go_wp2
          go_quiet (fail)
          go_wp2_with fail
          have hX : Chg (fun _ => False) wr ((wr.alloc (Obj.cells #[Value.pointer (some { block := Nb e, off := 0 }), Value.int IntKind.i64 cur] 53)).drewN (1 + nq)) := ((Chg.refl _ _).alloc _).drewN _
          refine (release_leaf bc (Nb e) ed sh _ hnn.1 ?_ ?_ ?_ ?_ ?_ ?_ ?_).mono ?_
          · exact (hX.cell _ _ hbc' id).trans hsh
          · exact (hX.cell _ _ hbc' id).trans hll
          · exact (hX.fro _ _ hbc').trans hheld.fc
          · exact (hX.fro _ _ hbc').trans hheld.fl
          · exact (hX.cell _ _ (lt_of_cell hheld.s) id).trans hheld.s
          · exact (hX.cell _ _ (lt_of_cell hheld.e) id).trans hheld.e
          · exact (hX.fro _ _ (lt_of_cell hheld.s)).trans hheld.fs
          rintro x w2 ⟨rfl, hw2⟩
          obtain ⟨hF2, hfr2, hch2⟩ := after_release hFr hheld hX hnn.1 hnn.2
          rw [← hw2] at hF2 hfr2 hch2
          clear hw2 hX
          have hchg2 : Chg (May bc bp hl) w w2 := hchg.trans (by rw [hnle]; exact hch2)
          have hp2 := hF2.p
          have hfp2 := hF2.fp
          have hbc2 : bc < w2.heap.size := lt_of_cell hp2
          have hbb2 : bp < w2.heap.size := lt_of_cell (hF2.pn e (by omega))
          clear hfp hll hpn hpi hbc' hbb' hsh hch2 hchg
          rcases Nat.eq_zero_or_pos e with he | he
          · subst he
            go_wp2
            go_region
            go_wp2
            have hR := rw_zero (bp := bp) (X := w2.drew) ((Chg.refl _ _).drew) hp2 (.slice (some ⟨bp, 0, none⟩) 0 (0 + 1))
            go_roundw
            case rel => exact crel_step hF2 hc1 hc2 HF' hd HI.out HNL.out (.inr ⟨_, hnle, hfr2⟩) hchg2 hR.1 hR.2 (fun h => absurd h (Nat.lt_irrefl _))
            case measure =>
              rw [sliceLen_of hp]
              exact Nat.lt_of_le_of_lt (Nat.le_of_eq (sliceLen_of (n := 0) hR.2)) (Nat.lt_succ_self 0)
          · have hpj := hF2.pi (e - 1) (by omega)
            rw [if_neg (by omega)] at hpj
            have hfj := hF2.fi (e - 1) (by omega)
            have hII := HI.out (e - 1) (by omega)
            have hII1 := hII.1
            have hII2 := hII.2.1
            have i5 : (0 : Int) < (e : Int) := by omega
            clear hII
            go_wp2
            go_region
            go_wp2
            go_region
            go_wp2
            have hR := rw_pos (X := w2.drew) ((Chg.refl _ _).drew) he hne hp2 hpj (.slice (some ⟨bp, 0, none⟩) e (e + 1)) (.int .i64 (I (e - 1) - 1))
            go_roundw
            case rel => exact crel_step hF2 hc1 hc2 HF' hd HI.out HNL.out (.inr ⟨_, hnle, hfr2⟩) hchg2 hR.1.drew hR.2.1 (fun _ => hR.2.2)
            case measure =>
              rw [sliceLen_of hp]
              exact Nat.lt_of_le_of_lt (Nat.le_of_eq (sliceLen_of (n := e) hR.2.1)) (Nat.lt_succ_self e)
end Go.Proofs.Ybulkcyze
