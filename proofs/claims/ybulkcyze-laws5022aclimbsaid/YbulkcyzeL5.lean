import Derived.Test.YbulkcyzeL4
namespace Go.Proofs.Ybulkcyze
open Go.RowKit

/-- What the walk is told of a slice of bytes that came in. -/
def Src (w : World) (a : Option Addr) (n : Nat) (Z : Nat → Int) : Prop :=
  n = 0 ∨ ∃ b o, a = some ⟨b, o, none⟩ ∧ ∀ j, j < n → w.cell? ⟨b, o + j, none⟩ = some (.int .u8 (Z j)) ∧ 0 ≤ Z j ∧ Z j ≤ 255
def Mz (Z0 : Nat → Int) (j : Nat) : Nat := (Z0 j % 5).toNat
def Iz (Z0 Z1 : Nat → Int) (k n1 j : Nat) : Int := (if j < n1 then Z1 j else 0) % ((Mz Z0 j : Int) + 1) - (if j + 1 = k then 1 else 0)

/-- The inner loop under way: t records made. -/
structure Inn (w1 wi : World) (ib rb m t : Nat) (rp : Nat → Nat) : Prop where
  ch : Chg (fun a => a.block = ib ∨ a.block = rb) w1 wi
  ri : Row wi ib (m * 2)
  rr : Row wi rb m
  it : ∀ x, x < t → wi.cell? ⟨ib, x * 2 + 1, none⟩ = some (.pointer (some ⟨rp x, 0, none⟩))
  rs : ∀ x, x < t → wi.cell? ⟨rb, x, none⟩ = some (.pointer (some ⟨rp x, 0, none⟩))

theorem Chg.new {A : Addr → Prop} {w w1 wi : World} (h : Chg (fun _ => False) w w1) (k : Chg A w1 wi) (hA : ∀ x : Addr, A x → w.heap.size ≤ x.block) : Chg (fun _ => False) w wi :=
  ⟨k.os.trans h.os, k.tape.trans h.tape, k.output.trans h.output, Nat.le_trans h.size k.size, fun b o hb _ => (k.cell b o (Nat.lt_of_lt_of_le hb h.size) (fun x => by have := hA _ x; simp at this; omega)).trans (h.cell b o hb id),
   fun b o hb => (k.fro b o (Nat.lt_of_lt_of_le hb h.size)).trans (h.fro b o hb), fun i hi _ => (k.blk i (Nat.lt_of_lt_of_le hi h.size) (fun o x => by have := hA _ x; simp at this; omega)).trans (h.blk i hi (fun _ => id))⟩
theorem Chg.setNew {A : Addr → Prop} {a b : World} (h : Chg A a b) {bl of : Nat} (hn : a.heap.size ≤ bl) (u : Value) : Chg A a (b.setCell ⟨bl, of, none⟩ u) :=
  ⟨h.os, h.tape, h.output, by simpa [World.setCell] using h.size, fun i p hi hA => (World.cell?_setCell_other _ _ _ _ (fun e => by have := congrArg Addr.block e; simp at this; omega)).trans (h.cell i p hi hA), fun i p hi => (World.frozen?_setCell _ _ _ _).trans (h.fro i p hi),
   fun i hi hA => (Below.heap_setCell _ _ _ _ (fun e => by simp at e; omega)).trans (h.blk i hi hA)⟩

/-- The three blocks that a round lays ahead of its inner loop. -/
def w1of (wo : World) (m : Nat) : World := ((wo.alloc (Obj.cells #[Value.int IntKind.i32 0, Value.int IntKind.u32 0, Value.int IntKind.u64 0, Value.slice none 0 0, Value.slice none 0 0, Value.slice none 0 0] 38)).alloc (mkObj (.agg #[.int .u64 0, .pointer none]) 2 51 m)).alloc (mkObj (.pointer none) 1 40 m)
theorem w1_size (wo : World) (m : Nat) : (w1of wo m).heap.size = wo.heap.size + 3 := by simp [w1of]
theorem w1_chg (wo : World) (m : Nat) : Chg (fun _ => False) wo (w1of wo m) := (((Chg.refl _ _).alloc _).alloc _).alloc _
theorem w1_node (wo : World) (m : Nat) : (w1of wo m).cell? ⟨wo.heap.size, 0, none⟩ = some (.int .i32 0) ∧ (w1of wo m).cell? ⟨wo.heap.size, 2, none⟩ = some (.int .u64 0) ∧ (w1of wo m).cell? ⟨wo.heap.size, 4, none⟩ = some (.slice none 0 0) ∧ ∀ o, (w1of wo m).frozen? ⟨wo.heap.size, o, none⟩ = false := by
  unfold w1of
  refine ⟨?_, ?_, ?_, fun o => ?_⟩
  · rw [World.cell?_alloc_past _ _ _ (by simp; omega), World.cell?_alloc_past _ _ _ (by simp)]; exact World.cell?_alloc_at _ _ _ _ rfl
  · rw [World.cell?_alloc_past _ _ _ (by simp; omega), World.cell?_alloc_past _ _ _ (by simp)]; exact World.cell?_alloc_at _ _ _ _ rfl
  · rw [World.cell?_alloc_past _ _ _ (by simp; omega), World.cell?_alloc_past _ _ _ (by simp)]; exact World.cell?_alloc_at _ _ _ _ rfl
  · rw [World.frozen?_alloc_past _ _ _ (by simp; omega), World.frozen?_alloc_past _ _ _ (by simp)]; exact World.frozen?_alloc_at _ _ _ _ rfl

theorem inn_start (wo : World) (m : Nat) (rp : Nat → Nat) : Inn (w1of wo m) (w1of wo m) (wo.heap.size + 1) (wo.heap.size + 1 + 1) m 0 rp := by
  refine ⟨Chg.refl _ _, ?_, ?_, fun x hx => absurd hx (Nat.not_lt_zero _), fun x hx => absurd hx (Nat.not_lt_zero _)⟩
  · have := (row_mk (wo.alloc (Obj.cells #[Value.int IntKind.i32 0, Value.int IntKind.u32 0, Value.int IntKind.u64 0, Value.slice none 0 0, Value.slice none 0 0, Value.slice none 0 0] 38)) (.agg #[.int .u64 0, .pointer none]) 2 51 m).alloc (mkObj (.pointer none) 1 40 m)
    simpa [w1of] using this
  · have := row_mk ((wo.alloc (Obj.cells #[Value.int IntKind.i32 0, Value.int IntKind.u32 0, Value.int IntKind.u64 0, Value.slice none 0 0, Value.slice none 0 0, Value.slice none 0 0] 38)).alloc (mkObj (.agg #[.int .u64 0, .pointer none]) 2 51 m)) (.pointer none) 1 40 m
    simpa [w1of] using this

theorem Inn.step {w1 wi : World} {ib rb m t : Nat} {rp : Nat → Nat} (h : Inn w1 wi ib rb m t rp) (ht : t < m) (hne : ¬ ib = rb) (z : Value) (o : Obj) :
    Inn w1 ((((wi.setCell ⟨rb, t, none⟩ (.pointer (some ⟨wi.heap.size, 0, none⟩))).setCell ⟨ib, t * 2, none⟩ z).setCell ⟨ib, t * 2 + 1, none⟩ (.pointer (some ⟨wi.heap.size, 0, none⟩))).alloc o) ib rb m (t + 1) (up rp t wi.heap.size) := by
  obtain ⟨⟨v1, g1⟩, f1⟩ := h.rr t ht
  obtain ⟨⟨v3, g3⟩, f3⟩ := h.ri (t * 2 + 1) (by omega)
  have hl1 : rb < wi.heap.size := lt_of_cell g1
  have hl3 : ib < wi.heap.size := lt_of_cell g3
  have sz : (((wi.setCell ⟨rb, t, none⟩ (.pointer (some ⟨wi.heap.size, 0, none⟩))).setCell ⟨ib, t * 2, none⟩ z).setCell ⟨ib, t * 2 + 1, none⟩ (.pointer (some ⟨wi.heap.size, 0, none⟩))).heap.size = wi.heap.size := by simp [World.setCell]
  have ki : ∀ {p q : Nat}, p ≠ q → (⟨ib, p, none⟩ : Addr) ≠ ⟨ib, q, none⟩ := fun h e => h (congrArg Addr.off e)
  have kb : ∀ {p q : Nat}, (⟨ib, p, none⟩ : Addr) ≠ ⟨rb, q, none⟩ := fun e => hne (congrArg Addr.block e)
  refine ⟨(((h.ch.setCell (.inr rfl) _).setCell (.inl rfl) _).setCell (.inl rfl) _).alloc o, (((h.ri.setCell _ _).setCell _ _).setCell _ _).alloc o, (((h.rr.setCell _ _).setCell _ _).setCell _ _).alloc o, fun x hx => ?_, fun x hx => ?_⟩
  · rw [World.cell?_alloc_past _ _ _ (by rw [sz]; exact hl3)]
    by_cases e : x = t
    · subst e
      rw [up_same]
      refine World.cell?_setCell_same _ _ _ (u := v3) ?_
      rw [World.cell?_setCell_other _ _ _ _ (ki (by omega)), World.cell?_setCell_other _ _ _ _ (fun e => kb e.symm)]
      exact g3
    · rw [up_other _ _ e, World.cell?_setCell_other _ _ _ _ (ki (by omega)), World.cell?_setCell_other _ _ _ _ (ki (by omega)), World.cell?_setCell_other _ _ _ _ (fun e => kb e.symm)]
      exact h.it x (by omega)
  · rw [World.cell?_alloc_past _ _ _ (by rw [sz]; exact hl1), World.cell?_setCell_other _ _ _ _ kb, World.cell?_setCell_other _ _ _ _ kb]
    by_cases e : x = t
    · subst e
      rw [up_same]
      exact World.cell?_setCell_same _ _ _ g1
    · rw [up_other _ _ e, World.cell?_setCell_other _ _ _ _ (fun e' => e (congrArg Addr.off e').symm)]
      exact h.rs x (by omega)

theorem Row.same {w W : World} {b n : Nat} (h : Row w b n) (hc : Chg (fun _ => False) w W) : Row W b n := by
  intro x hx
  obtain ⟨⟨v, hv⟩, hf⟩ := h x hx
  have hb := lt_of_cell hv
  exact ⟨⟨v, by rw [hc.cell _ _ hb id]; exact hv⟩, by rw [hc.fro _ _ hb]; exact hf⟩
theorem Inn.after {wo wi : World} {m t : Nat} {rp : Nat → Nat} (h : Inn (w1of wo m) wi (wo.heap.size + 1) (wo.heap.size + 1 + 1) m t rp) :
    Chg (fun _ => False) wo wi ∧ wi.cell? ⟨wo.heap.size, 0, none⟩ = some (.int .i32 0) ∧ wi.cell? ⟨wo.heap.size, 2, none⟩ = some (.int .u64 0) ∧ wi.cell? ⟨wo.heap.size, 4, none⟩ = some (.slice none 0 0) ∧ ∀ o, wi.frozen? ⟨wo.heap.size, o, none⟩ = false := by
  have hn := w1_node wo m
  have hs := w1_size wo m
  have hA : ∀ o, ¬ ((⟨wo.heap.size, o, none⟩ : Addr).block = wo.heap.size + 1 ∨ (⟨wo.heap.size, o, none⟩ : Addr).block = wo.heap.size + 1 + 1) := fun o => by simp; omega
  refine ⟨(w1_chg wo m).new h.ch (fun x hx => by omega), ?_, ?_, ?_, fun o => ?_⟩
  · rw [h.ch.cell _ _ (by omega) (hA 0)]; exact hn.1
  · rw [h.ch.cell _ _ (by omega) (hA 2)]; exact hn.2.1
  · rw [h.ch.cell _ _ (by omega) (hA 4)]; exact hn.2.2.1
  · rw [h.ch.fro _ _ (by omega)]; exact hn.2.2.2 o

theorem at4_ge {B j : Nat} {x : Addr} (h : At4 B j x) : B ≤ x.block := by rcases h with rfl | rfl | rfl | rfl | rfl <;> (simp; try omega)

/-- A round's six stores. -/
def w6of (wi : World) (nb B j m : Nat) (iv : Int) : World :=
  (((((wi.setCell ⟨nb, 4, none⟩ (.slice (some ⟨nb + 1, 0, none⟩) m m)).setCell ⟨B, j, none⟩ (.pointer (some ⟨nb, 0, none⟩))).setCell ⟨B + 1, j, none⟩ (.slice (some ⟨nb + 1 + 1, 0, none⟩) m m)).setCell ⟨B + 1 + 1, j, none⟩ (.int .i64 iv)).setCell ⟨B + 1 + 1 + 1, j * 2, none⟩ (.pointer (some ⟨nb, 0, none⟩))).setCell ⟨B + 1 + 1 + 1, j * 2 + 1, none⟩ (.int .i64 iv)

theorem ne_blk {b b' o o' : Nat} (h : b ≠ b') : (⟨b, o, none⟩ : Addr) ≠ ⟨b', o', none⟩ := fun e => h (congrArg Addr.block e)
theorem ne_off {b b' o o' : Nat} (h : o ≠ o') : (⟨b, o, none⟩ : Addr) ≠ ⟨b', o', none⟩ := fun e => h (congrArg Addr.off e)

theorem Blt.round {wo wi : World} {B k j : Nat} {M : Nat → Nat} {I : Nat → Int} {Nb Ib Rb : Nat → Nat} {Rp : Nat → Nat → Nat} {rp : Nat → Nat} (h : Blt wo B k j M I Nb Ib Rb Rp) (hj : j < k) (hb4 : B + 4 ≤ wo.heap.size)
    (hin : Inn (w1of wo (M j)) wi (wo.heap.size + 1) (wo.heap.size + 1 + 1) (M j) (M j) rp) (iv : Int) (hiv : iv = I j) :
    Blt (w6of wi wo.heap.size B j (M j) iv) B k (j + 1) M I (up Nb j wo.heap.size) (up Ib j (wo.heap.size + 1)) (up Rb j (wo.heap.size + 1 + 1)) (up Rp j rp) ∧ Chg (At4 B j) wo (w6of wi wo.heap.size B j (M j) iv) := by
  subst hiv
  obtain ⟨hwo, n0, n2, n4, nf⟩ := hin.after
  obtain ⟨⟨x0, q0⟩, p0⟩ := (h.rN.same hwo) j hj
  obtain ⟨⟨x1, q1⟩, p1⟩ := (h.rR.same hwo) j hj
  obtain ⟨⟨x2, q2⟩, p2⟩ := (h.rW.same hwo) j hj
  obtain ⟨⟨x3, q3⟩, p3⟩ := (h.rP.same hwo) (j * 2) (by omega)
  obtain ⟨⟨x4, q4⟩, p4⟩ := (h.rP.same hwo) (j * 2 + 1) (by omega)
  have hC : Chg (At4 B j) wo (w6of wi wo.heap.size B j (M j) (I j)) := by
    unfold w6of
    exact ((((((hwo.mono (fun _ h => h.elim)).setNew (Nat.le_refl _) _).setCell (.inl rfl) _).setCell (.inr (.inl rfl)) _).setCell (.inr (.inr (.inl rfl))) _).setCell (.inr (.inr (.inr (.inl rfl)))) _).setCell (.inr (.inr (.inr (.inr rfl)))) _
  have fr : ∀ b o, (w6of wi wo.heap.size B j (M j) (I j)).frozen? ⟨b, o, none⟩ = wi.frozen? ⟨b, o, none⟩ := fun b o => by
    unfold w6of
    rw [World.frozen?_setCell, World.frozen?_setCell, World.frozen?_setCell, World.frozen?_setCell, World.frozen?_setCell, World.frozen?_setCell]
  have far : ∀ b o, B + 4 ≤ b → ¬ (b = wo.heap.size ∧ o = 4) → (w6of wi wo.heap.size B j (M j) (I j)).cell? ⟨b, o, none⟩ = wi.cell? ⟨b, o, none⟩ := fun b o hb hn => by
    unfold w6of
    rw [World.cell?_setCell_other _ _ _ _ (ne_blk (by omega)), World.cell?_setCell_other _ _ _ _ (ne_blk (by omega)), World.cell?_setCell_other _ _ _ _ (ne_blk (by omega)), World.cell?_setCell_other _ _ _ _ (ne_blk (by omega)), World.cell?_setCell_other _ _ _ _ (ne_blk (by omega)),
      World.cell?_setCell_other _ _ _ _ (fun e => hn ⟨(congrArg Addr.block e).symm, (congrArg Addr.off e).symm⟩)]
  have hsz : wo.heap.size + 1 + 1 < (w6of wi wo.heap.size B j (M j) (I j)).heap.size := by
    have h1 := hin.ch.size
    rw [w1_size] at h1
    have h2 : (w6of wi wo.heap.size B j (M j) (I j)).heap.size = wi.heap.size := by simp [w6of, World.setCell]
    omega
  refine ⟨h.step hj hC ?_ ?_ ?_ ?_ ?_ ⟨?_, ?_, ?_, ?_⟩ ?_ ?_ ?_ ⟨hb4, by omega, by omega⟩ (by omega) hsz ⟨Nat.le_refl _, by omega, by omega⟩, hC⟩
  · unfold w6of
    rw [World.cell?_setCell_other _ _ _ _ (ne_blk (by omega)), World.cell?_setCell_other _ _ _ _ (ne_blk (by omega)), World.cell?_setCell_other _ _ _ _ (ne_blk (by omega)), World.cell?_setCell_other _ _ _ _ (ne_blk (by omega))]
    refine World.cell?_setCell_same _ _ _ (u := x0) ?_
    rw [World.cell?_setCell_other _ _ _ _ (ne_blk (by omega))]; exact q0
  · unfold w6of
    rw [World.cell?_setCell_other _ _ _ _ (ne_blk (by omega)), World.cell?_setCell_other _ _ _ _ (ne_blk (by omega)), World.cell?_setCell_other _ _ _ _ (ne_blk (by omega))]
    refine World.cell?_setCell_same _ _ _ (u := x1) ?_
    rw [World.cell?_setCell_other _ _ _ _ (ne_blk (by omega)), World.cell?_setCell_other _ _ _ _ (ne_blk (by omega))]; exact q1
  · unfold w6of
    rw [World.cell?_setCell_other _ _ _ _ (ne_blk (by omega)), World.cell?_setCell_other _ _ _ _ (ne_blk (by omega))]
    refine World.cell?_setCell_same _ _ _ (u := x2) ?_
    rw [World.cell?_setCell_other _ _ _ _ (ne_blk (by omega)), World.cell?_setCell_other _ _ _ _ (ne_blk (by omega)), World.cell?_setCell_other _ _ _ _ (ne_blk (by omega))]; exact q2
  · unfold w6of
    rw [World.cell?_setCell_other _ _ _ _ (ne_off (by omega))]
    refine World.cell?_setCell_same _ _ _ (u := x3) ?_
    rw [World.cell?_setCell_other _ _ _ _ (ne_blk (by omega)), World.cell?_setCell_other _ _ _ _ (ne_blk (by omega)), World.cell?_setCell_other _ _ _ _ (ne_blk (by omega)), World.cell?_setCell_other _ _ _ _ (ne_blk (by omega))]; exact q3
  · unfold w6of
    refine World.cell?_setCell_same _ _ _ (u := x4) ?_
    rw [World.cell?_setCell_other _ _ _ _ (ne_off (by omega)), World.cell?_setCell_other _ _ _ _ (ne_blk (by omega)), World.cell?_setCell_other _ _ _ _ (ne_blk (by omega)), World.cell?_setCell_other _ _ _ _ (ne_blk (by omega)), World.cell?_setCell_other _ _ _ _ (ne_blk (by omega))]; exact q4
  · rw [far _ _ hb4 (by omega)]; exact n0
  · rw [far _ _ hb4 (by omega)]; exact n2
  · rw [fr]; exact nf 0
  · rw [fr]; exact nf 2
  · unfold w6of
    rw [World.cell?_setCell_other _ _ _ _ (ne_blk (by omega)), World.cell?_setCell_other _ _ _ _ (ne_blk (by omega)), World.cell?_setCell_other _ _ _ _ (ne_blk (by omega)), World.cell?_setCell_other _ _ _ _ (ne_blk (by omega)), World.cell?_setCell_other _ _ _ _ (ne_blk (by omega))]
    exact World.cell?_setCell_same _ _ _ n4
  · intro t ht; rw [far _ _ (by omega) (by omega)]; exact hin.it t ht
  · intro t ht; rw [far _ _ (by omega) (by omega)]; exact hin.rs t ht


/-- The bounds of the indices. -/
theorem iz_bounds (Z0 Z1 : Nat → Int) (k n1 j : Nat) : -1 ≤ Iz Z0 Z1 k n1 j ∧ (Mz Z0 j ≤ 4 → Iz Z0 Z1 k n1 j ≤ 4) ∧ (j + 1 < k → 0 ≤ Iz Z0 Z1 k n1 j ∧ Iz Z0 Z1 k n1 j ≤ Mz Z0 j) ∧ (j + 1 = k → Iz Z0 Z1 k n1 j < Mz Z0 j) := by
  unfold Iz
  have h1 := Int.emod_nonneg (if j < n1 then Z1 j else 0) (show ((Mz Z0 j : Nat) : Int) + 1 ≠ 0 by omega)
  have h2 := Int.emod_lt_of_pos (if j < n1 then Z1 j else 0) (show (0 : Int) < (Mz Z0 j : Nat) + 1 by omega)
  by_cases h : j + 1 = k
  · rw [if_pos h]; omega
  · rw [if_neg h]; omega
theorem mz_le (Z0 : Nat → Int) (j : Nat) : Mz Z0 j ≤ 4 := by unfold Mz; omega

/-- The cursor as it is made. -/
def curObj (bp k : Nat) (lv : Option Addr) : Obj := .cells #[.pointer none, .int .u64 0, .int .u64 0, .slice (some ⟨bp, 0, none⟩) k k, .pointer lv] 57

/-- What the model and the checks read. -/
structure MF (w : World) (B k : Nat) (M : Nat → Nat) (I : Nat → Int) (Nb Rb : Nat → Nat) (Rp : Nat → Nat → Nat) : Prop where
  nd : ∀ x, x < k → w.cell? ⟨B, x, none⟩ = some (.pointer (some ⟨Nb x, 0, none⟩))
  rc : ∀ x, x < k → w.cell? ⟨B + 1, x, none⟩ = some (.slice (some ⟨Rb x, 0, none⟩) (M x) (M x))
  wi : ∀ x, x < k → w.cell? ⟨B + 1 + 1, x, none⟩ = some (.int .i64 (I x))
  rs : ∀ x t, x < k → t < M x → w.cell? ⟨Rb x, t, none⟩ = some (.pointer (some ⟨Rp x t, 0, none⟩))
theorem Blt.mf {wo V : World} {B k : Nat} {M : Nat → Nat} {I : Nat → Int} {Nb Ib Rb : Nat → Nat} {Rp : Nat → Nat → Nat} (h : Blt wo B k k M I Nb Ib Rb Rp) {A : Addr → Prop} (hc : Chg A wo V) (hA : ∀ x, A x → ∃ y, y < k ∧ x.block = Nb y) : MF V B k M I Nb Rb Rp := by
  have old : ∀ {b o : Nat} {v : Value}, wo.cell? ⟨b, o, none⟩ = some v → (∀ y, y < k → ¬ b = Nb y) → V.cell? ⟨b, o, none⟩ = some v := fun hv hn => by
    rw [hc.cell _ _ (lt_of_cell hv) (fun hx => by obtain ⟨y, hy, e⟩ := hA _ hx; exact hn y hy e)]; exact hv
  refine ⟨fun x hx => old (h.nd x hx) (fun y hy e => ?_), fun x hx => old (h.rc x hx) (fun y hy e => ?_), fun x hx => old (h.wi x hx) (fun y hy e => ?_), fun x t hx ht => old (h.rs x t hx ht) (fun y hy => h.dj x y hx hy)⟩
  all_goals (have := (h.hi y hy).1; omega)

theorem mf_kept {w w' : World} {B k bc : Nat} {M : Nat → Nat} {I : Nat → Int} {Nb Rb : Nat → Nat} {Rp : Nat → Nat → Nat} {hl : Option Nat} (h : MF w B k M I Nb Rb Rp) (hc : Chg (May bc (B + 1 + 1 + 1) hl) w w') (h1 : B + 4 ≤ bc) (h2 : ∀ nl, hl = some nl → B + 4 ≤ nl) (x : Nat) (hx : x < k) :
    w'.cell? ⟨B, x, none⟩ = some (.pointer (some ⟨Nb x, 0, none⟩)) ∧ w'.cell? ⟨B + 1 + 1, x, none⟩ = some (.int .i64 (I x)) := by
  refine ⟨?_, ?_⟩
  · rw [hc.cell _ _ (lt_of_cell (h.nd x hx)) ?_]
    · exact h.nd x hx
    · rintro (e | ⟨e, _⟩ | ⟨_, _, e⟩)
      · simp at e; omega
      · simp at e; omega
      · have := h2 _ e; simp at this; omega
  · rw [hc.cell _ _ (lt_of_cell (h.wi x hx)) ?_]
    · exact h.wi x hx
    · rintro (e | ⟨e, _⟩ | ⟨_, _, e⟩)
      · simp at e; omega
      · simp at e
      · have := h2 _ e; simp at this; omega
theorem may_ge {B bc : Nat} {hl : Option Nat} {x : Addr} (h : May bc (B + 1 + 1 + 1) hl x) (h1 : B ≤ bc) (h2 : ∀ nl, hl = some nl → B ≤ nl) : B ≤ x.block := by
  rcases h with h | ⟨h, _⟩ | ⟨_, _, h⟩
  · omega
  · omega
  · exact h2 _ h

/-- From what was built to what the climb asks. -/
theorem Blt.fx {wo wl : World} {B k : Nat} {M : Nat → Nat} {I : Nat → Int} {Nb Ib Rb : Nat → Nat} {Rp : Nat → Nat → Nat} (h : Blt wo B k k M I Nb Ib Rb Rp) {A : Addr → Prop} (hc : Chg A wo wl) (hA : ∀ x, A x → B + 4 ≤ x.block ∧ (x.off = 0 ∨ x.off = 2)) (hs : wl.heap.size = wo.heap.size)
    {cur0 : Int} (hcur : 0 < k → cur0 = I (k - 1)) (lv : Option Addr) (hb4 : B + 4 ≤ wo.heap.size) :
    Fx (wl.alloc (curObj (B + 1 + 1 + 1) k lv)) wl.heap.size (B + 1 + 1 + 1) k I M Nb Ib Rp k cur0 lv := by
  have old : ∀ {b o : Nat} {v : Value}, wo.cell? ⟨b, o, none⟩ = some v → ¬ A ⟨b, o, none⟩ → (wl.alloc (curObj (B + 1 + 1 + 1) k lv)).cell? ⟨b, o, none⟩ = some v := fun hv hn => by
    have hb := lt_of_cell hv
    rw [World.cell?_alloc_past _ _ _ (by omega), hc.cell _ _ hb hn]; exact hv
  have nB : ∀ {b o : Nat}, b < B + 4 → ¬ A ⟨b, o, none⟩ := fun hb hx => by have := (hA _ hx).1; simp at this; omega
  have n4 : ∀ {b : Nat}, ¬ A ⟨b, 4, none⟩ := fun hx => by have := (hA _ hx).2; simp at this
  refine ⟨World.cell?_alloc_at _ _ _ _ rfl, World.frozen?_alloc_at _ _ _ _ rfl, World.cell?_alloc_at _ _ _ _ rfl, fun j hj => old (h.pn j hj) (nB (by omega)), fun j hj => ?_, fun j hj => ?_, fun j hj => old (h.n4 j hj) n4, fun j t hj ht => old (h.it j t hj ht) (fun hx => by have := (hA _ hx).2; simp at this; omega), by omega, fun j hj => ?_, fun j hj => ?_⟩
  · rw [old (h.pi j hj) (nB (by omega))]
    by_cases e : j + 1 = k
    · rw [if_pos e, hcur (by omega), show k - 1 = j by omega]
    · rw [if_neg e]
  · obtain ⟨⟨v, hv⟩, hf⟩ := h.rP (j * 2 + 1) (by omega)
    have hb := lt_of_cell hv
    rw [World.frozen?_alloc_past _ _ _ (by omega), hc.fro _ _ hb]; exact hf
  · have h1 := lt_of_cell (h.n4 j hj)
    have h2 := (h.hi j hj).1
    omega
  · have h1 := h.li j hj
    have h2 := (h.hi j hj).2.1
    omega
end Go.Proofs.Ybulkcyze
