import Derived.Test.YbulkcyzeL3
namespace Go.Proofs.Ybulkcyze
open Go.RowKit

/-- A new row of n zero elements, as 'make' lays it. -/
def mkObj (z : Value) (size : Nat) (e : TypeId) (n : Nat) : Obj := .cells (madeCells z.cells (n * size)) e
theorem mk_run {t e : TypeId} {z : Value} {size bytes : Nat} (ht : Yba.prog.underlying t = some (.slice e)) (hinfo : (Yba.prog.info? e).map (fun i => (i.zero, i.size, i.bytes)) = some (some z, size, bytes)) (hb : bytes ≤ 1000) {n : Nat} (hn : n ≤ 1024) (w : World) :
    (Instr.makeSlice t (.int .i64 (n : Int)) (.int .i64 (n : Int))).run Yba.prog w = .ok (.slice (some ⟨w.heap.size, 0, none⟩) n n) (w.alloc (mkObj z size e n)) := by
  obtain ⟨i, hi, hz0, hz1, hz2⟩ := info_parts hinfo
  have hbb : (i.bytes : Int) * (n : Int) ≤ 281474976710656 := by
    rw [hz2]
    have : bytes * n ≤ 1000 * 1024 := Nat.mul_le_mul hb hn
    have h2 : ((bytes * n : Nat) : Int) ≤ 281474976710656 := by omega
    rwa [Int.natCast_mul] at h2
  have := run_make (P := Yba.prog) w t e i z ht hi hz0 .i64 .i64 n n (by omega) (Int.le_refl _) hbb (by omega)
  simp only [Int.toNat_natCast, hz1] at this
  exact this
theorem info28 : (Yba.prog.info? 28).map (fun i => (i.zero, i.size, i.bytes)) = some (some (.pointer none), 1, 8) := by kernel_rfl
theorem info39 : (Yba.prog.info? 39).map (fun i => (i.zero, i.size, i.bytes)) = some (some (.slice none 0 0), 1, 24) := by kernel_rfl
theorem info3 : (Yba.prog.info? 3).map (fun i => (i.zero, i.size, i.bytes)) = some (some (.int .i64 0), 1, 8) := by kernel_rfl
theorem info53 : (Yba.prog.info? 53).map (fun i => (i.zero, i.size, i.bytes)) = some (some (.agg #[.pointer none, .int .i64 0]), 2, 16) := by kernel_rfl
theorem info51 : (Yba.prog.info? 51).map (fun i => (i.zero, i.size, i.bytes)) = some (some (.agg #[.int .u64 0, .pointer none]), 2, 16) := by kernel_rfl
theorem info40 : (Yba.prog.info? 40).map (fun i => (i.zero, i.size, i.bytes)) = some (some (.pointer none), 1, 8) := by kernel_rfl

/-- n cells are there from the block's head on, and may be written. -/
def Row (w : World) (b n : Nat) : Prop := ∀ o, o < n → (∃ v, w.cell? ⟨b, o, none⟩ = some v) ∧ w.frozen? ⟨b, o, none⟩ = false
theorem Row.lt {w : World} {b n : Nat} (h : Row w b n) (h0 : 0 < n) : b < w.heap.size := by obtain ⟨⟨v, hv⟩, _⟩ := h 0 h0; exact lt_of_cell hv
theorem row_mk (w : World) (z : Value) (size : Nat) (e : TypeId) (n : Nat) : Row (w.alloc (mkObj z size e n)) w.heap.size (n * size) := by
  intro o ho
  refine ⟨?_, World.frozen?_alloc_at _ _ _ _ rfl⟩
  rw [mkObj, World.cell?_alloc_at _ _ _ _ rfl, Array.getElem?_eq_getElem (by rw [size_madeCells]; exact ho)]
  exact ⟨_, rfl⟩
/-- A row stays a row whatever is stored where. -/
theorem Row.setCell {w : World} {b n : Nat} (h : Row w b n) (a : Addr) (u : Value) : Row (w.setCell a u) b n := by
  intro o ho
  obtain ⟨⟨v, hv⟩, hf⟩ := h o ho
  refine ⟨?_, by rw [World.frozen?_setCell]; exact hf⟩
  by_cases e : a = ⟨b, o, none⟩
  · subst e; exact ⟨u, World.cell?_setCell_same _ _ _ hv⟩
  · exact ⟨v, by rw [World.cell?_setCell_other _ _ _ _ e]; exact hv⟩
theorem Row.alloc {w : World} {b n : Nat} (h : Row w b n) (o : Obj) : Row (w.alloc o) b n := by
  intro x hx
  obtain ⟨⟨v, hv⟩, hf⟩ := h x hx
  have hb := lt_of_cell hv
  exact ⟨⟨v, by rw [World.cell?_alloc_past _ _ _ hb]; exact hv⟩, by rw [World.frozen?_alloc_past _ _ _ hb]; exact hf⟩

/-- What the law has built by round j: the nodes (block Nb x), their items (Ib x) and records (Rb x, Rp x t). -/
structure Blt (w : World) (B k j : Nat) (M : Nat → Nat) (I : Nat → Int) (Nb Ib Rb : Nat → Nat) (Rp : Nat → Nat → Nat) : Prop where
  rN : Row w B k
  rR : Row w (B + 1) k
  rW : Row w (B + 1 + 1) k
  rP : Row w (B + 1 + 1 + 1) (k * 2)
  nd : ∀ x, x < j → w.cell? ⟨B, x, none⟩ = some (.pointer (some ⟨Nb x, 0, none⟩))
  rc : ∀ x, x < j → w.cell? ⟨B + 1, x, none⟩ = some (.slice (some ⟨Rb x, 0, none⟩) (M x) (M x))
  wi : ∀ x, x < j → w.cell? ⟨B + 1 + 1, x, none⟩ = some (.int .i64 (I x))
  pn : ∀ x, x < j → w.cell? ⟨B + 1 + 1 + 1, x * 2, none⟩ = some (.pointer (some ⟨Nb x, 0, none⟩))
  pi : ∀ x, x < j → w.cell? ⟨B + 1 + 1 + 1, x * 2 + 1, none⟩ = some (.int .i64 (I x))
  n0 : ∀ x, x < j → w.cell? ⟨Nb x, 0, none⟩ = some (.int .i32 0) ∧ w.cell? ⟨Nb x, 2, none⟩ = some (.int .u64 0) ∧ w.frozen? ⟨Nb x, 0, none⟩ = false ∧ w.frozen? ⟨Nb x, 2, none⟩ = false
  n4 : ∀ x, x < j → w.cell? ⟨Nb x, 4, none⟩ = some (.slice (some ⟨Ib x, 0, none⟩) (M x) (M x))
  it : ∀ x t, x < j → t < M x → w.cell? ⟨Ib x, t * 2 + 1, none⟩ = some (.pointer (some ⟨Rp x t, 0, none⟩))
  rs : ∀ x t, x < j → t < M x → w.cell? ⟨Rb x, t, none⟩ = some (.pointer (some ⟨Rp x t, 0, none⟩))
  hi : ∀ x, x < j → B + 4 ≤ Nb x ∧ B + 4 ≤ Ib x ∧ B + 4 ≤ Rb x
  li : ∀ x, x < j → Ib x < w.heap.size
  lr : ∀ x, x < j → Rb x < w.heap.size
  dj : ∀ x y, x < j → y < j → ¬ Rb x = Nb y

theorem blt_start (w : World) (k : Nat) (M : Nat → Nat) (I : Nat → Int) (Nb Ib Rb : Nat → Nat) (Rp : Nat → Nat → Nat) :
    Blt ((((w.alloc (mkObj (.pointer none) 1 28 k)).alloc (mkObj (.slice none 0 0) 1 39 k)).alloc (mkObj (.int .i64 0) 1 3 k)).alloc (mkObj (.agg #[.pointer none, .int .i64 0]) 2 53 k)) w.heap.size k 0 M I Nb Ib Rb Rp := by
  refine ⟨?_, ?_, ?_, ?_, fun x hx => absurd hx (Nat.not_lt_zero _), fun x hx => absurd hx (Nat.not_lt_zero _), fun x hx => absurd hx (Nat.not_lt_zero _), fun x hx => absurd hx (Nat.not_lt_zero _), fun x hx => absurd hx (Nat.not_lt_zero _),
    fun x hx => absurd hx (Nat.not_lt_zero _), fun x hx => absurd hx (Nat.not_lt_zero _), fun x _ hx => absurd hx (Nat.not_lt_zero _), fun x _ hx => absurd hx (Nat.not_lt_zero _), fun x hx => absurd hx (Nat.not_lt_zero _), fun x hx => absurd hx (Nat.not_lt_zero _), fun x hx => absurd hx (Nat.not_lt_zero _), fun x _ hx => absurd hx (Nat.not_lt_zero _)⟩
  · have := row_mk w (.pointer none) 1 28 k; rw [Nat.mul_one] at this; exact ((this.alloc _).alloc _).alloc _
  · have := row_mk (w.alloc (mkObj (.pointer none) 1 28 k)) (.slice none 0 0) 1 39 k
    rw [Nat.mul_one] at this; simpa using (this.alloc _).alloc _
  · have := row_mk ((w.alloc (mkObj (.pointer none) 1 28 k)).alloc (mkObj (.slice none 0 0) 1 39 k)) (.int .i64 0) 1 3 k
    rw [Nat.mul_one] at this; simpa using this.alloc _
  · have := row_mk (((w.alloc (mkObj (.pointer none) 1 28 k)).alloc (mkObj (.slice none 0 0) 1 39 k)).alloc (mkObj (.int .i64 0) 1 3 k)) (.agg #[.pointer none, .int .i64 0]) 2 53 k
    simpa using this

def up {α : Type} (f : Nat → α) (j : Nat) (v : α) : Nat → α := fun x => if x = j then v else f x
theorem up_same {α : Type} (f : Nat → α) (j : Nat) (v : α) : up f j v j = v := if_pos rfl
theorem up_other {α : Type} (f : Nat → α) {j x : Nat} (v : α) (h : x ≠ j) : up f j v x = f x := if_neg h

/-- The cells of the four rows that round j writes. -/
def At4 (B j : Nat) (a : Addr) : Prop := a = ⟨B, j, none⟩ ∨ a = ⟨B + 1, j, none⟩ ∨ a = ⟨B + 1 + 1, j, none⟩ ∨ a = ⟨B + 1 + 1 + 1, j * 2, none⟩ ∨ a = ⟨B + 1 + 1 + 1, j * 2 + 1, none⟩

theorem Blt.step {w W : World} {B k j : Nat} {M : Nat → Nat} {I : Nat → Int} {Nb Ib Rb : Nat → Nat} {Rp : Nat → Nat → Nat} (h : Blt w B k j M I Nb Ib Rb Rp) (hj : j < k) (hC : Chg (At4 B j) w W) {nb ib rb : Nat} {rp : Nat → Nat}
    (nd : W.cell? ⟨B, j, none⟩ = some (.pointer (some ⟨nb, 0, none⟩))) (rc : W.cell? ⟨B + 1, j, none⟩ = some (.slice (some ⟨rb, 0, none⟩) (M j) (M j))) (wi : W.cell? ⟨B + 1 + 1, j, none⟩ = some (.int .i64 (I j)))
    (pn : W.cell? ⟨B + 1 + 1 + 1, j * 2, none⟩ = some (.pointer (some ⟨nb, 0, none⟩))) (pi : W.cell? ⟨B + 1 + 1 + 1, j * 2 + 1, none⟩ = some (.int .i64 (I j)))
    (n0 : W.cell? ⟨nb, 0, none⟩ = some (.int .i32 0) ∧ W.cell? ⟨nb, 2, none⟩ = some (.int .u64 0) ∧ W.frozen? ⟨nb, 0, none⟩ = false ∧ W.frozen? ⟨nb, 2, none⟩ = false) (n4 : W.cell? ⟨nb, 4, none⟩ = some (.slice (some ⟨ib, 0, none⟩) (M j) (M j)))
    (it : ∀ t, t < M j → W.cell? ⟨ib, t * 2 + 1, none⟩ = some (.pointer (some ⟨rp t, 0, none⟩))) (rs : ∀ t, t < M j → W.cell? ⟨rb, t, none⟩ = some (.pointer (some ⟨rp t, 0, none⟩))) (hi : B + 4 ≤ nb ∧ B + 4 ≤ ib ∧ B + 4 ≤ rb) (li : ib < W.heap.size) (lr : rb < W.heap.size) (dn : w.heap.size ≤ nb ∧ w.heap.size ≤ rb ∧ ¬ rb = nb) :
    Blt W B k (j + 1) M I (up Nb j nb) (up Ib j ib) (up Rb j rb) (up Rp j rp) := by
  have row : ∀ b n, Row w b n → (∀ o, o < n → At4 B j ⟨b, o, none⟩ → ∃ v, W.cell? ⟨b, o, none⟩ = some v) → Row W b n := fun b n hr hx o ho => by
    obtain ⟨⟨v, hv⟩, hf⟩ := hr o ho
    have hb := lt_of_cell hv
    refine ⟨?_, by rw [hC.fro _ _ hb]; exact hf⟩
    by_cases hA : At4 B j ⟨b, o, none⟩
    · exact hx o ho hA
    · exact ⟨v, by rw [hC.cell _ _ hb hA]; exact hv⟩
  have some_at : ∀ b o, At4 B j ⟨b, o, none⟩ → ∃ v, W.cell? ⟨b, o, none⟩ = some v := by
    rintro b o (e | e | e | e | e) <;> (simp at e; obtain ⟨rfl, rfl⟩ := e)
    · exact ⟨_, nd⟩
    · exact ⟨_, rc⟩
    · exact ⟨_, wi⟩
    · exact ⟨_, pn⟩
    · exact ⟨_, pi⟩
  have old : ∀ {b o : Nat} {v : Value}, w.cell? ⟨b, o, none⟩ = some v → ¬ At4 B j ⟨b, o, none⟩ → W.cell? ⟨b, o, none⟩ = some v := fun hv hA => by rw [hC.cell _ _ (lt_of_cell hv) hA]; exact hv
  have far : ∀ {b o : Nat}, B + 4 ≤ b → ¬ At4 B j ⟨b, o, none⟩ := by
    rintro b o hb (e | e | e | e | e) <;> (simp at e; try omega)
  have cases : ∀ {p : Nat → Prop}, (∀ x, x < j → p x) → p j → ∀ x, x < j + 1 → p x := fun h1 h2 x hx => by
    by_cases e : x = j
    · rw [e]; exact h2
    · exact h1 x (by omega)
  refine ⟨row _ _ h.rN (fun o _ => some_at _ _), row _ _ h.rR (fun o _ => some_at _ _), row _ _ h.rW (fun o _ => some_at _ _), row _ _ h.rP (fun o _ => some_at _ _), ?_, ?_, ?_, ?_, ?_, ?_, ?_, ?_, ?_, ?_, ?_, ?_, ?_⟩
  · refine cases (fun x hx => ?_) (by rw [up_same]; exact nd)
    rw [up_other _ _ (by omega)]
    exact old (h.nd x hx) (by rintro (e | e | e | e | e) <;> (simp at e; try omega))
  · refine cases (fun x hx => ?_) (by rw [up_same]; exact rc)
    rw [up_other _ _ (by omega)]
    exact old (h.rc x hx) (by rintro (e | e | e | e | e) <;> (simp at e; try omega))
  · refine cases (fun x hx => ?_) wi
    exact old (h.wi x hx) (by rintro (e | e | e | e | e) <;> (simp at e; try omega))
  · refine cases (fun x hx => ?_) (by rw [up_same]; exact pn)
    rw [up_other _ _ (by omega)]
    exact old (h.pn x hx) (by rintro (e | e | e | e | e) <;> (simp at e; try omega))
  · refine cases (fun x hx => ?_) pi
    exact old (h.pi x hx) (by rintro (e | e | e | e | e) <;> (simp at e; try omega))
  · refine cases (fun x hx => ?_) (by rw [up_same]; exact n0)
    rw [up_other _ _ (by omega)]
    have hh := (h.hi x hx).1
    obtain ⟨a1, a2, a3, a4⟩ := h.n0 x hx
    have hb := lt_of_cell a1
    exact ⟨old a1 (far hh), old a2 (far hh), by rw [hC.fro _ _ hb]; exact a3, by rw [hC.fro _ _ hb]; exact a4⟩
  · refine cases (fun x hx => ?_) (by rw [up_same, up_same]; exact n4)
    rw [up_other _ _ (by omega), up_other _ _ (by omega)]
    exact old (h.n4 x hx) (far (h.hi x hx).1)
  · intro x t hx ht
    by_cases e : x = j
    · subst e; rw [up_same, up_same]; exact it t ht
    · rw [up_other _ _ e, up_other _ _ e]
      exact old (h.it x t (by omega) ht) (far (h.hi x (by omega)).2.1)
  · intro x t hx ht
    by_cases e : x = j
    · subst e; rw [up_same, up_same]; exact rs t ht
    · rw [up_other _ _ e, up_other _ _ e]
      exact old (h.rs x t (by omega) ht) (far (h.hi x (by omega)).2.2)
  · refine cases (fun x hx => ?_) (by rw [up_same, up_same, up_same]; exact hi)
    rw [up_other _ _ (by omega), up_other _ _ (by omega), up_other _ _ (by omega)]
    exact h.hi x hx
  · refine cases (fun x hx => ?_) (by rw [up_same]; exact li)
    rw [up_other _ _ (by omega)]
    exact Nat.lt_of_lt_of_le (h.li x hx) hC.size
  · refine cases (fun x hx => ?_) (by rw [up_same]; exact lr)
    rw [up_other _ _ (by omega)]
    exact Nat.lt_of_lt_of_le (h.lr x hx) hC.size
  · intro x y hx hy
    by_cases e : x = j <;> by_cases e' : y = j
    · rw [e, e', up_same, up_same]; exact dn.2.2
    · rw [e, up_same, up_other _ _ e']
      have := lt_of_cell (h.n0 y (by omega)).1
      omega
    · rw [e', up_same, up_other _ _ e]
      have := h.lr x (by omega)
      omega
    · rw [up_other _ _ e, up_other _ _ e']
      exact h.dj x y (by omega) (by omega)
end Go.Proofs.Ybulkcyze
