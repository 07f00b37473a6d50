import Derived.Test.YbulkcyzeL1
import Derived.RegionTactic
import Derived.Deep.QuietTactic
import Derived.BigQuiet
import Derived.LaidEqlPtr
namespace Go.Proofs.Ybulkcyze
open Go.RowKit

theorem eq28 (a : Addr) (w : World) : (binOp .eql 28 (.pointer (some a)) (.pointer (some a))).run Yba.prog w = .ok (.bool true) w := by
  obtain ⟨j, hj⟩ := Option.isSome_iff_exists.1 (show (Yba.prog.info? 38).isSome = true by kernel_rfl)
  exact run_eql_ptr_same w a Yba.underlying28 hj
theorem eq40 (a : Addr) (w : World) : (binOp .eql 40 (.pointer (some a)) (.pointer (some a))).run Yba.prog w = .ok (.bool true) w := by
  obtain ⟨j, hj⟩ := Option.isSome_iff_exists.1 (show (Yba.prog.info? 49).isSome = true by kernel_rfl)
  exact run_eql_ptr_same w a Yba.underlying40 hj
theorem run_neq_ptr_same {P : Program} (w : World) {tp te : TypeId} {j : TypeInfo} (a : Addr) (hp : P.underlying tp = some (.pointer te)) (hte : P.info? te = some j) :
    (binOp .neq tp (.pointer (some a)) (.pointer (some a))).run P w = .ok (.bool false) w := by
  have h : ∀ d : Nat, (Op.equalIn (d + 1) tp (.pointer (some a)) (.pointer (some a))).run P w = .ok true w := fun d => by
    simp [Op.equalIn, run_underlying hp, sizeOf, typeInfo, hte, run_sameAddr_same]
  simp only [binOp]
  simp [Op.equal, Op.maxDepth, h 9999]
theorem ne28 (a : Addr) (w : World) : (binOp .neq 28 (.pointer (some a)) (.pointer (some a))).run Yba.prog w = .ok (.bool false) w := by
  obtain ⟨j, hj⟩ := Option.isSome_iff_exists.1 (show (Yba.prog.info? 38).isSome = true by kernel_rfl)
  exact run_neq_ptr_same w a Yba.underlying28 hj

/-- Where the climb ends: how many steps are left, and the last one's index. -/
def fin (I : Nat → Int) : Nat → Int → Nat × Int
  | 0, c => (0, c)
  | d + 1, c => if 0 ≤ c then (d + 1, c) else fin I d (if 0 < d then I (d - 1) - 1 else c)

set_option maxRecDepth 100000 in
set_option maxHeartbeats 400000 in
/-- release, the cursor holding a leaf. -/
theorem release_leaf (bc nb : Nat) (ed sh : Int) (w : World) (hne : ¬ nb = bc) (h2 : w.cell? ⟨bc, 2, none⟩ = some (.int .u64 sh)) (h4 : w.cell? ⟨bc, 4, none⟩ = some (.pointer (some ⟨nb, 0, none⟩)))
    (f2 : w.frozen? ⟨bc, 2, none⟩ = false) (f4 : w.frozen? ⟨bc, 4, none⟩ = false) (n0 : w.cell? ⟨nb, 0, none⟩ = some (.int .i32 1)) (n2 : w.cell? ⟨nb, 2, none⟩ = some (.int .u64 ed)) (g0 : w.frozen? ⟨nb, 0, none⟩ = false) :
    Calls Yba.prog 14 #[.pointer (some ⟨bc, 0, none⟩)] w fun e w' => e = .returned (.tuple #[]) ∧ w' = ((w.setCell ⟨bc, 2, none⟩ (.int .u64 ed)).setCell ⟨nb, 0, none⟩ (.int .i32 0)).setCell ⟨bc, 4, none⟩ (.pointer none) := by
  have hne' : ¬ bc = nb := fun e => hne e.symm
  go_enter Yba.func14, Yba.ntmps14
  go_wp2_with fail
  refine (unlock_held nb 0 _ ?_ ?_).mono ?_
  · rw [World.cell?_setCell_other _ _ _ _ (fun e => hne' (congrArg Addr.block e))]; exact n0
  · rw [World.frozen?_setCell]; exact g0
  rintro e w' ⟨rfl, rfl⟩
  go_wp2
  first | go_end0 | refine bodyPost_ret (results_none rfl _ _ _) rfl ?_
  exact ⟨rfl, rfl⟩

/-- What the climb reads and writes: the cursor (block bc), the path's row (block bp), the nodes (Nb j) and their items (Ib j, M j of them), the records (Rp j t). d steps are left, the last one's index is cur. -/
structure Fx (w : World) (bc bp k : Nat) (I : Nat → Int) (M Nb Ib : Nat → Nat) (Rp : Nat → Nat → Nat) (d : Nat) (cur : Int) (lf : Option Addr) : Prop where
  p : w.cell? ⟨bc, 3, none⟩ = some (.slice (some ⟨bp, 0, none⟩) d k)
  fp : w.frozen? ⟨bc, 3, none⟩ = false
  l : w.cell? ⟨bc, 4, none⟩ = some (.pointer lf)
  pn : ∀ j, j < k → w.cell? ⟨bp, j * 2, none⟩ = some (.pointer (some ⟨Nb j, 0, none⟩))
  pi : ∀ j, j < d → w.cell? ⟨bp, j * 2 + 1, none⟩ = some (.int .i64 (if j + 1 = d then cur else I j))
  fi : ∀ j, j < k → w.frozen? ⟨bp, j * 2 + 1, none⟩ = false
  n4 : ∀ j, j < k → w.cell? ⟨Nb j, 4, none⟩ = some (.slice (some ⟨Ib j, 0, none⟩) (M j) (M j))
  it : ∀ j t, j < k → t < M j → w.cell? ⟨Ib j, t * 2 + 1, none⟩ = some (.pointer (some ⟨Rp j t, 0, none⟩))
  ne : ¬ bc = bp
  nN : ∀ j, j < k → ¬ Nb j = bc ∧ ¬ Nb j = bp
  nI : ∀ j, j < k → ¬ Ib j = bc ∧ ¬ Ib j = bp

/-- Of the old cells none has turned but those of A. -/
structure Chg (A : Addr → Prop) (w W : World) : Prop where
  os : W.os = w.os
  tape : W.tape = w.tape
  output : W.output = w.output
  size : w.heap.size ≤ W.heap.size
  cell : ∀ b o, b < w.heap.size → ¬ A ⟨b, o, none⟩ → W.cell? ⟨b, o, none⟩ = w.cell? ⟨b, o, none⟩
  fro : ∀ b o, b < w.heap.size → W.frozen? ⟨b, o, none⟩ = w.frozen? ⟨b, o, none⟩
  blk : ∀ i, i < w.heap.size → (∀ o, ¬ A ⟨i, o, none⟩) → W.heap[i]? = w.heap[i]?

theorem Chg.refl (A : Addr → Prop) (w : World) : Chg A w w := ⟨rfl, rfl, rfl, Nat.le_refl _, fun _ _ _ _ => rfl, fun _ _ _ => rfl, fun _ _ _ => rfl⟩
theorem Chg.trans {A : Addr → Prop} {a b c : World} (h : Chg A a b) (k : Chg A b c) : Chg A a c :=
  ⟨k.os.trans h.os, k.tape.trans h.tape, k.output.trans h.output, Nat.le_trans h.size k.size, fun i o hi hA => (k.cell i o (Nat.lt_of_lt_of_le hi h.size) hA).trans (h.cell i o hi hA),
   fun i o hi => (k.fro i o (Nat.lt_of_lt_of_le hi h.size)).trans (h.fro i o hi), fun i hi hA => (k.blk i (Nat.lt_of_lt_of_le hi h.size) hA).trans (h.blk i hi hA)⟩
theorem Chg.mono {A B : Addr → Prop} {a b : World} (h : Chg A a b) (hAB : ∀ x, A x → B x) : Chg B a b :=
  ⟨h.os, h.tape, h.output, h.size, fun i o hi hB => h.cell i o hi (fun x => hB (hAB _ x)), h.fro, fun i hi hB => h.blk i hi (fun o x => hB o (hAB _ x))⟩
theorem Chg.drewN {A : Addr → Prop} {a b : World} (h : Chg A a b) (n : Nat) : Chg A a (b.drewN n) := ⟨h.os, h.tape, h.output, h.size, h.cell, h.fro, h.blk⟩
theorem Chg.drew {A : Addr → Prop} {a b : World} (h : Chg A a b) : Chg A a b.drew := ⟨h.os, h.tape, h.output, h.size, h.cell, h.fro, h.blk⟩
theorem Chg.alloc {A : Addr → Prop} {a b : World} (h : Chg A a b) (o : Obj) : Chg A a (b.alloc o) :=
  h.trans ⟨rfl, rfl, rfl, by simp, fun i p hi _ => World.cell?_alloc_past _ _ _ hi, fun i p hi => World.frozen?_alloc_past _ _ _ hi, fun i hi _ => Below.heap_alloc _ _ _ hi⟩
theorem Chg.setCell {A : Addr → Prop} {a b : World} (h : Chg A a b) {bl of : Nat} (hA : A ⟨bl, of, none⟩) (u : Value) : Chg A a (b.setCell ⟨bl, of, none⟩ u) :=
  h.trans ⟨rfl, rfl, rfl, by simp [World.setCell], fun i p _ hnA => World.cell?_setCell_other _ _ _ _ (fun e => hnA (by rw [← e]; exact hA)), fun i p _ => World.frozen?_setCell _ _ _ _,
    fun i _ hnA => Below.heap_setCell _ _ _ _ (fun e => hnA of (by rw [e]; exact hA))⟩
theorem Chg.below {A : Addr → Prop} {B : Nat} {a b : World} (h : Chg A a b) (hB : ∀ x : Addr, A x → B ≤ x.block) (hs : B ≤ a.heap.size) : Below B a b :=
  ⟨h.os, h.tape, h.output, h.size, fun i hi => h.blk i (Nat.lt_of_lt_of_le hi hs) (fun o x => by have := hB _ x; simp at this; omega)⟩

theorem lt_of_cell {w : World} {b o : Nat} {v : Value} (h : w.cell? ⟨b, o, none⟩ = some v) : b < w.heap.size := by
  unfold World.cell? at h
  by_cases hb : b < w.heap.size
  · exact hb
  · simp [Array.getElem?_eq_none (Nat.le_of_not_lt hb)] at h

theorem Fx.move {w W : World} {bc bp k : Nat} {I : Nat → Int} {M Nb Ib : Nat → Nat} {Rp : Nat → Nat → Nat} {d : Nat} {cur : Int} {lf : Option Addr} (h : Fx w bc bp k I M Nb Ib Rp d cur lf) {A : Addr → Prop} (hc : Chg A w W)
    (hA : ∀ x, A x → x.block = bc ∨ x.block = bp ∧ x.off % 2 = 1 ∨ x.off = 0 ∧ ¬ x.block = bp) {d' : Nat} {cur' : Int} {lf' : Option Addr} (p' : W.cell? ⟨bc, 3, none⟩ = some (.slice (some ⟨bp, 0, none⟩) d' k)) (l' : W.cell? ⟨bc, 4, none⟩ = some (.pointer lf'))
    (pi' : ∀ j, j < d' → W.cell? ⟨bp, j * 2 + 1, none⟩ = some (.int .i64 (if j + 1 = d' then cur' else I j))) : Fx W bc bp k I M Nb Ib Rp d' cur' lf' := by
  have hbc := lt_of_cell h.p
  refine ⟨p', by rw [hc.fro _ _ hbc]; exact h.fp, l', fun j hj => ?_, pi', fun j hj => ?_, fun j hj => ?_, fun j t hj ht => ?_, h.ne, h.nN, h.nI⟩
  · rw [hc.cell _ _ (lt_of_cell (h.pn j hj)) (fun x => by have := hA _ x; have := h.ne; simp at *; omega)]; exact h.pn j hj
  · rw [hc.fro _ _ (lt_of_cell (h.pn j hj))]; exact h.fi j hj
  · rw [hc.cell _ _ (lt_of_cell (h.n4 j hj)) (fun x => by have := hA _ x; have := h.nN j hj; simp at *; omega)]; exact h.n4 j hj
  · rw [hc.cell _ _ (lt_of_cell (h.it j t hj ht)) (fun x => by have := hA _ x; have := h.nI j hj; simp at *; omega)]; exact h.it j t hj ht

/-- The leaf's lock and the cursor's note of its edits: held. -/
structure Held (w : World) (bc nl : Nat) (ed : Int) : Prop where
  s : w.cell? ⟨nl, 0, none⟩ = some (.int .i32 1)
  e : w.cell? ⟨nl, 2, none⟩ = some (.int .u64 ed)
  c : ∃ sh : Int, w.cell? ⟨bc, 2, none⟩ = some (.int .u64 sh)
  fs : w.frozen? ⟨nl, 0, none⟩ = false
  fc : w.frozen? ⟨bc, 2, none⟩ = false
  fl : w.frozen? ⟨bc, 4, none⟩ = false
/-- .. let go. -/
structure Freed (w : World) (bc nl : Nat) (ed : Int) : Prop where
  s : w.cell? ⟨nl, 0, none⟩ = some (.int .i32 0)
  c : w.cell? ⟨bc, 2, none⟩ = some (.int .u64 ed)
  fs : w.frozen? ⟨nl, 0, none⟩ = false

/-- Where the leaf's lock stands, d of k steps left. -/
def Lk (w : World) (bc k d : Nat) (hl : Option Nat) (ed : Int) (lv : Option Addr) : Prop :=
  (lv = none ∧ (hl = none ∨ d < k ∧ ∃ nl, hl = some nl ∧ Freed w bc nl ed)) ∨ ∃ nl, hl = some nl ∧ lv = some ⟨nl, 0, none⟩ ∧ d = k ∧ Held w bc nl ed

/-- What may turn in the climb. -/
def May (bc bp : Nat) (hl : Option Nat) (a : Addr) : Prop := a.block = bc ∨ a.block = bp ∧ a.off % 2 = 1 ∨ a.off = 0 ∧ ¬ a.block = bp ∧ hl = some a.block
end Go.Proofs.Ybulkcyze
