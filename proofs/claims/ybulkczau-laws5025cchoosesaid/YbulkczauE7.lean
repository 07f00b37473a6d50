import Derived.Test.YbulkczauE6
import Derived.WalkSpells
import Derived.RegionTactic
import Derived.Deep.WholeRow
namespace Go.Proofs.Ybulkczau
open Go.RowKit Go.Maps Go.WideMaps

/-- A new row of n zero elements, as 'make' lays it. -/
def mkObj (z : Value) (size : Nat) (e : TypeId) (n : Nat) : Obj := .cells (madeCells z.cells (n * size)) e
theorem mk_run {t e : TypeId} {z : Value} {size bytes : Nat} (ht : Yba.prog.underlying t = some (.slice e)) (hinfo : (Yba.prog.info? e).map (fun i => (i.zero, i.size, i.bytes)) = some (some z, size, bytes)) (hb : bytes ≤ 1000) {n : Nat} (hn : n ≤ 1024) (w : World) :
    (Instr.makeSlice t (.int .i64 (n : Int)) (.int .i64 (n : Int))).run Yba.prog w = .ok (.slice (some ⟨w.heap.size, 0, none⟩) n n) (w.alloc (mkObj z size e n)) := by
  obtain ⟨i, hi, hz0, hz1, hz2⟩ := info_parts hinfo
  have hbb : (i.bytes : Int) * (n : Int) ≤ 281474976710656 := by
    rw [hz2]
    have : bytes * n ≤ 1000 * 1024 := Nat.mul_le_mul hb hn
    have h2 : ((bytes * n : Nat) : Int) ≤ 281474976710656 := by omega
    rwa [Int.natCast_mul] at h2
  have := run_make (P := Yba.prog) w t e i z ht hi hz0 .i64 .i64 n n (by omega) (Int.le_refl _) hbb (by omega)
  simp only [Int.toNat_natCast, hz1] at this
  exact this

/-- The literal's cells. -/
noncomputable def repl (bl ba : Int) (bm : Nat) : Array Value := (Yba.prog.built 78 [(2, .int .i64 bl), (40, .int .i64 ba), (39, .map (some bm))]).getD #[]
theorem repl_eq (bl ba : Int) (bm : Nat) : Yba.prog.built 78 [(2, .int .i64 bl), (40, .int .i64 ba), (39, .map (some bm))] = some (repl bl ba bm) := by kernel_rfl
theorem repl3 (bl ba : Int) (bm : Nat) : (repl bl ba bm)[3]? = some .nilFunc := by kernel_rfl
theorem repl17 (bl ba : Int) (bm : Nat) : (repl bl ba bm)[17]? = some (.int .i64 bl) := by kernel_rfl
theorem repl61 (bl ba : Int) (bm : Nat) : (repl bl ba bm)[61]? = some (.map (some bm)) := by kernel_rfl
theorem repl62 (bl ba : Int) (bm : Nat) : (repl bl ba bm)[62]? = some (.int .i64 ba) := by kernel_rfl
theorem wpList_repl {w : World} {ops : Array Oper} {rest : List Oper} {o : Oper} {a : Act} {Q : Exit → Act → World → Prop} (hgd : o.guard = none) (x y z : Operand)
    (ho : o.op = .build 78 #[(2, x), (40, y), (39, z)]) (bl ba : Int) (bm : Nat) (hx : a.eval x = .int .i64 bl) (hy : a.eval y = .int .i64 ba) (hz : a.eval z = .map (some bm))
    (h : wpList Yba.prog ops Q rest (a.put o.dst (.agg (repl bl ba bm))) w) : wpList Yba.prog ops Q (o :: rest) a w := by
  refine wpList_plain hgd fun K hK => ?_
  have hrun := run_build (P := Yba.prog) w 78 #[(2, .int .i64 bl), (40, .int .i64 ba), (39, .map (some bm))] _ (repl_eq bl ba bm)
  unfold Oper.wp
  simp only [execOp, ho, List.map_toArray, List.map_cons, List.map_nil, hx, hy, hz]
  simp [hrun, Result.andThen]
  exact hK _ _ h

def BSrc (w : World) (a : Option Addr) (n : Nat) (S B : Nat → Int) (V : Nat → ByteArray) : Prop :=
  (a = none ∧ n = 0) ∨ ∃ ad, a = some ad ∧ (∀ j, j < n * 3 → w.cell? (ad.add j) = some (vc S B V j)) ∧ (0 < n → ∃ b off, ad = ⟨b, off, none⟩)
def KSrc (w : World) (a : Option Addr) (n : Nat) (K : Nat → ByteArray) : Prop :=
  n = 0 ∨ 0 < n ∧ ∃ b off, a = some ⟨b, off, none⟩ ∧ ∀ i, i < n → w.cell? ⟨b, off + i, none⟩ = some (.string (K i)) ∧ (K i).size ≤ maxLen

set_option maxRecDepth 100000 in
set_option maxHeartbeats 1600000 in
theorem law_early (hc ic : Bool) (a aK : Option Addr) (n cap nK capK : Nat) (sl bl ba : Int) (v : ByteArray) (w : World) (h : 1024 < n ∨ n ≤ 1024 ∧ 1024 < nK) :
    Calls Yba.prog 4 #[.slice a n cap, .int .i64 sl, .string v, .int .i64 bl, .int .i64 ba, .slice aK nK capK, .bool hc, .bool ic] w fun e w' => e = .returned (.bool true) ∧ Below w.heap.size w w' := by
  rcases h with h | ⟨h0, h⟩
  · have h' : decide ((n : Int) > 1024) = true := by simp; omega
    go_enter Yba.func4, Yba.ntmps4
    go_wp2
    go_ret
    exact ⟨rfl, (Below.refl _ _).alloc (Nat.le_refl _) _⟩
  · have h' : decide ((n : Int) > 1024) = false := by simp; omega
    have h'' : decide ((nK : Int) > 1024) = true := by simp; omega
    go_enter Yba.func4, Yba.ntmps4
    go_wp2
    go_ret
    exact ⟨rfl, (Below.refl _ _).alloc (Nat.le_refl _) _⟩

theorem lt_of_cell_any {w : World} {a : Addr} {v : Value} (h : w.cell? a = some v) : a.block < w.heap.size := by
  unfold World.cell? at h
  by_cases hb : a.block < w.heap.size
  · exact hb
  · simp [Array.getElem?_eq_none (Nat.le_of_not_lt hb)] at h
theorem cell_alloc_any {w : World} {a : Addr} {v : Value} (o : Obj) (h : w.cell? a = some v) : (w.alloc o).cell? a = some v :=
  (World.cell?_of_block (Below.heap_alloc _ _ _ (lt_of_cell_any h))).trans h

/-- in = make(..); copy(in, batch). -/
theorem copy_new (w : World) (ic : Bool) (ad : Addr) (n cap : Nat) (S B : Nat → Int) (V : Nat → ByteArray) (hB : ∀ j, j < n * 3 → w.cell? (ad.add j) = some (vc S B V j)) :
    ∃ W, (Builtin.copy_ #[48, 48] 3 #[.slice (some ⟨w.heap.size + 1, 0, none⟩) n n, .slice (some ad) n cap]).run Yba.prog ((w.alloc (.cells #[.bool ic] 4)).alloc (mkObj (.agg #[.int .i64 0, .int .i64 0, .string ByteArray.empty]) 3 83 n)) = .ok (.int .i64 n) W ∧
      (∀ j u, (vcs S B V n)[j]? = some u → W.cell? ⟨w.heap.size + 1, j, none⟩ = some u) ∧ W.heap.size = w.heap.size + 2 ∧ Frm (fun _ => False) (w.alloc (.cells #[.bool ic] 4)) W := by
  have hg : ((w.alloc (.cells #[.bool ic] 4)).alloc (mkObj (.agg #[.int .i64 0, .int .i64 0, .string ByteArray.empty]) 3 83 n)).heap[w.heap.size + 1]? = some (.cells (madeCells (Value.agg #[.int .i64 0, .int .i64 0, .string ByteArray.empty]).cells (n * 3)) 83 (0, 0)) := by
    have := heap_alloc_last (w.alloc (.cells #[.bool ic] 4)) (mkObj (.agg #[.int .i64 0, .int .i64 0, .string ByteArray.empty]) 3 83 n)
    simpa [mkObj] using this
  refine ⟨_, run_copy3 _ 3 (w.heap.size + 1) n cap ad _ (vcs S B V n) hg (size_madeCells _ _) (vcs_length _ _ _ _) (fun j u hj => ?_) (vcs_one _ _ _ _), fun j u hj => ?_, by simp [World.setRow], ?_⟩
  · have hl : j < n * 3 := by rw [← vcs_length S B V n]; exact (List.getElem?_eq_some_iff.mp hj).1
    rw [vcs_at hl] at hj
    cases hj
    have := hB j hl
    exact cell_alloc_any _ (cell_alloc_any _ this)
  · rw [cell_setRow_same _ _ j _ _ _ _ hg]; simpa using hj
  · exact ⟨rfl, rfl, rfl, by simp [World.setRow], fun i hi _ => (setRow_other _ _ i _ (by simp at hi; omega)).trans (Below.heap_alloc _ _ _ hi)⟩

/-- What choose leaves, as the law's walk wants it. -/
structure Aft (w wr w' : World) (e : Ending) (ic : Bool) (bm n : Nat) (ao : Option Addr) (D : DataW Unit) (S B : Nat → Int) (V : Nat → ByteArray) (sl bl : Int) (v : ByteArray) (c : Bool) (z : Int) : Prop where
  out : ∃ g cap, e = .returned (.slice (some ⟨g, 0, none⟩) (n + 1) cap) ∧ ∀ j u, (vcs S B V n ++ [.int .i64 sl, .int .i64 bl, .string v])[j]? = some u → w'.cell? ⟨g, j, none⟩ = some u
  frm : Frm (fun i => bm ≤ i) (w.alloc (.cells #[.bool ic] 4)) w'
  inn : Olds w' ao (vcs S B V n)
  map : ∃ n', w'.ownsMap Yba.prog 9 boolR bm n' (chD v D)
  c17 : w'.cell? ⟨wr.heap.size + 1, 17, none⟩ = some (.int .i64 bl)
  c62 : w'.cell? ⟨wr.heap.size + 1, 62, none⟩ = some (.int .i64 z)
  calls : CallsAre w' wr.heap.size v c
  hi : w'.cell? ⟨w.heap.size, 0, none⟩ = some (.bool ic)

theorem Frm.olds {T : Nat → Prop} {a b : World} {ao : Option Addr} {olds : List Value} (hf : Frm T a b) (h : Olds a ao olds) (hT : ∀ g, ao = some ⟨g, 0, none⟩ → ¬ T g) : Olds b ao olds := fun x hx => by
  obtain ⟨g, rfl, hc⟩ := h x hx
  exact ⟨g, rfl, fun j u hj => hf.cell (hc j u hj) (hT g hx)⟩

theorem choose_here {w W wr : World} (hc ic : Bool) {bm n m : Nat} {ao : Option Addr} {D : DataW Unit} {S B : Nat → Int} {V : Nat → ByteArray} {sl bl ba : Int} {v : ByteArray} {R : Array Value} (hn : n ≤ 1024) (hm : m ≤ 1024) (hvs : v.size ≤ maxLen)
    (h3 : R[3]? = some (fn10 hc wr.heap.size w.heap.size)) (h17 : R[17]? = some (.int .i64 bl)) (h61 : R[61]? = some (.map (some bm))) (h62 : R[62]? = some (.int .i64 ba))
    (hF : Frm (fun _ => False) (w.alloc (.cells #[.bool ic] 4)) W) (hW : W.heap.size = bm) (hR : Frm (fun _ => False) W wr) (hown : wr.ownsMap Yba.prog 9 boolR bm m D)
    (hno : ao = none → n = 0) (hO : Olds W ao (vcs S B V n)) (hao : ∀ g, ao = some ⟨g, 0, none⟩ → g < bm) :
    Calls Yba.prog 11 #[.pointer (some ⟨wr.heap.size + 1, 0, none⟩), .slice ao n n, .int .i64 sl, .string v] ((wr.alloc (.cells #[.slice none 0 0] 37)).alloc (.cells R 78)) fun e w' =>
      Aft w wr w' e ic bm n ao D S B V sl bl v (hc && !v.toList.isEmpty) (if (hc && !v.toList.isEmpty) && ic then sl else ba) := by
  have hs := hown.lt
  have hsF := hF.size
  simp at hsF
  have hsR := hR.size
  have hfr : Frm (fun _ => False) W ((wr.alloc (.cells #[.slice none 0 0] 37)).alloc (.cells R 78)) := (hR.alloc _).alloc _
  have e1 : (wr.alloc (.cells #[.slice none 0 0] 37)).heap.size = wr.heap.size + 1 := by simp
  have cell : ∀ o, ((wr.alloc (.cells #[.slice none 0 0] 37)).alloc (.cells R 78)).cell? ⟨wr.heap.size + 1, o, none⟩ = R[o]? := fun o => by
    rw [← e1]; exact World.cell?_alloc_at _ _ _ _ rfl
  have hbi : W.cell? ⟨w.heap.size, 0, none⟩ = some (.bool ic) := hF.cell (World.cell?_alloc_at _ _ _ _ rfl) id
  refine (choose_all hc ic (wr.heap.size + 1) bm wr.heap.size w.heap.size m n n D ao (vcs S B V n) sl bl ba v _ hn hm hvs (by rw [cell]; exact h3) (by rw [cell]; exact h17) (by rw [cell]; exact h61) (by rw [cell]; exact h62)
    (by rw [← e1]; exact World.frozen?_alloc_at _ _ _ _ rfl) ((hown.alloc _).alloc _) (by omega) (by omega) (by omega) (by omega) (by omega) (cell_alloc_any _ (World.cell?_alloc_at _ _ _ _ rfl)) (by rw [World.frozen?_alloc_past _ _ _ (by simp)]; exact World.frozen?_alloc_at _ _ _ _ rfl)
    (hfr.cell hbi id) (by omega) (fun h => ⟨hno h, hno h⟩) (vcs_length _ _ _ _) (hfr.olds hO (fun _ _ => id)) (fun g hg => by have := hao g hg; omega)).mono ?_
  rintro e w' ⟨⟨g, cap, rfl, hg, hcs⟩, hf, hmap, c17, c62, hcalls⟩
  have hf2 : Frm (fun i => bm ≤ i) W w' := (hfr.mono (fun _ x => x.elim)).trans (hf.mono (fun i x => by omega))
  exact ⟨⟨g, cap, rfl, hcs⟩, (hF.mono (fun _ x => x.elim)).trans hf2, hf2.olds hO (fun g hg x => by have := hao g hg; omega), hmap, c17, c62, hcalls, hf2.cell hbi (by omega)⟩

end Go.Proofs.Ybulkczau
