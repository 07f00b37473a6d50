import Derived.Test.YbulkczauE4
import Derived.Laws.CopyOwn
import Derived.Maps.OwnSet
namespace Go.Proofs.Ybulkczau
open Go.RowKit Go.Maps Go.WideMaps

/-- Outside the blocks S the world is as it was. -/
structure Frm (S : Nat → Prop) (w W : World) : Prop where
  os : W.os = w.os
  tape : W.tape = w.tape
  output : W.output = w.output
  size : w.heap.size ≤ W.heap.size
  blk : ∀ i, i < w.heap.size → ¬ S i → W.heap[i]? = w.heap[i]?
theorem Frm.refl (S : Nat → Prop) (w : World) : Frm S w w := ⟨rfl, rfl, rfl, Nat.le_refl _, fun _ _ _ => rfl⟩
theorem Frm.trans {S : Nat → Prop} {a b c : World} (h : Frm S a b) (k : Frm S b c) : Frm S a c :=
  ⟨k.os.trans h.os, k.tape.trans h.tape, k.output.trans h.output, Nat.le_trans h.size k.size, fun i hi hS => (k.blk i (Nat.lt_of_lt_of_le hi h.size) hS).trans (h.blk i hi hS)⟩
theorem Frm.mono {S T : Nat → Prop} {a b : World} (h : Frm S a b) (hST : ∀ i, S i → T i) : Frm T a b := ⟨h.os, h.tape, h.output, h.size, fun i hi hT => h.blk i hi (fun x => hT (hST i x))⟩
theorem Frm.cell {S : Nat → Prop} {a b : World} (h : Frm S a b) {k o : Nat} {v : Value} (hc : a.cell? ⟨k, o, none⟩ = some v) (hS : ¬ S k) : b.cell? ⟨k, o, none⟩ = some v :=
  (World.cell?_of_block (h.blk k (lt_of_cell hc) hS)).trans hc
theorem Frm.fro {S : Nat → Prop} {a b : World} (h : Frm S a b) {k o : Nat} {v : Value} (hc : a.cell? ⟨k, o, none⟩ = some v) (hS : ¬ S k) : b.frozen? ⟨k, o, none⟩ = a.frozen? ⟨k, o, none⟩ :=
  World.frozen?_of_block (h.blk k (lt_of_cell hc) hS)
theorem Frm.below {S : Nat → Prop} {B : Nat} {a b : World} (h : Frm S a b) (hB : ∀ i, S i → B ≤ i) (hs : B ≤ a.heap.size) : Below B a b :=
  ⟨h.os, h.tape, h.output, h.size, fun i hi => h.blk i (Nat.lt_of_lt_of_le hi hs) (fun x => by have := hB i x; omega)⟩
theorem Chg.frm {A : Addr → Prop} {S : Nat → Prop} {a b : World} (h : Chg A a b) (hA : ∀ i o, A ⟨i, o, none⟩ → S i) : Frm S a b := ⟨h.os, h.tape, h.output, h.size, fun i hi hS => h.blk i hi (fun o x => hS (hA i o x))⟩
theorem frm_grown {S : Nat → Prop} {a b : World} {row : Option Nat} (h : a.grownBy b row) (hr : ∀ k, row = some k → S k) : Frm S a b := ⟨h.os, h.tape, h.output, h.size, fun i hi hS => h.block i hi (fun e => hS (hr i e.symm))⟩
theorem Frm.alloc {S : Nat → Prop} {a b : World} (h : Frm S a b) (o : Obj) : Frm S a (b.alloc o) := h.trans ⟨rfl, rfl, rfl, by simp, fun i hi _ => Below.heap_alloc _ _ _ hi⟩
theorem Frm.setCell {S : Nat → Prop} {a b : World} (h : Frm S a b) {k o : Nat} (hS : S k ∨ a.heap.size ≤ k) (u : Value) : Frm S a (b.setCell ⟨k, o, none⟩ u) :=
  ⟨h.os, h.tape, h.output, by simpa [World.setCell] using h.size, fun i hi hn => (Below.heap_setCell _ _ _ _ (fun e => by have e' : i = k := e; subst e'; rcases hS with x | x; exact hn x; omega)).trans (h.blk i hi hn)⟩

/-- copy of n elements of three cells over a row that is known whole. -/
theorem run_copy3 (w : World) (ty : TypeId) (g n cap : Nat) (a : Addr) (cur : Array Value) (cs : List Value)
    (hg : w.heap[g]? = some (.cells cur 83 (0, 0))) (hcur : cur.size = n * 3) (hn : cs.length = n * 3)
    (hsrc : ∀ j v, cs[j]? = some v → w.cell? (a.add j) = some v) (h1 : ∀ v ∈ cs, v.oneCell' = true) :
    (Builtin.copy_ #[48, 48] ty #[.slice (some ⟨g, 0, none⟩) n n, .slice (some a) n cap]).run Yba.prog w = .ok (goInt n) (w.setRow g cs.toArray) := by
  obtain ⟨i0, hi0, hz0, hz1, hz2⟩ := info_parts info83
  have hl := run_loadCells_list (P := Yba.prog) w a cs hsrc
  have hst := run_storeCells_at Yba.prog g 0 83 cs 0 cur w hg (by simp; omega) h1
  have hd : cur.toList.drop cs.length = [] := by simp; omega
  simp only [Nat.zero_add, List.take_zero, List.nil_append, hd, List.append_nil] at hst
  simp [Builtin.copy_, run_underlying Yba.underlying48, Builtin.lenOf, Builtin.firstCells, sizeOf, typeInfo, hi0, hz1, ← hn, hl, hst]

theorem wpList_copy3 {w : World} {ops : Array Oper} {rest : List Oper} {o : Oper} {a : Act} {Q : Exit → Act → World → Prop} (hgd : o.guard = none) (d s : Operand)
    (ho : o.op = .call { callee := .builtin .copy, args := #[d, s], argTypes := #[48, 48] }) (g n cap : Nat) (ad : Addr) (hd : a.eval d = .slice (some ⟨g, 0, none⟩) n n) (hs : a.eval s = .slice (some ad) n cap)
    (cur : Array Value) (hg : w.heap[g]? = some (.cells cur 83 (0, 0))) (hcur : cur.size = n * 3) (cs : List Value) (hn : cs.length = n * 3)
    (hsrc : ∀ j v, cs[j]? = some v → w.cell? (ad.add j) = some v) (h1 : ∀ v ∈ cs, v.oneCell' = true)
    (h : ∀ w', Hid (∀ j u, cs[j]? = some u → w'.cell? ⟨g, j, none⟩ = some u) → Hid (∀ (B : World), Frm (fun _ => False) B w → B.heap.size ≤ g → Frm (fun _ => False) B w') → w'.heap.size = w.heap.size →
      wpList Yba.prog ops Q rest (a.put o.dst (goInt n)) w') : wpList Yba.prog ops Q (o :: rest) a w := by
  refine wpList_plain hgd fun K hK => ?_
  have hrun := run_copy3 w o.type g n cap ad cur cs hg hcur hn hsrc h1
  unfold Oper.wp
  simp [execOp, ho, resolve, invoke, builtin, hd, hs, hrun, Result.andThen]
  refine hK _ _ (h _ ?_ ?_ (by simp [World.setRow]))
  · refine Hid.intro fun j u hj => ?_
    rw [cell_setRow_same w g j cur cs.toArray 83 (0, 0) hg]; simpa using hj
  · exact Hid.intro fun B hB hle => ⟨hB.os, hB.tape, hB.output, by simpa [World.setRow] using hB.size, fun i hi hS => (setRow_other w g i _ (by omega)).trans (hB.blk i hi hS)⟩

/-- The cells of the votes. -/
def vc (S B : Nat → Int) (V : Nat → ByteArray) (j : Nat) : Value := if j % 3 = 0 then .int .i64 (S (j / 3)) else if j % 3 = 1 then .int .i64 (B (j / 3)) else .string (V (j / 3))
def vcs (S B : Nat → Int) (V : Nat → ByteArray) (n : Nat) : List Value := (List.range (n * 3)).map (vc S B V)
theorem vcs_length (S B : Nat → Int) (V : Nat → ByteArray) (n : Nat) : (vcs S B V n).length = n * 3 := by simp [vcs]
theorem vcs_one (S B : Nat → Int) (V : Nat → ByteArray) (n : Nat) : ∀ v ∈ vcs S B V n, v.oneCell' = true := by
  intro v hv
  simp only [vcs, List.mem_map] at hv
  obtain ⟨j, _, rfl⟩ := hv
  unfold vc
  split <;> (try split) <;> rfl
theorem vcs_at {S B : Nat → Int} {V : Nat → ByteArray} {n j : Nat} (h : j < n * 3) : (vcs S B V n)[j]? = some (vc S B V j) := by simp [vcs, h]
theorem vc0 (S B : Nat → Int) (V : Nat → ByteArray) (i : Nat) : vc S B V (i * 3) = .int .i64 (S i) := by
  have h1 : i * 3 % 3 = 0 := by omega
  have h2 : i * 3 / 3 = i := by omega
  simp [vc, h1, h2]
theorem vc1 (S B : Nat → Int) (V : Nat → ByteArray) (i : Nat) : vc S B V (i * 3 + 1) = .int .i64 (B i) := by
  have h1 : (i * 3 + 1) % 3 = 1 := by omega
  have h2 : (i * 3 + 1) / 3 = i := by omega
  simp [vc, h1, h2]
theorem vc2 (S B : Nat → Int) (V : Nat → ByteArray) (i : Nat) : vc S B V (i * 3 + 1 + 1) = .string (V i) := by
  have h1 : (i * 3 + 1 + 1) % 3 = 2 := by omega
  have h2 : (i * 3 + 1 + 1) / 3 = i := by omega
  simp [vc, h1, h2]

/-- The set of the first n keys. -/
def setD (K : Nat → ByteArray) : Nat → DataW Unit
  | 0 => .map []
  | n + 1 => (setD K n).put (keyL (K n)) tt
theorem setD_all (K : Nat → ByteArray) : ∀ n, AllT (setD K n)
  | 0 => allT_empty
  | n + 1 => (setD_all K n).put (K n)
theorem has_put_mono {D : DataW Unit} (h : AllT D) (k : ByteArray) {x : Lit} (hx : Maps.has D x = true) : Maps.has (D.put (keyL k) tt) x = true := by
  by_cases e : x = keyL k
  · rw [e]; exact Maps.has_put_same h.tidy.isMap (keyL_key k) _
  · rw [Maps.has_put_other e]; exact hx
theorem setD_has (K : Nat → ByteArray) : ∀ n m, m < n → Maps.has (setD K n) (keyL (K m)) = true
  | n + 1, m, h => by
    by_cases e : m = n
    · subst e; exact Maps.has_put_same (setD_all K m).tidy.isMap (keyL_key _) _
    · exact has_put_mono (setD_all K n) (K n) (setD_has K n m (by omega))

/-- The set behind choose. -/
def chD (v : ByteArray) (D : DataW Unit) : DataW Unit := if v.toList.isEmpty then D else D.put (keyL v) tt
theorem chD_all {v : ByteArray} {D : DataW Unit} (h : AllT D) : AllT (chD v D) := by
  unfold chD; split
  · exact h
  · exact h.put v
theorem chD_has {v : ByteArray} {D : DataW Unit} (h : AllT D) {x : Lit} (hx : Maps.has D x = true) : Maps.has (chD v D) x = true := by
  unfold chD; split
  · exact hx
  · exact has_put_mono h v hx
end Go.Proofs.Ybulkczau
