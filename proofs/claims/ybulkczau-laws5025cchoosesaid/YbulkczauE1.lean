import Derived.Test.YbulkczauRows
import Derived.WalkKit
import Derived.WalkSpells
import Derived.WalkLawsBesides
import Derived.Laws.EntriesVeiled
import Derived.RegionTactic
import Derived.Deep.QuietTactic
import Derived.BigQuiet
import Derived.Maps.OwnSet
import Derived.Maps.AppendAt
import Derived.Deep.AppendLies
namespace Go.Proofs.Ybulkczau
open Go.RowKit Go.Maps Go.WideMaps

/-- Of the old cells none has turned but those of A. -/
structure Chg (A : Addr → Prop) (w W : World) : Prop where
  os : W.os = w.os
  tape : W.tape = w.tape
  output : W.output = w.output
  size : w.heap.size ≤ W.heap.size
  cell : ∀ b o, b < w.heap.size → ¬ A ⟨b, o, none⟩ → W.cell? ⟨b, o, none⟩ = w.cell? ⟨b, o, none⟩
  fro : ∀ b o, b < w.heap.size → W.frozen? ⟨b, o, none⟩ = w.frozen? ⟨b, o, none⟩
  blk : ∀ i, i < w.heap.size → (∀ o, ¬ A ⟨i, o, none⟩) → W.heap[i]? = w.heap[i]?

theorem Chg.refl (A : Addr → Prop) (w : World) : Chg A w w := ⟨rfl, rfl, rfl, Nat.le_refl _, fun _ _ _ _ => rfl, fun _ _ _ => rfl, fun _ _ _ => rfl⟩
theorem Chg.trans {A : Addr → Prop} {a b c : World} (h : Chg A a b) (k : Chg A b c) : Chg A a c :=
  ⟨k.os.trans h.os, k.tape.trans h.tape, k.output.trans h.output, Nat.le_trans h.size k.size, fun i o hi hA => (k.cell i o (Nat.lt_of_lt_of_le hi h.size) hA).trans (h.cell i o hi hA),
   fun i o hi => (k.fro i o (Nat.lt_of_lt_of_le hi h.size)).trans (h.fro i o hi), fun i hi hA => (k.blk i (Nat.lt_of_lt_of_le hi h.size) hA).trans (h.blk i hi hA)⟩
theorem Chg.mono {A B : Addr → Prop} {a b : World} (h : Chg A a b) (hAB : ∀ x, A x → B x) : Chg B a b :=
  ⟨h.os, h.tape, h.output, h.size, fun i o hi hB => h.cell i o hi (fun x => hB (hAB _ x)), h.fro, fun i hi hB => h.blk i hi (fun o x => hB o (hAB _ x))⟩
theorem Chg.drewN {A : Addr → Prop} {a b : World} (h : Chg A a b) (n : Nat) : Chg A a (b.drewN n) := ⟨h.os, h.tape, h.output, h.size, h.cell, h.fro, h.blk⟩
theorem Chg.drew {A : Addr → Prop} {a b : World} (h : Chg A a b) : Chg A a b.drew := ⟨h.os, h.tape, h.output, h.size, h.cell, h.fro, h.blk⟩
theorem Chg.alloc {A : Addr → Prop} {a b : World} (h : Chg A a b) (o : Obj) : Chg A a (b.alloc o) :=
  h.trans ⟨rfl, rfl, rfl, by simp, fun i p hi _ => World.cell?_alloc_past _ _ _ hi, fun i p hi => World.frozen?_alloc_past _ _ _ hi, fun i hi _ => Below.heap_alloc _ _ _ hi⟩
theorem Chg.setCell {A : Addr → Prop} {a b : World} (h : Chg A a b) {bl of : Nat} (hA : A ⟨bl, of, none⟩) (u : Value) : Chg A a (b.setCell ⟨bl, of, none⟩ u) :=
  h.trans ⟨rfl, rfl, rfl, by simp [World.setCell], fun i p _ hnA => World.cell?_setCell_other _ _ _ _ (fun e => hnA (by rw [← e]; exact hA)), fun i p _ => World.frozen?_setCell _ _ _ _,
    fun i _ hnA => Below.heap_setCell _ _ _ _ (fun e => hnA of (by rw [e]; exact hA))⟩
theorem Chg.below {A : Addr → Prop} {B : Nat} {a b : World} (h : Chg A a b) (hB : ∀ x : Addr, A x → B ≤ x.block) (hs : B ≤ a.heap.size) : Below B a b :=
  ⟨h.os, h.tape, h.output, h.size, fun i hi => h.blk i (Nat.lt_of_lt_of_le hi hs) (fun o x => by have := hB _ x; simp at this; omega)⟩

theorem lt_of_cell {w : World} {b o : Nat} {v : Value} (h : w.cell? ⟨b, o, none⟩ = some v) : b < w.heap.size := by
  unfold World.cell? at h
  by_cases hb : b < w.heap.size
  · exact hb
  · simp [Array.getElem?_eq_none (Nat.le_of_not_lt hb)] at h

theorem Chg.new {A : Addr → Prop} {w w1 wi : World} (h : Chg (fun _ => False) w w1) (k : Chg A w1 wi) (hA : ∀ x : Addr, A x → w.heap.size ≤ x.block) : Chg (fun _ => False) w wi :=
  ⟨k.os.trans h.os, k.tape.trans h.tape, k.output.trans h.output, Nat.le_trans h.size k.size, fun b o hb _ => (k.cell b o (Nat.lt_of_lt_of_le hb h.size) (fun x => by have := hA _ x; simp at this; omega)).trans (h.cell b o hb id),
   fun b o hb => (k.fro b o (Nat.lt_of_lt_of_le hb h.size)).trans (h.fro b o hb), fun i hi _ => (k.blk i (Nat.lt_of_lt_of_le hi h.size) (fun o x => by have := hA _ x; simp at this; omega)).trans (h.blk i hi (fun _ => id))⟩
theorem Chg.setNew {A : Addr → Prop} {a b : World} (h : Chg A a b) {bl of : Nat} (hn : a.heap.size ≤ bl) (u : Value) : Chg A a (b.setCell ⟨bl, of, none⟩ u) :=
  ⟨h.os, h.tape, h.output, by simpa [World.setCell] using h.size, fun i p hi hA => (World.cell?_setCell_other _ _ _ _ (fun e => by have := congrArg Addr.block e; simp at this; omega)).trans (h.cell i p hi hA), fun i p hi => (World.frozen?_setCell _ _ _ _).trans (h.fro i p hi),
   fun i hi hA => (Below.heap_setCell _ _ _ _ (fun e => by simp at e; omega)).trans (h.blk i hi hA)⟩

theorem ne_blk {b b' o o' : Nat} (h : b ≠ b') : (⟨b, o, none⟩ : Addr) ≠ ⟨b', o', none⟩ := fun e => h (congrArg Addr.block e)
theorem ne_off {b b' o o' : Nat} (h : o ≠ o') : (⟨b, o, none⟩ : Addr) ≠ ⟨b', o', none⟩ := fun e => h (congrArg Addr.off e)
theorem Hid.intro {p : Prop} (h : p) : Hid p := h
/-- Behind a law that ends in 'grownBy' at a block of the call's own. -/
theorem Chg.grown {A : Addr → Prop} {a b c : World} {row : Option Nat} (h : Chg A a b) (hg : b.grownBy c row) (hr : ∀ k, row = some k → a.heap.size ≤ k) : Chg A a c :=
  ⟨hg.os.trans h.os, hg.tape.trans h.tape, hg.output.trans h.output, Nat.le_trans h.size hg.size,
   fun i o hi hA => (World.cell?_of_block (hg.block i (Nat.lt_of_lt_of_le hi h.size) (fun e => by have := hr i e.symm; omega))).trans (h.cell i o hi hA),
   fun i o hi => (World.frozen?_of_block (hg.block i (Nat.lt_of_lt_of_le hi h.size) (fun e => by have := hr i e.symm; omega))).trans (h.fro i o hi),
   fun i hi hA => (hg.block i (Nat.lt_of_lt_of_le hi h.size) (fun e => by have := hr i e.symm; omega)).trans (h.blk i hi hA)⟩

theorem info9 : (Yba.prog.info? 9).map (fun i => (i.zero, i.size, i.bytes)) = some (some (.string ByteArray.empty), 1, 16) := by kernel_rfl
theorem info83 : (Yba.prog.info? 83).map (fun i => (i.zero, i.size, i.bytes)) = some (some (.agg #[.int .i64 0, .int .i64 0, .string ByteArray.empty]), 3, 32) := by kernel_rfl

set_option maxHeartbeats 400000 in
/-- The stand-in for ChangeOf, at its first call. -/
theorem changeOf_any (v : ByteArray) (bk bi : Nat) (ic : Bool) (w : World) (hne : ¬ bi = bk) (hk : w.cell? ⟨bk, 0, none⟩ = some (.slice none 0 0)) (fk : w.frozen? ⟨bk, 0, none⟩ = false) (hi : w.cell? ⟨bi, 0, none⟩ = some (.bool ic)) :
    Calls Yba.prog 10 #[.string v, .pointer (some ⟨bk, 0, none⟩), .pointer (some ⟨bi, 0, none⟩)] w fun e w' => e = .returned (.tuple #[.agg #[.bool false, .int .i64 1, .int .i64 0], .bool ic]) ∧
      (∃ g cap, w.heap.size ≤ g ∧ w'.cell? ⟨bk, 0, none⟩ = some (.slice (some ⟨g, 0, none⟩) 1 cap) ∧ w'.cell? ⟨g, 0, none⟩ = some (.string v)) ∧ Chg (fun a => a = ⟨bk, 0, none⟩) w w' := by
  obtain ⟨i0, hi0, hz0, hz1, hz2⟩ := info_parts info9
  have lk := lt_of_cell hk
  have li := lt_of_cell hi
  go_enter Yba.func10, Yba.ntmps10
  go_wp2_with (first
    | (at_builtin; refine wpList_append_lies _ rfl _ _ 37 rfl (w.heap.size + 1) 9 i0 (.string ByteArray.empty) 1 16 Yba.underlying37 hi0 hz0 hz1 hz2 rfl (by decide) (.slice none 0 0) 0 [] rfl (World.ownsRow_nil _ _ _ _) ⟨w.heap.size + 1, 0, none⟩ 1 1 [.string v] rfl rfl ?_ (by simp [Value.oneCell']) (by decide) (by unfold maxLen; omega) (by omega) (by simp) (w.heap.size + 1 + 1) (by simp) ?_)
    | fail)
  case refine_1 => have := cell_one_new (w.alloc (Obj.cells #[Value.bool false, Value.int IntKind.i64 0, Value.int IntKind.i64 0] 80)) (.string v) 9; simpa using this
  intro g cap w1 hown hgrow hat hlt
  have hg0 : g = w.heap.size + 1 + 1 := by
    rcases hat with h | h
    · cases h
    · exact h
  subst hg0
  have hch : Chg (fun _ => False) w w1 := (((Chg.refl _ _).alloc _).alloc _).grown hgrow (fun k hk => by cases hk)
  have g0 : w1.cell? ⟨w.heap.size + 1 + 1, 0, none⟩ = some (.string v) := by have := hown.cellAt 0 (by omega); simpa using this
  have bl : w1.heap[w.heap.size]? = (w.alloc (Obj.cells #[Value.bool false, Value.int IntKind.i64 0, Value.int IntKind.i64 0] 80)).heap[w.heap.size]? :=
    (hgrow.block w.heap.size (by simp; omega) (by simp [Value.ownBlock])).trans (Below.heap_alloc _ _ _ (by simp))
  have r0 : w1.cell? ⟨w.heap.size, 0, none⟩ = some (.bool false) := (World.cell?_of_block (a := ⟨w.heap.size, 0, none⟩) bl).trans (World.cell?_alloc_at _ _ _ _ rfl)
  have r1 : w1.cell? ⟨w.heap.size, 1, none⟩ = some (.int .i64 0) := (World.cell?_of_block (a := ⟨w.heap.size, 1, none⟩) bl).trans (World.cell?_alloc_at _ _ _ _ rfl)
  have r2 : w1.cell? ⟨w.heap.size, 1 + 1, none⟩ = some (.int .i64 0) := (World.cell?_of_block (a := ⟨w.heap.size, 2, none⟩) bl).trans (World.cell?_alloc_at _ _ _ _ rfl)
  have q0 : w1.frozen? ⟨w.heap.size, 0, none⟩ = false := (World.frozen?_of_block (a := ⟨w.heap.size, 0, none⟩) bl).trans (World.frozen?_alloc_at _ _ _ _ rfl)
  have q1 : w1.frozen? ⟨w.heap.size, 1, none⟩ = false := (World.frozen?_of_block (a := ⟨w.heap.size, 1, none⟩) bl).trans (World.frozen?_alloc_at _ _ _ _ rfl)
  have q2 : w1.frozen? ⟨w.heap.size, 1 + 1, none⟩ = false := (World.frozen?_of_block (a := ⟨w.heap.size, 2, none⟩) bl).trans (World.frozen?_alloc_at _ _ _ _ rfl)
  have hk1 : w1.cell? ⟨bk, 0, none⟩ = some (.slice none 0 0) := (hch.cell _ _ lk id).trans hk
  have fk1 : w1.frozen? ⟨bk, 0, none⟩ = false := (hch.fro _ _ lk).trans fk
  have hi1 : w1.cell? ⟨bi, 0, none⟩ = some (.bool ic) := (hch.cell _ _ li id).trans hi
  have n1 : ¬ bk = w.heap.size := by omega
  have n2 : ¬ w.heap.size = bk := by omega
  have n3 : ¬ bk = bi := fun e => hne e.symm
  clear bl hgrow hown hat hk fk hi hi0 hz0 hz1 hz2
  go_wp2
  go_region
  go_wp2
  refine bodyPost_ret (v := .tuple #[.agg #[.bool false, .int .i64 1, .int .i64 0], .bool ic]) (by simp [results, Yba.results10, go_sem, r0, r1, r2]) rfl ⟨rfl, ⟨w.heap.size + 1 + 1, cap, by omega, ?_, ?_⟩, ?_⟩
  · show (((( _ : World).setCell _ _).setCell _ _).setCell _ _).cell? _ = _
    rw [World.cell?_setCell_other _ _ _ _ (ne_blk n2), World.cell?_setCell_other _ _ _ _ (ne_blk n2), World.cell?_setCell_other _ _ _ _ (ne_blk n2)]
    exact World.cell?_setCell_same _ _ _ hk1
  · show (((( _ : World).setCell _ _).setCell _ _).setCell _ _).cell? _ = _
    rw [World.cell?_setCell_other _ _ _ _ (ne_blk (by omega)), World.cell?_setCell_other _ _ _ _ (ne_blk (by omega)), World.cell?_setCell_other _ _ _ _ (ne_blk (by omega)), World.cell?_setCell_other _ _ _ _ (ne_blk (by omega))]
    exact g0
  · exact (((((hch.mono (B := fun a => a = ⟨bk, 0, none⟩) (fun _ h => h.elim)).setCell rfl _).setNew (Nat.le_refl _) _).setNew (Nat.le_refl _) _).setNew (Nat.le_refl _) _).drew

end Go.Proofs.Ybulkczau
