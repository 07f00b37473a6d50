import Derived.Test.YbulkcyyqW6
import Derived.Maps.AppendAt
import Derived.Deep.AppendLies
namespace Go.Proofs.Ybulkcyyq
open Go.RowKit Go.Maps Go.WideMaps

theorem info9 : (Yba.prog.info? 9).map (fun i => (i.zero, i.size, i.bytes)) = some (some (.string ByteArray.empty), 1, 16) := by kernel_rfl

/-- The two variables 'ks', 'vs' and what they lead to. -/
structure KV (w : World) (bk bv base : Nat) (L : List (ByteArray × ByteArray)) (kv vv : Value) : Prop where
  ck : w.cell? ⟨bk, 0, none⟩ = some kv
  cv : w.cell? ⟨bv, 0, none⟩ = some vv
  fk : w.frozen? ⟨bk, 0, none⟩ = false
  fv : w.frozen? ⟨bv, 0, none⟩ = false
  ok : w.ownsRow base 9 1 kv L.length (L.map fun p => .string p.1)
  ov : w.ownsRow base 9 1 vv L.length (L.map fun p => .string p.2)
  ap : kv.ownBlock = none ∨ kv.ownBlock ≠ vv.ownBlock

/-- Of what lies below 'base' nothing has turned but the two variables. -/
structure But2 (bk bv base : Nat) (w w' : World) : Prop where
  os : w'.os = w.os
  tape : w'.tape = w.tape
  output : w'.output = w.output
  size : w.heap.size ≤ w'.heap.size
  block : ∀ k, k < base → k ≠ bk → k ≠ bv → w'.heap[k]? = w.heap[k]?

set_option maxHeartbeats 400000 in
theorem yieldC (k v : ByteArray) (bk bv base : Nat) (L : List (ByteArray × ByteArray)) (kv vv : Value) (w : World) (hL : L.length ≤ 1024) (h1 : bk < bv) (h2 : bv < base) (h3 : base ≤ w.heap.size) (h : KV w bk bv base L kv vv) :
    Calls Yba.prog 7 #[.string k, .string v, .pointer (some ⟨bk, 0, none⟩), .pointer (some ⟨bv, 0, none⟩)] w fun e w' => e = .returned (.bool true) ∧ (∃ kv' vv', KV w' bk bv base (L ++ [(k, v)]) kv' vv') ∧ But2 bk bv base w w' := by
  obtain ⟨i0, hi, hz0, hz1, hz2⟩ := info_parts info9
  have ck := h.ck
  have fk := h.fk
  have hok := h.ok
  have hkb := h.ok.lt
  have hvb := h.ov.lt
  go_enter Yba.func7, Yba.ntmps7
  go_wp2_with (first
    | (at_builtin; refine wpList_append_lies _ rfl _ _ 25 rfl base 9 i0 (.string ByteArray.empty) 1 16 Yba.underlying25 hi hz0 hz1 hz2 rfl (by decide) kv L.length (L.map fun p => .string p.1) rfl (hok.alloc _) ⟨w.heap.size, 0, none⟩ 1 1 [.string k] rfl rfl (cell_one_new _ _ _) (by simp [Value.oneCell']) (by decide) (by unfold maxLen; omega) (by omega) (by simp; omega) (w.heap.size + 1) (by simp) ?_)
    | fail)
  intro g cap w1 hown1 hgrow1 hat1 hlt1
  have hg1 : w.grownBy w1 kv.ownBlock := (World.grownBy_alloc _ _ _).trans hgrow1
  have nk : some bk ≠ kv.ownBlock := fun e => by have := hkb bk e.symm; omega
  have nv : some bv ≠ kv.ownBlock := fun e => by have := hkb bv e.symm; omega
  have ck1 : w1.cell? ⟨bk, 0, none⟩ = some kv := hg1.cell ck nk
  have fk1 : w1.frozen? ⟨bk, 0, none⟩ = false := by rw [hg1.frozen_far ⟨bk, 0, none⟩ (by show bk < _; omega) nk]; exact fk
  have cv1 : w1.cell? ⟨bv, 0, none⟩ = some vv := hg1.cell h.cv nv
  have fv1 : w1.frozen? ⟨bv, 0, none⟩ = false := by rw [hg1.frozen_far ⟨bv, 0, none⟩ (by show bv < _; omega) nv]; exact h.fv
  have hs1 := hg1.size
  have hov1 : w1.ownsRow base 9 1 vv L.length (L.map fun p => .string p.2) := h.ov.kept hg1 (by
    rcases h.ap with e | e
    · rw [e]; cases vv.ownBlock <;> simp
    · exact .inr (fun e' => e e'.symm))
  have hne : ¬ bk = bv := by omega
  have hne' : ¬ bv = bk := by omega
  obtain ⟨w2, hw2⟩ : ∃ w2, w2 = w1.setCell ⟨bk, 0, none⟩ (.slice (some ⟨g, 0, none⟩) (L.length + 1) cap) := ⟨_, rfl⟩
  have hov2 : w2.ownsRow base 9 1 vv L.length (L.map fun p => .string p.2) := by rw [hw2]; exact ownsRow_setCell_below hov1 (by show bk < base; omega) _
  have hs2 : w2.heap.size = w1.heap.size := by rw [hw2]; simp [World.setCell]
  have cv2 : w2.cell? ⟨bv, 0, none⟩ = some vv := by rw [hw2, World.cell?_setCell_other _ _ _ _ (fun e => hne (congrArg Addr.block e))]; exact cv1
  have fv2 : w2.frozen? ⟨bv, 0, none⟩ = false := by rw [hw2, World.frozen?_setCell]; exact fv1
  have ck2 : w2.cell? ⟨bk, 0, none⟩ = some (.slice (some ⟨g, 0, none⟩) (L.length + 1) cap) := by rw [hw2]; exact World.cell?_setCell_same _ _ _ ck1
  have fk2 : w2.frozen? ⟨bk, 0, none⟩ = false := by rw [hw2, World.frozen?_setCell]; exact fk1
  have hok2 : w2.ownsRow base 9 1 (.slice (some ⟨g, 0, none⟩) (L.length + 1) cap) (L.length + 1) ((L.map fun p => .string p.1) ++ [.string k]) := by rw [hw2]; exact ownsRow_setCell_below hown1 (by show bk < base; omega) _
  have HB : Hid (∀ i, i < base → i ≠ bk → w2.heap[i]? = w.heap[i]?) := fun i hi hib => by
    rw [hw2, Below.heap_setCell _ _ _ _ hib]
    exact hg1.block i (by omega) (fun e => by have := hkb i e.symm; omega)
  have HO : Hid (w2.os = w.os ∧ w2.tape = w.tape ∧ w2.output = w.output) := by rw [hw2]; exact ⟨hg1.os, hg1.tape, hg1.output⟩
  have hw2' := hw2.symm
  clear hw2 cv1 fv1 hov1
  have HOK : Hid _ := hok2
  clear hok2
  go_wp2_with (first
    | (at_builtin; refine wpList_append_lies _ rfl _ _ 25 rfl base 9 i0 (.string ByteArray.empty) 1 16 Yba.underlying25 hi hz0 hz1 hz2 rfl (by decide) vv L.length (L.map fun p => .string p.2) rfl (hov2.alloc _) ⟨w1.heap.size, 0, none⟩ 1 1 [.string v] rfl rfl (by rw [← hs2]; exact cell_one_new _ _ _) (by simp [Value.oneCell']) (by decide) (by unfold maxLen; omega) (by omega) (by simp; omega) (w1.heap.size + 1) (by simp; omega) ?_)
    | fail)
  intro g2 cap2 w3 hown3 hgrow3 hat3 hlt3
  have hg3 : w2.grownBy w3 vv.ownBlock := (World.grownBy_alloc _ _ _).trans hgrow3
  have nk3 : some bk ≠ vv.ownBlock := fun e => by have := hvb bk e.symm; omega
  have nv3 : some bv ≠ vv.ownBlock := fun e => by have := hvb bv e.symm; omega
  have cv3 : w3.cell? ⟨bv, 0, none⟩ = some vv := hg3.cell cv2 nv3
  have fv3 : w3.frozen? ⟨bv, 0, none⟩ = false := by rw [hg3.frozen_far ⟨bv, 0, none⟩ (by show bv < _; omega) nv3]; exact fv2
  have ck3 : w3.cell? ⟨bk, 0, none⟩ = some (.slice (some ⟨g, 0, none⟩) (L.length + 1) cap) := hg3.cell ck2 nk3
  have fk3 : w3.frozen? ⟨bk, 0, none⟩ = false := by rw [hg3.frozen_far ⟨bk, 0, none⟩ (by show bk < _; omega) nk3]; exact fk2
  have ng : ¬ vv.ownBlock = some g := fun e => by
    rcases hat1 with e1 | e1
    · rcases h.ap with e2 | e2
      · rw [e2] at e1; cases e1
      · exact e2 (e1.trans e.symm)
    · have := hvb g e; omega
  have gg2 : ¬ g = g2 := fun e => by
    rcases hat3 with e1 | e1
    · exact ng (by rw [e1, e])
    · omega
  have hok3 := World.ownsRow.kept HOK.out hg3 (.inr (fun e => ng e.symm))
  have hs3 := hg3.size
  have HB' : Hid (But2 bk bv base w (w3.setCell ⟨bv, 0, none⟩ (.slice (some ⟨g2, 0, none⟩) (L.length + 1) cap2))) :=
    ⟨hg3.os.trans HO.out.1, hg3.tape.trans HO.out.2.1, hg3.output.trans HO.out.2.2, by simp [World.setCell]; omega, fun i h1 h2 h3 => by
      rw [Below.heap_setCell _ _ _ _ h3, hg3.block i (by omega) (fun e => by have := hvb i e.symm; omega)]
      exact HB.out i h1 h2⟩
  have HK : Hid (KV (w3.setCell ⟨bv, 0, none⟩ (.slice (some ⟨g2, 0, none⟩) (L.length + 1) cap2)) bk bv base (L ++ [(k, v)]) (.slice (some ⟨g, 0, none⟩) (L.length + 1) cap) (.slice (some ⟨g2, 0, none⟩) (L.length + 1) cap2)) :=
    ⟨by rw [World.cell?_setCell_other _ _ _ _ (fun e => hne' (congrArg Addr.block e))]; exact ck3, World.cell?_setCell_same _ _ _ cv3, by rw [World.frozen?_setCell]; exact fk3, by rw [World.frozen?_setCell]; exact fv3,
      by have := ownsRow_setCell_below hok3 (a := ⟨bv, 0, none⟩) h2 (.slice (some ⟨g2, 0, none⟩) (L.length + 1) cap2); simpa using this,
      by have := ownsRow_setCell_below hown3 (a := ⟨bv, 0, none⟩) h2 (.slice (some ⟨g2, 0, none⟩) (L.length + 1) cap2); simpa using this,
      .inr (by simp [Value.ownBlock]; exact gg2)⟩
  clear hok3 hown3 hgrow3 hg3 ck3 fk3 hgrow1 hg1 HOK HB HO hw2' hown1
  go_wp2
  go_ret
  exact ⟨rfl, ⟨_, _, HK.out⟩, HB'.out⟩
end Go.Proofs.Ybulkcyyq
