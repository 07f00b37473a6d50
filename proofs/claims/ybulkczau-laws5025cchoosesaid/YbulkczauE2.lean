import Derived.Test.YbulkczauE1
namespace Go.Proofs.Ybulkczau
open Go.RowKit Go.Maps Go.WideMaps

theorem eqf_nil (w : World) : (binOp .eql 52 .nilFunc .nilFunc).run Yba.prog w = .ok (.bool true) w := by kernel_rfl
theorem eqf_func (f : Fn) (a b : Array Value) (w : World) : (binOp .eql 52 (.func f a b) .nilFunc).run Yba.prog w = .ok (.bool false) w := by kernel_rfl

set_option maxRecDepth 100000 in
set_option maxHeartbeats 400000 in
/-- changeIn, no stand-in. -/
theorem changeIn_nil (br : Nat) (v : ByteArray) (w : World) (h3 : w.cell? ⟨br, 3, none⟩ = some .nilFunc) :
    Calls Yba.prog 21 #[.pointer (some ⟨br, 0, none⟩), .string v] w fun e w' => e = .returned (.tuple #[.agg #[.bool false, .int .i64 0, .int .i64 0], .bool false]) ∧ Chg (fun _ => False) w w' := by
  have l := lt_of_cell h3
  have e1 := eqf_nil
  have e2 := eqf_func
  go_enter Yba.func21, Yba.ntmps21
  go_wp2
  exact bodyPost_ret (v := .tuple #[.agg #[.bool false, .int .i64 0, .int .i64 0], .bool false]) (by simp [results, Yba.results21, go_sem]) rfl ⟨rfl, (Chg.refl _ _).alloc _⟩

set_option maxRecDepth 100000 in
set_option maxHeartbeats 400000 in
/-- changeIn, of the filler. -/
theorem changeIn_filler (br bk bi : Nat) (v : ByteArray) (w : World) (hv : v.toList.isEmpty = true) (h3 : w.cell? ⟨br, 3, none⟩ = some (.func (.func 10) #[] #[.pointer (some ⟨bk, 0, none⟩), .pointer (some ⟨bi, 0, none⟩)])) :
    Calls Yba.prog 21 #[.pointer (some ⟨br, 0, none⟩), .string v] w fun e w' => e = .returned (.tuple #[.agg #[.bool false, .int .i64 0, .int .i64 0], .bool false]) ∧ Chg (fun _ => False) w w' := by
  have l := lt_of_cell h3
  have e1 := eqf_nil
  have e2 := eqf_func
  go_enter Yba.func21, Yba.ntmps21
  go_wp2
  exact bodyPost_ret (v := .tuple #[.agg #[.bool false, .int .i64 0, .int .i64 0], .bool false]) (by simp [results, Yba.results21, go_sem]) rfl ⟨rfl, (Chg.refl _ _).alloc _⟩

set_option maxRecDepth 100000 in
set_option maxHeartbeats 400000 in
/-- changeIn, by the stand-in. -/
theorem changeIn_call (br bk bi : Nat) (ic : Bool) (v : ByteArray) (w : World) (hv : v.toList.isEmpty = false) (h3 : w.cell? ⟨br, 3, none⟩ = some (.func (.func 10) #[] #[.pointer (some ⟨bk, 0, none⟩), .pointer (some ⟨bi, 0, none⟩)]))
    (hne : ¬ bi = bk) (hk : w.cell? ⟨bk, 0, none⟩ = some (.slice none 0 0)) (fk : w.frozen? ⟨bk, 0, none⟩ = false) (hi : w.cell? ⟨bi, 0, none⟩ = some (.bool ic)) :
    Calls Yba.prog 21 #[.pointer (some ⟨br, 0, none⟩), .string v] w fun e w' => e = .returned (.tuple #[.agg #[.bool false, .int .i64 1, .int .i64 0], .bool ic]) ∧
      (∃ g cap, w.heap.size ≤ g ∧ w'.cell? ⟨bk, 0, none⟩ = some (.slice (some ⟨g, 0, none⟩) 1 cap) ∧ w'.cell? ⟨g, 0, none⟩ = some (.string v)) ∧ Chg (fun a => a = ⟨bk, 0, none⟩) w w' := by
  have l := lt_of_cell h3
  have lk := lt_of_cell hk
  have li := lt_of_cell hi
  have e2 := eqf_func
  go_enter Yba.func21, Yba.ntmps21
  go_wp2_with fail
  refine (changeOf_any v bk bi ic _ hne (by rw [World.cell?_alloc_past _ _ _ lk]; exact hk) (by rw [World.frozen?_alloc_past _ _ _ lk]; exact fk) (by rw [World.cell?_alloc_past _ _ _ li]; exact hi)).mono ?_
  rintro e w2 ⟨rfl, ⟨g, cap, hg0, hg1, hg2⟩, hch⟩
  have hg0' : w.heap.size + 1 ≤ g := by simpa using hg0
  have hch0 : Chg (fun a => a = ⟨bk, 0, none⟩) w w2 := ((Chg.refl _ _).alloc _).trans hch
  have s2 : w.heap.size + 1 ≤ w2.heap.size := by have := hch.size; simpa using this
  have nb : ∀ o, ¬ (⟨w.heap.size, o, none⟩ : Addr) = ⟨bk, 0, none⟩ := fun o e => by have := congrArg Addr.block e; simp at this; omega
  have r0 : w2.cell? ⟨w.heap.size, 0, none⟩ = some (.bool false) := (hch.cell _ _ (by simp) (nb 0)).trans (World.cell?_alloc_at _ _ _ _ rfl)
  have r1 : w2.cell? ⟨w.heap.size, 1, none⟩ = some (.int .i64 0) := (hch.cell _ _ (by simp) (nb 1)).trans (World.cell?_alloc_at _ _ _ _ rfl)
  have r2 : w2.cell? ⟨w.heap.size, 2, none⟩ = some (.int .i64 0) := (hch.cell _ _ (by simp) (nb 2)).trans (World.cell?_alloc_at _ _ _ _ rfl)
  have q0 : w2.frozen? ⟨w.heap.size, 0, none⟩ = false := (hch.fro _ _ (by simp)).trans (World.frozen?_alloc_at _ _ _ _ rfl)
  have q1 : w2.frozen? ⟨w.heap.size, 1, none⟩ = false := (hch.fro _ _ (by simp)).trans (World.frozen?_alloc_at _ _ _ _ rfl)
  have q2 : w2.frozen? ⟨w.heap.size, 2, none⟩ = false := (hch.fro _ _ (by simp)).trans (World.frozen?_alloc_at _ _ _ _ rfl)
  clear hch hg0
  go_wp2
  refine bodyPost_ret (v := .tuple #[.agg #[.bool false, .int .i64 1, .int .i64 0], .bool ic]) (by simp [results, Yba.results21, go_sem, r0, r1, r2]) rfl ⟨rfl, ⟨g, cap, by omega, ?_, ?_⟩, ?_⟩
  · rw [World.cell?_setCell_other _ _ _ _ (ne_blk (by omega)), World.cell?_setCell_other _ _ _ _ (ne_blk (by omega)), World.cell?_setCell_other _ _ _ _ (ne_blk (by omega))]; exact hg1
  · rw [World.cell?_setCell_other _ _ _ _ (ne_blk (by omega)), World.cell?_setCell_other _ _ _ _ (ne_blk (by omega)), World.cell?_setCell_other _ _ _ _ (ne_blk (by omega))]; exact hg2
  · exact ((hch0.setNew (Nat.le_refl _) _).setNew (Nat.le_refl _) _).setNew (Nat.le_refl _) _
end Go.Proofs.Ybulkczau
