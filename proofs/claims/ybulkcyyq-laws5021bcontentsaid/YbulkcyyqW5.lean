import Derived.Test.YbulkcyyqW4
namespace Go.Proofs.Ybulkcyyq
open Go.RowKit Go.Maps Go.WideMaps

set_option maxHeartbeats 400000 in
theorem all_any (b off : Nat) (w : World)  :
    Calls Yba.prog 6 #[.pointer (some ⟨b, off, none⟩)] w fun e w' => e = .returned (.func (.func 11) #[] #[.pointer (some ⟨w.heap.size, 0, none⟩)]) ∧ w' = w.alloc (.cells #[.pointer (some ⟨b, off, none⟩)] 23) := by
  have hmf : ∀ (fn : Fn) (first cap : Array Value) (w : World), (Instr.makeFunc fn first cap).run Yba.prog w = .ok (.func fn first cap) w := fun _ _ _ _ => rfl
  go_enter Yba.func6, Yba.ntmps6
  go_wp2
  go_ret
  exact ⟨rfl, rfl⟩

set_option maxHeartbeats 400000 in
theorem yieldS (k v : ByteArray) (bc bl : Nat) (c lim : Int) (w : World) (h0 : 0 ≤ c) (h1 : c ≤ 1024) (hne : bl < bc)
    (hc : w.cell? ⟨bc, 0, none⟩ = some (.int .i64 c)) (hf : w.frozen? ⟨bc, 0, none⟩ = false) (hl : w.cell? ⟨bl, 0, none⟩ = some (.int .i64 lim)) :
    Calls Yba.prog 10 #[.string k, .string v, .pointer (some ⟨bc, 0, none⟩), .pointer (some ⟨bl, 0, none⟩)] w fun e w' => e = .returned (.bool (decide (c + 1 < lim))) ∧ w' = w.setCell ⟨bc, 0, none⟩ (.int .i64 (c + 1)) := by
  have hne' : ¬ bl = bc := by omega
  go_enter Yba.func10, Yba.ntmps10
  go_wp2
  go_ret
  exact ⟨rfl, rfl⟩

theorem grown_setCell (w : World) (a : Addr) (u : Value) : w.grownBy (w.setCell a u) (some a.block) :=
  ⟨rfl, rfl, rfl, by simp [World.setCell], fun i _ hi => Below.heap_setCell _ _ _ _ (fun e => hi (by rw [e]))⟩

set_option maxHeartbeats 400000 in
theorem allS (bs bm bc bl os n lim : Nat) (D : DataW Unit) (w : World) (hlim : 0 < lim) (hlim' : lim ≤ 256)
    (hs : w.cell? ⟨bs, 0, none⟩ = some (.pointer (some ⟨os, 0, none⟩))) (hm : w.cell? ⟨os, 0, none⟩ = some (.map (some bm))) (hown : w.ownsMap Yba.prog 9 entR bm n D)
    (hc : w.cell? ⟨bc, 0, none⟩ = some (.int .i64 0)) (hf : w.frozen? ⟨bc, 0, none⟩ = false) (hl : w.cell? ⟨bl, 0, none⟩ = some (.int .i64 lim)) (hbl : bl < bc) (hbm : bm < bc) (hbc : bc < w.heap.size) :
    Calls Yba.prog 11 #[.func (.func 10) #[] #[.pointer (some ⟨bc, 0, none⟩), .pointer (some ⟨bl, 0, none⟩)], .pointer (some ⟨bs, 0, none⟩)] w fun e w' =>
      e = .returned (.tuple #[]) ∧ ∃ (left : Lit → Bool) (L : List (ByteArray × ByteArray)), Vis D left L ∧ w'.cell? ⟨bc, 0, none⟩ = some (.int .i64 L.length) ∧ ((∀ kl, left kl = false) ∧ L.length < lim ∨ L.length = lim) ∧ Below bc w w' := by
  go_enter Yba.func11, Yba.ntmps11
  go_wp2_with (first
    | (at_range; refine wpList_range_own _ rfl _ 35 rfl 9 44 keyedS Yba.underlying35 _ bm n _ rfl hown ?_; intro w0 hrg0 hg0 hs0)
    | go_in)
  go_frame
  go_loopw [10] (fun _ wr => ∃ (left : Lit → Bool) (cnt : Nat) (L : List (ByteArray × ByteArray)), wr.ranges Yba.prog 9 entR bm w.heap.size n D left cnt ∧ Vis D left L ∧ L.length < lim ∧ wr.cell? ⟨bc, 0, none⟩ = some (.int .i64 L.length) ∧ wr.frozen? ⟨bc, 0, none⟩ = false ∧ Below bc w wr)
    (fun _ wr => wr.rangeLeft bm w.heap.size)
  case atStart =>
    exact ⟨_, _, [], hrg0, vis_start D, hlim, hg0.cell hc (by simp), by rw [World.frozen?_of_block (w := w) (hg0.block bc hbc (by simp))]; exact hf, (Below.refl bc w).grown hg0 (by omega) (by simp)⟩
  case round =>
    obtain ⟨left, cnt, L, hrg, hvis, hLl, hcw, hfw, hbel⟩ := hrel
    have hsz := hrg.lt
    go_wp2_with (first
      | (at_next; refine wpList_next_ent _ rfl _ rfl bm w.heap.size n _ _ _ rfl hrg ?_ ?_ ?_)
      | go_in)
    · intro _ hl0
      go_wp2
      go_end0
      exact ⟨rfl, left, L, hvis, hcw, .inl ⟨hl0, hLl⟩, hbel⟩
    · intro x s p q t w1 cnt1 hlx hat hrg1 hlt hg1 hs1 hen
      have hbel1 : Below bc w w1 := hbel.grown hg1 (by omega) (fun k hk => by cases hk; omega)
      have hcw1 : w1.cell? ⟨bc, 0, none⟩ = some (.int .i64 L.length) := hg1.cell hcw (by simp; omega)
      have hfw1 : w1.frozen? ⟨bc, 0, none⟩ = false := by rw [World.frozen?_of_block (w := wr) (hg1.block bc (by show bc < _; omega) (by simp; omega))]; exact hfw
      have hlw1 : w1.cell? ⟨bl, 0, none⟩ = some (.int .i64 lim) := by rw [hbel1.cell (p := ⟨bl, 0, none⟩) hbl]; exact hl
      clear hg1 hcw hfw hc hf hl hm hs
      have hbw : bc < w1.heap.size := by omega
      go_wp2_with fail
      refine (yieldS x s bc bl L.length lim _ (by omega) (by omega) hbl (by rw [World.cell?_alloc_past _ _ _ hbw]; exact hcw1) (by rw [World.frozen?_alloc_past _ _ _ hbw]; exact hfw1) (by rw [World.cell?_alloc_past _ _ _ (by omega)]; exact hlw1)).mono ?_
      rintro e w2 ⟨rfl, hw2⟩
      have hg2 : w1.grownBy w2 (some bc) := by rw [hw2]; exact (World.grownBy_alloc _ _ _).trans (grown_setCell _ _ _)
      have hrg2 := hrg1.kept hg2 (by simp; omega) (by simp; omega)
      have hcw2 : w2.cell? ⟨bc, 0, none⟩ = some (.int .i64 (L.length + 1)) := by rw [hw2]; exact World.cell?_setCell_same _ _ _ ((World.cell?_alloc_past _ _ _ hbw).trans hcw1)
      have hfw2 : w2.frozen? ⟨bc, 0, none⟩ = false := by rw [hw2, World.frozen?_setCell, World.frozen?_alloc_past _ _ _ hbw]; exact hfw1
      have hbel2 : Below bc w w2 := hbel1.grown hg2 (by omega) (fun k hk => by cases hk; omega)
      clear hw2 hg2 hrg1 hcw1 hfw1 hbel1 hlw1
      have hv2 := vis_live hvis hlx hat
      by_cases hlt2 : ((L.length : Int) + 1 < (lim : Int))
      · go_wp2
        go_roundw
        case rel => exact ⟨_, cnt1, L ++ [(x, s)], hrg2, hv2, by simp; omega, by rw [hcw2]; simp, hfw2, hbel2⟩
        case measure => rw [hrg2.left_eq, hrg.left_eq]; exact hlt
      · have hd : decide ((L.length : Int) + 1 < (lim : Int)) = false := by simpa using hlt2
        go_wp2
        first | go_end0 | refine bodyPost_ret (results_none rfl _ _ _) rfl ?_
        exact ⟨rfl, _, _, hv2, by rw [hcw2]; simp, .inr (by simp; omega), hbel2⟩
    · intro x s p q t w1 cnt1 hlx hat hrg1 hlt hg1 hs1 hen
      have hbel1 : Below bc w w1 := hbel.grown hg1 (by omega) (fun k hk => by cases hk; omega)
      have hcw1 : w1.cell? ⟨bc, 0, none⟩ = some (.int .i64 L.length) := hg1.cell hcw (by simp; omega)
      have hfw1 : w1.frozen? ⟨bc, 0, none⟩ = false := by rw [World.frozen?_of_block (w := wr) (hg1.block bc (by show bc < _; omega) (by simp; omega))]; exact hfw
      clear hg1 hcw hfw hc hf hl hm hs
      have hbw : bc < w1.heap.size := by omega
      go_wp2
      go_roundw
      case rel => exact ⟨_, cnt1, L, hrg1.alloc _, vis_dead hvis hlx hat, hLl, by rw [World.cell?_alloc_past _ _ _ hbw]; exact hcw1, by rw [World.frozen?_alloc_past _ _ _ hbw]; exact hfw1, hbel1.alloc (by omega) _⟩
      case measure => rw [(hrg1.alloc _).left_eq, hrg.left_eq]; exact hlt
end Go.Proofs.Ybulkcyyq
