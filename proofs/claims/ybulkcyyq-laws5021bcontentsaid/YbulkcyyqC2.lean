import Derived.Test.YbulkcyyqC1
namespace Go.Proofs.Ybulkcyyq
open Go.RowKit Go.Maps Go.WideMaps

theorem KV.kept {w w' : World} {bk bv base : Nat} {L : List (ByteArray × ByteArray)} {kv vv : Value} (h : KV w bk bv base L kv vv) {row : Option Nat} (hg : w.grownBy w' row) (hk : bk < w.heap.size) (hv : bv < w.heap.size)
    (hr : ∀ k, row = some k → k ≠ bk ∧ k ≠ bv ∧ k < base) : KV w' bk bv base L kv vv := by
  have nk : some bk ≠ row := fun e => (hr bk e.symm).1 rfl
  have nv : some bv ≠ row := fun e => (hr bv e.symm).2.1 rfl
  refine ⟨hg.cell h.ck nk, hg.cell h.cv nv, by rw [hg.frozen_far ⟨bk, 0, none⟩ hk nk]; exact h.fk, by rw [hg.frozen_far ⟨bv, 0, none⟩ hv nv]; exact h.fv, h.ok.kept hg ?_, h.ov.kept hg ?_, h.ap⟩
  · cases e : kv.ownBlock with
    | none => exact .inl rfl
    | some k => exact .inr (fun e' => by have := (hr k e'.symm).2.2; have := (h.ok.lt k e).1; omega)
  · cases e : vv.ownBlock with
    | none => exact .inl rfl
    | some k => exact .inr (fun e' => by have := (hr k e'.symm).2.2; have := (h.ov.lt k e).1; omega)

theorem ranges_blocks {w w' : World} {b r n : Nat} {D : DataW Unit} {left : Lit → Bool} {cnt : Nat} (h : w.ranges Yba.prog 9 entR b r n D left cnt) (h1 : w'.heap[b]? = w.heap[b]?) (h2 : w'.heap[r]? = w.heap[r]?) : w'.ranges Yba.prog 9 entR b r n D left cnt := by
  obtain ⟨es, clock, since, seen, c0, hb, F, hs, hD, hr, rest⟩ := h
  exact ⟨es, clock, since, seen, c0, h1.trans hb, F, hs, hD, h2.trans hr, rest⟩

set_option maxHeartbeats 400000 in
theorem allC (bs bm bk bv os n : Nat) (D : DataW Unit) (w : World) (hD : ∀ left L, Vis D left L → L.length ≤ 1024)
    (hs : w.cell? ⟨bs, 0, none⟩ = some (.pointer (some ⟨os, 0, none⟩))) (hm : w.cell? ⟨os, 0, none⟩ = some (.map (some bm))) (hown : w.ownsMap Yba.prog 9 entR bm n D)
    (hkv : KV w bk bv (w.heap.size + 1) [] (.slice none 0 0) (.slice none 0 0)) (hbm : bm < bk) (hbk : bk < bv) (hbv : bv < w.heap.size) :
    Calls Yba.prog 11 #[.func (.func 7) #[] #[.pointer (some ⟨bk, 0, none⟩), .pointer (some ⟨bv, 0, none⟩)], .pointer (some ⟨bs, 0, none⟩)] w fun e w' =>
      e = .returned (.tuple #[]) ∧ Below bk w w' ∧ ∃ (left : Lit → Bool) (L : List (ByteArray × ByteArray)) (kv vv : Value), Vis D left L ∧ (∀ kl, left kl = false) ∧ KV w' bk bv (w.heap.size + 1) L kv vv := by
  go_enter Yba.func11, Yba.ntmps11
  go_wp2_with (first
    | (at_range; refine wpList_range_own _ rfl _ 35 rfl 9 44 keyedS Yba.underlying35 _ bm n _ rfl hown ?_; intro w0 hrg0 hg0 hs0)
    | go_in)
  go_frame
  go_loopw [10] (fun _ wr => ∃ (left : Lit → Bool) (cnt : Nat) (L : List (ByteArray × ByteArray)) (kv vv : Value), wr.ranges Yba.prog 9 entR bm w.heap.size n D left cnt ∧ Vis D left L ∧ KV wr bk bv (w.heap.size + 1) L kv vv ∧ Below bk w wr)
    (fun _ wr => wr.rangeLeft bm w.heap.size)
  case atStart =>
    exact ⟨_, _, [], _, _, hrg0, vis_start D, hkv.kept hg0 (by omega) (by omega) (by simp), (Below.refl bk w).grown hg0 (by omega) (by simp)⟩
  case round =>
    obtain ⟨left, cnt, L, kv, vv, hrg, hvis, hkvr, hbel⟩ := hrel
    have hsz := hrg.lt
    clear hkv
    go_wp2_with (first
      | (at_next; refine wpList_next_ent _ rfl _ rfl bm w.heap.size n _ _ _ rfl hrg ?_ ?_ ?_)
      | go_in)
    · intro _ hl0
      go_wp2
      go_end0
      exact ⟨rfl, hbel, left, L, _, _, hvis, hl0, hkvr⟩
    · intro x s p q t w1 cnt1 hlx hat hrg1 hlt hg1 hs1 hen
      have hbel1 : Below bk w w1 := hbel.grown hg1 (by omega) (fun k hk => by cases hk; omega)
      have hkv1 := hkvr.kept hg1 (by omega) (by omega) (fun k hk => by cases hk; omega)
      have hLl := hD _ _ hvis
      have hv2 := vis_live hvis hlx hat
      clear hg1 hkvr hm hs
      go_wp2_with fail
      refine (yieldC x s bk bv (w.heap.size + 1) L kv vv _ hLl hbk (by omega) (by simp; omega) (hkv1.kept (World.grownBy_alloc _ _ none) (by omega) (by omega) (by simp))).mono ?_
      rintro e w2 ⟨rfl, ⟨kv', vv', hkv2⟩, hbut⟩
      have hrg2 := ranges_blocks (hrg1.alloc _) (hbut.block bm (by omega) (by omega) (by omega)) (hbut.block w.heap.size (by omega) (by omega) (by omega))
      have hbel2 : Below bk w w2 := (hbel1.alloc (by omega) _).trans ⟨hbut.os, hbut.tape, hbut.output, hbut.size, fun k hk => hbut.block k (by omega) (by omega) (by omega)⟩
      clear hbut hrg1 hbel1 hkv1
      go_wp2
      go_roundw
      case rel => exact ⟨_, cnt1, L ++ [(x, s)], _, _, hrg2, hv2, hkv2, hbel2⟩
      case measure => rw [hrg2.left_eq, hrg.left_eq]; exact hlt
    · intro x s p q t w1 cnt1 hlx hat hrg1 hlt hg1 hs1 hen
      have hbel1 : Below bk w w1 := hbel.grown hg1 (by omega) (fun k hk => by cases hk; omega)
      have hkv1 := hkvr.kept hg1 (by omega) (by omega) (fun k hk => by cases hk; omega)
      have hv2 := vis_dead hvis hlx hat
      clear hg1 hkvr hm hs
      go_wp2
      go_roundw
      case rel => exact ⟨_, cnt1, L, _, _, hrg1.alloc _, hv2, hkv1.kept (World.grownBy_alloc _ _ none) (by omega) (by omega) (by simp), hbel1.alloc (by omega) _⟩
      case measure => rw [(hrg1.alloc _).left_eq, hrg.left_eq]; exact hlt

set_option maxHeartbeats 400000 in
theorem allC_nil (bs os bk bv : Nat) (w : World) (hs : w.cell? ⟨bs, 0, none⟩ = some (.pointer (some ⟨os, 0, none⟩))) (hm : w.cell? ⟨os, 0, none⟩ = some (.map none)) :
    Calls Yba.prog 11 #[.func (.func 7) #[] #[.pointer (some ⟨bk, 0, none⟩), .pointer (some ⟨bv, 0, none⟩)], .pointer (some ⟨bs, 0, none⟩)] w fun e w' =>
      e = .returned (.tuple #[]) ∧ w' = w.alloc (.mapIter none 0 #[] 0) := by
  have hrg := run_range_nilMap (P := Yba.prog) w 35 9 44 Yba.underlying35
  have hnx : ∀ ty, (Instr.next (.pointer (some ⟨w.heap.size, 0, none⟩)) false ty).run Yba.prog (w.alloc (.mapIter none 0 #[] 0)) = _ := fun ty => run_next_nilMap w ty 0 0 #[]
  go_enter Yba.func11, Yba.ntmps11
  go_wp2
  refine wp_loop_rounds 1 ?_
  rw [rounds_succ]
  go_wp2
  go_end0
  exact ⟨rfl, rfl⟩

theorem allCG (bs bk bv os n : Nat) (r : Option Nat) (D : DataW Unit) (w : World) (hD : ∀ left L, Vis D left L → L.length ≤ 1024)
    (hs : w.cell? ⟨bs, 0, none⟩ = some (.pointer (some ⟨os, 0, none⟩))) (hm : w.cell? ⟨os, 0, none⟩ = some (.map r)) (hown : MapIs w r n D)
    (hkv : KV w bk bv (w.heap.size + 1) [] (.slice none 0 0) (.slice none 0 0)) (hbm : ∀ bm, r = some bm → bm < bk) (hbk : bk < bv) (hbv : bv < w.heap.size) :
    Calls Yba.prog 11 #[.func (.func 7) #[] #[.pointer (some ⟨bk, 0, none⟩), .pointer (some ⟨bv, 0, none⟩)], .pointer (some ⟨bs, 0, none⟩)] w fun e w' =>
      e = .returned (.tuple #[]) ∧ Below bk w w' ∧ ∃ (left : Lit → Bool) (L : List (ByteArray × ByteArray)) (kv vv : Value), Vis D left L ∧ (∀ kl, left kl = false) ∧ KV w' bk bv (w.heap.size + 1) L kv vv := by
  rcases hown with ⟨rfl, rfl⟩ | ⟨bm, rfl, hown⟩
  · refine (allC_nil bs os bk bv w hs hm).mono fun e w' ⟨h1, h2⟩ => ⟨h1, ?_, fun _ => false, [], .slice none 0 0, .slice none 0 0, ⟨fun k v => ⟨fun h => by simp at h, fun h => by have := h.1; simp [Maps.has] at this⟩, by simp⟩, fun _ => rfl, ?_⟩
    · rw [h2]; exact (Below.refl _ _).alloc (by omega) _
    · rw [h2]; exact hkv.kept (World.grownBy_alloc _ _ none) (by omega) hbv (by simp)
  · exact allC bs bm bk bv os n D w hD hs hm hown hkv (hbm bm rfl) hbk hbv
end Go.Proofs.Ybulkcyyq
