import Derived.Test.YbulkczauE3
namespace Go.Proofs.Ybulkczau
open Go.RowKit Go.Maps Go.WideMaps

theorem Olds.grown {w W : World} {ao : Option Addr} {olds : List Value} {bm : Nat} (h : Olds w ao olds) (hg : w.grownBy W (some bm)) (hA : ∀ g, ao = some ⟨g, 0, none⟩ → ¬ g = bm) : Olds W ao olds := fun b hb => by
  obtain ⟨g, rfl, hc⟩ := h b hb
  exact ⟨g, rfl, fun j u hj => hg.cell (hc j u hj) (fun e => hA g hb (by simpa using e))⟩

set_option maxRecDepth 100000 in
set_option maxHeartbeats 800000 in
/-- choose, of a value, no stand-in. -/
theorem choose_nil (br bm n0 n cap : Nat) (D : DataW Unit) (ao : Option Addr) (olds : List Value) (sl bl : Int) (v : ByteArray) (w : World) (hn : n ≤ 1024) (hn0 : n0 ≤ 1024) (hv : v.toList.isEmpty = false) (hvs : v.size ≤ maxLen)
    (h3 : w.cell? ⟨br, 3, none⟩ = some .nilFunc) (h17 : w.cell? ⟨br, 17, none⟩ = some (.int .i64 bl)) (h61 : w.cell? ⟨br, 61, none⟩ = some (.map (some bm))) (hown : w.ownsMap Yba.prog 9 boolR bm n0 D) (hbm : ¬ br = bm)
    (hcap : cap < n + 1) (hno : ao = none → n = 0 ∧ cap = 0) (hol : olds.length = n * 3) (holds : Olds w ao olds) (hab : ∀ g, ao = some ⟨g, 0, none⟩ → ¬ g = bm) :
    Calls Yba.prog 11 #[.pointer (some ⟨br, 0, none⟩), .slice ao n cap, .int .i64 sl, .string v] w fun e w' => ∃ W1, w.grownBy W1 (some bm) ∧ W1.ownsMap Yba.prog 9 boolR bm (n0 + 1) (D.put (keyL v) tt) ∧ Chg (fun _ => False) W1 w' ∧ Out W1 w' e n olds sl bl v := by
  obtain ⟨i0, hi0, hz0, hz1, hz2⟩ := info_parts info83
  have hv' : (!v.toList.isEmpty) = true := by rw [hv]; rfl
  go_enter Yba.func11, Yba.ntmps11
  go_wp2_with (first
    | (at_mapUpdate; refine wpList_mapUpdate_own _ rfl _ _ _ 49 rfl 9 4 keyedS Yba.underlying49 boolR bm n0 D rfl hown (by unfold maxLen; omega) _ _ (keyL v) rfl rfl (keyOf_string_mk Yba.underlying9 hvs) tt [] rfl ?_; intro W1 hown1 hgrow1; clear hown)
    | fail)
  have a3 : W1.cell? ⟨br, 3, none⟩ = some .nilFunc := hgrow1.cell h3 (fun e => hbm (by simpa using e))
  have a17 : W1.cell? ⟨br, 17, none⟩ = some (.int .i64 bl) := hgrow1.cell h17 (fun e => hbm (by simpa using e))
  have ho1 := holds.grown hgrow1 hab
  have l := lt_of_cell a3
  have HG := Hid.intro hgrow1
  have HO := Hid.intro hown1
  clear hgrow1 hown1 h3 h17 h61
  go_wp2_with fail
  refine (changeIn_nil br v W1 a3).mono ?_
  rintro e w2 ⟨rfl, hch⟩
  have h17' : w2.cell? ⟨br, 17, none⟩ = some (.int .i64 bl) := (hch.cell _ _ l id).trans a17
  have hs2 := hch.size
  have l2 : br < w2.heap.size := by omega
  clear a3 a17
  go_wp2_with (first
    | (at_builtin; (refine wpList_append_grows _ rfl _ _ 48 rfl 83 i0 (.agg #[.int .i64 0, .int .i64 0, .string ByteArray.empty]) 3 32 Yba.underlying48 hi0 hz0 hz1 hz2 rfl (by decide) ao n cap olds rfl hno hol ?_ ⟨w2.heap.size + 1, 0, none⟩ 1 1 [.int .i64 sl, .int .i64 bl, .string v] rfl rfl ?_ (by simp [Value.oneCell']) hcap (by unfold maxLen; omega) (by omega) ?_))
    | fail)
  case refine_1 => exact (ho1.chg ((hch.alloc _).alloc _) (fun _ _ _ => id)).at_
  case refine_2 => have := cell_three_new (w2.alloc (Obj.cells #[Value.bool false, Value.int IntKind.i64 0, Value.int IntKind.i64 0] 80)) (.int .i64 sl) (.int .i64 bl) (.string v) 83; simpa using this
  intro v' w3 hown hgrow
  obtain ⟨g, cap', rfl, hg1, hg2⟩ := hown.form (by omega)
  have hce := hown.cells (g := g) rfl
  have hch3 : Chg (fun _ => False) W1 w3 := ((hch.alloc _).alloc _).grown hgrow (fun k hk => by cases hk)
  clear hown hgrow
  go_wp2
  go_ret
  exact ⟨W1, HG.out, HO.out, hch3, ⟨g, cap', rfl, by omega, fun j u hj => by have := hce j u hj; rwa [add0] at this⟩⟩

/-- What the stand-in saw, and where it blocked. -/
def Called (w' : World) (bk br : Nat) (v : ByteArray) (z : Int) : Prop :=
  (∃ g cap, w'.cell? ⟨bk, 0, none⟩ = some (.slice (some ⟨g, 0, none⟩) 1 cap) ∧ w'.cell? ⟨g, 0, none⟩ = some (.string v)) ∧ w'.cell? ⟨br, 62, none⟩ = some (.int .i64 z)

set_option maxRecDepth 100000 in
set_option maxHeartbeats 1600000 in
/-- choose, of a value, by the stand-in. -/
theorem choose_call (br bm bk bi n0 n cap : Nat) (ic : Bool) (D : DataW Unit) (ao : Option Addr) (olds : List Value) (sl bl ba : Int) (v : ByteArray) (w : World) (hn : n ≤ 1024) (hn0 : n0 ≤ 1024) (hv : v.toList.isEmpty = false) (hvs : v.size ≤ maxLen)
    (h3 : w.cell? ⟨br, 3, none⟩ = some (.func (.func 10) #[] #[.pointer (some ⟨bk, 0, none⟩), .pointer (some ⟨bi, 0, none⟩)])) (h17 : w.cell? ⟨br, 17, none⟩ = some (.int .i64 bl)) (h61 : w.cell? ⟨br, 61, none⟩ = some (.map (some bm))) (h62 : w.cell? ⟨br, 62, none⟩ = some (.int .i64 ba)) (f62 : w.frozen? ⟨br, 62, none⟩ = false)
    (hown : w.ownsMap Yba.prog 9 boolR bm n0 D) (hbm : ¬ br = bm) (hkm : ¬ bk = bm) (him : ¬ bi = bm) (hik : ¬ bi = bk) (hkr : ¬ br = bk) (hk : w.cell? ⟨bk, 0, none⟩ = some (.slice none 0 0)) (fk : w.frozen? ⟨bk, 0, none⟩ = false) (hi : w.cell? ⟨bi, 0, none⟩ = some (.bool ic))
    (hcap : cap < n + 1) (hno : ao = none → n = 0 ∧ cap = 0) (hol : olds.length = n * 3) (holds : Olds w ao olds) (hab : ∀ g, ao = some ⟨g, 0, none⟩ → ¬ g = bm ∧ ¬ g = bk ∧ ¬ g = br) :
    Calls Yba.prog 11 #[.pointer (some ⟨br, 0, none⟩), .slice ao n cap, .int .i64 sl, .string v] w fun e w' => ∃ W1, w.grownBy W1 (some bm) ∧ W1.ownsMap Yba.prog 9 boolR bm (n0 + 1) (D.put (keyL v) tt) ∧ Chg (fun a => a = ⟨bk, 0, none⟩ ∨ a = ⟨br, 62, none⟩) W1 w' ∧ Out W1 w' e n olds sl bl v ∧ Called w' bk br v (if ic then sl else ba) := by
  obtain ⟨i0, hi0, hz0, hz1, hz2⟩ := info_parts info83
  have hv' : (!v.toList.isEmpty) = true := by rw [hv]; rfl
  go_enter Yba.func11, Yba.ntmps11
  go_wp2_with (first
    | (at_mapUpdate; refine wpList_mapUpdate_own _ rfl _ _ _ 49 rfl 9 4 keyedS Yba.underlying49 boolR bm n0 D rfl hown (by unfold maxLen; omega) _ _ (keyL v) rfl rfl (keyOf_string_mk Yba.underlying9 hvs) tt [] rfl ?_; intro W1 hown1 hgrow1; clear hown)
    | fail)
  have nr : some br ≠ some bm := fun e => hbm (by simpa using e)
  have nk : some bk ≠ some bm := fun e => hkm (by simpa using e)
  have a3 := hgrow1.cell h3 nr
  have a17 := hgrow1.cell h17 nr
  have a62 := hgrow1.cell h62 nr
  have g62 : W1.frozen? ⟨br, 62, none⟩ = false := by rw [hgrow1.frozen_far ⟨br, 62, none⟩ (lt_of_cell h62) nr]; exact f62
  have ak := hgrow1.cell hk nk
  have gk : W1.frozen? ⟨bk, 0, none⟩ = false := by rw [hgrow1.frozen_far ⟨bk, 0, none⟩ (lt_of_cell hk) nk]; exact fk
  have ai := hgrow1.cell hi (fun e => him (by simpa using e))
  have ho1 := holds.grown hgrow1 (fun g hg => (hab g hg).1)
  have l := lt_of_cell a3
  have HG := Hid.intro hgrow1
  have HO := Hid.intro hown1
  clear hgrow1 hown1 h3 h17 h61 h62 f62 hk fk hi nr nk
  go_wp2_with fail
  refine (changeIn_call br bk bi ic v W1 hv a3 hik ak gk ai).mono ?_
  rintro e w2 ⟨rfl, ⟨gc, capc, hgc0, hgc1, hgc2⟩, hch⟩
  have nb : ∀ o, ¬ (⟨br, o, none⟩ : Addr) = ⟨bk, 0, none⟩ := fun o e => hkr (congrArg Addr.block e)
  have h17' := (hch.cell _ _ l (nb 17)).trans a17
  have h62' := (hch.cell _ _ l (nb 62)).trans a62
  have f62' := (hch.fro br 62 l).trans g62
  have hs2 := hch.size
  have l2 : br < w2.heap.size := by omega
  have lk2 := lt_of_cell hgc1
  have lg2 := lt_of_cell hgc2
  have ho2 := ho1.chg hch (fun g o hg e => (hab g hg).2.1 (congrArg Addr.block e))
  have hch' : Chg (fun a => a = ⟨bk, 0, none⟩ ∨ a = ⟨br, 62, none⟩) W1 w2 := hch.mono (fun _ h => .inl h)
  clear a3 a17 a62 g62 ak gk ai hch ho1
  cases ic
  · go_wp2_with (first
      | (at_builtin; (refine wpList_append_grows _ rfl _ _ 48 rfl 83 i0 (.agg #[.int .i64 0, .int .i64 0, .string ByteArray.empty]) 3 32 Yba.underlying48 hi0 hz0 hz1 hz2 rfl (by decide) ao n cap olds rfl hno hol ?_ ⟨w2.heap.size + 1, 0, none⟩ 1 1 [.int .i64 sl, .int .i64 bl, .string v] rfl rfl ?_ (by simp [Value.oneCell']) hcap (by unfold maxLen; omega) (by omega) ?_))
      | fail)
    case refine_1 => exact (ho2.chg (((Chg.refl (fun _ => False) w2).alloc _).alloc _) (fun _ _ _ => id)).at_
    case refine_2 => have := cell_three_new (w2.alloc (Obj.cells #[Value.bool false, Value.int IntKind.i64 1, Value.int IntKind.i64 0] 80)) (.int .i64 sl) (.int .i64 bl) (.string v) 83; simpa using this
    intro v' w3 hown hgrow
    obtain ⟨g, cap', rfl, hg1, hg2⟩ := hown.form (by omega)
    have hce := hown.cells (g := g) rfl
    have hc2 : Chg (fun _ => False) w2 w3 := ((((Chg.refl (fun _ => False) w2).alloc _).alloc _)).grown hgrow (fun k hk => by cases hk)
    clear hown hgrow
    go_wp2
    go_ret
    exact ⟨W1, HG.out, HO.out, hch'.trans (hc2.mono (fun _ h => h.elim)), ⟨g, cap', rfl, by omega, fun j u hj => by have := hce j u hj; rwa [add0] at this⟩, ⟨⟨gc, capc, (hc2.cell _ _ lk2 id).trans hgc1, (hc2.cell _ _ lg2 id).trans hgc2⟩, (hc2.cell _ _ l2 id).trans h62'⟩⟩
  · have hcs : Chg (fun a => a = ⟨br, 62, none⟩) w2 (w2.setCell ⟨br, 62, none⟩ (.int .i64 sl)) := (Chg.refl (fun a : Addr => a = ⟨br, 62, none⟩) w2).setCell (bl := br) (of := 62) rfl _
    go_wp2_with (first
      | (at_builtin; (refine wpList_append_grows _ rfl _ _ 48 rfl 83 i0 (.agg #[.int .i64 0, .int .i64 0, .string ByteArray.empty]) 3 32 Yba.underlying48 hi0 hz0 hz1 hz2 rfl (by decide) ao n cap olds rfl hno hol ?_ ⟨w2.heap.size + 1, 0, none⟩ 1 1 [.int .i64 sl, .int .i64 bl, .string v] rfl rfl ?_ (by simp [Value.oneCell']) hcap (by unfold maxLen; omega) (by omega) ?_))
      | fail)
    case refine_1 => exact (ho2.chg ((hcs.alloc _).alloc _) (fun g o hg e => (hab g hg).2.2 (congrArg Addr.block e))).at_
    case refine_2 => have := cell_three_new ((w2.setCell ⟨br, 62, none⟩ (.int .i64 sl)).alloc (Obj.cells #[Value.bool false, Value.int IntKind.i64 1, Value.int IntKind.i64 0] 80)) (.int .i64 sl) (.int .i64 bl) (.string v) 83; simpa using this
    intro v' w3 hown hgrow
    obtain ⟨g, cap', rfl, hg1, hg2⟩ := hown.form (by omega)
    have hce := hown.cells (g := g) rfl
    have hc2 : Chg (fun a => a = ⟨br, 62, none⟩) w2 w3 := ((hcs.alloc _).alloc _).grown hgrow (fun k hk => by cases hk)
    have e62 : w3.cell? ⟨br, 62, none⟩ = some (.int .i64 sl) := by
      refine hgrow.cell ?_ (by simp)
      rw [World.cell?_alloc_past _ _ _ (by simp [World.setCell]; omega), World.cell?_alloc_past _ _ _ (by simpa [World.setCell] using l2)]
      exact World.cell?_setCell_same _ _ _ h62'
    clear hown hgrow
    go_wp2
    go_ret
    have ngr : ¬ gc = br := by omega
    exact ⟨W1, HG.out, HO.out, hch'.trans (hc2.mono (fun _ h => .inr h)), ⟨g, cap', rfl, by omega, fun j u hj => by have := hce j u hj; rwa [add0] at this⟩, ⟨⟨gc, capc, (hc2.cell _ _ lk2 (fun e => hkr (congrArg Addr.block e).symm)).trans hgc1, (hc2.cell _ _ lg2 (fun e => ngr (congrArg Addr.block e))).trans hgc2⟩, e62⟩⟩
end Go.Proofs.Ybulkczau
