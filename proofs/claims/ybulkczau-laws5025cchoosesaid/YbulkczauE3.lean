import Derived.Test.YbulkczauE2
import Derived.ArgAppend
namespace Go.Proofs.Ybulkczau
open Go.RowKit Go.Maps Go.WideMaps

/-- How an element of the set reads. -/
def boolR (v : Value) : Option (DataW Unit × List MemPlace) := match v with | .bool x => some (.lit (.bool x), []) | _ => none
def tt : DataW Unit := .lit (.bool true)
def keyL (k : ByteArray) : Lit := .string k.data.toList
theorem keyedS : Keyed Yba.prog 9 := string_keyed Yba.underlying9
theorem keyL_inj {a b : ByteArray} (h : keyL a = keyL b) : a = b := by
  unfold keyL at h
  exact WideShapes.bytes_inj (by simpa using h)
theorem keyL_key (k : ByteArray) : WideAt.IsKeyLit (keyL k) := trivial

/-- Every element is true; no key twice. -/
structure AllT (D : DataW Unit) : Prop where
  at_ : ∀ k, Maps.has D k = true → ∀ z, D.atKey k z = tt
  tidy : Maps.Tidy D
theorem allT_empty : AllT (.map []) := ⟨fun k h => by simp [Maps.has] at h, Maps.tidy_empty⟩
theorem AllT.put {D : DataW Unit} (h : AllT D) (k : ByteArray) : AllT (D.put (keyL k) tt) := by
  refine ⟨fun x hx z => ?_, h.tidy.put (keyL_key k) _⟩
  by_cases e : x = keyL k
  · rw [e]; exact Maps.atKey_put_same h.tidy.isMap (keyL_key k) _ _
  · rw [Maps.atKey_put_other e]
    rw [Maps.has_put_other e] at hx
    exact h.at_ x hx z

theorem look_eq {w : World} {b n : Nat} {D : DataW Unit} (h : w.ownsMap Yba.prog 9 boolR b n D) (hD : AllT D) {s : ByteArray} (hs : s.size ≤ maxLen) :
    (Instr.lookup 49 (.map (some b)) (.string s) false).run Yba.prog w = .ok (.bool (Maps.has D (keyL s))) w := by
  have hz : (zeroValue 4).run Yba.prog w = .ok (.bool false) w := Yba.zeroValue4 w
  obtain ⟨v, ps, hrun, hv⟩ := h.lookup keyedS Yba.underlying49 hz (show boolR (.bool false) = some (.lit (.bool false), []) from rfl) (keyOf_string_mk Yba.underlying9 hs)
  rw [hrun]
  cases hh : Maps.has D (keyL s)
  · have : D.atKey (.string s.data.toList) (.lit (.bool false)) = .lit (.bool false) := Maps.atKey_of_not_has hh _
    rw [this] at hv
    unfold boolR at hv
    split at hv
    · simp at hv; rw [hv.1]
    · cases hv
  · have : D.atKey (.string s.data.toList) (.lit (.bool false)) = tt := hD.at_ _ hh _
    rw [this] at hv
    unfold boolR tt at hv
    split at hv
    · simp at hv; rw [hv.1]
    · cases hv

theorem own_chg {A : Addr → Prop} {w W : World} {b n : Nat} {D : DataW Unit} (h : w.ownsMap Yba.prog 9 boolR b n D) (hc : Chg A w W) (hA : ∀ o, ¬ A ⟨b, o, none⟩) : W.ownsMap Yba.prog 9 boolR b n D := by
  have hlt := h.lt
  obtain ⟨es, clock, hb, rest⟩ := h
  exact ⟨es, clock, (hc.blk b hlt hA).trans hb, rest⟩
/-- The slice that comes back: n + 1 elements, three cells each. -/
def Out (w w' : World) (e : Ending) (n : Nat) (olds : List Value) (sl bl : Int) (v : ByteArray) : Prop :=
  ∃ g cap, e = .returned (.slice (some ⟨g, 0, none⟩) (n + 1) cap) ∧ w.heap.size ≤ g ∧ ∀ j u, (olds ++ [.int .i64 sl, .int .i64 bl, .string v])[j]? = some u → w'.cell? ⟨g, j, none⟩ = some u

theorem cell_three_new (w : World) (x y z : Value) (t : TypeId) : ∀ j u, [x, y, z][j]? = some u → (w.alloc (.cells #[x, y, z] t)).cell? ((⟨w.heap.size, 0, none⟩ : Addr).add j) = some u := by
  intro j u hj
  have hadd : (⟨w.heap.size, 0, none⟩ : Addr).add j = ⟨w.heap.size, j, none⟩ := by unfold Addr.add; split <;> simp_all
  rw [hadd, World.cell?_alloc_at _ _ _ _ rfl]
  simpa using hj

theorem add0 (g j : Nat) : (⟨g, 0, none⟩ : Addr).add j = ⟨g, j, none⟩ := by unfold Addr.add; split <;> simp_all
/-- What the slice that is appended to holds. -/
def Olds (w : World) (ao : Option Addr) (olds : List Value) : Prop := ∀ b, ao = some b → ∃ g, b = ⟨g, 0, none⟩ ∧ ∀ j u, olds[j]? = some u → w.cell? ⟨g, j, none⟩ = some u
theorem Olds.chg {A : Addr → Prop} {w W : World} {ao : Option Addr} {olds : List Value} (h : Olds w ao olds) (hc : Chg A w W) (hA : ∀ g o, ao = some ⟨g, 0, none⟩ → ¬ A ⟨g, o, none⟩) : Olds W ao olds := fun b hb => by
  obtain ⟨g, rfl, hg⟩ := h b hb
  refine ⟨g, rfl, fun j u hj => ?_⟩
  rw [hc.cell _ _ (lt_of_cell (hg j u hj)) (hA g j hb)]; exact hg j u hj
theorem Olds.at_ {w : World} {ao : Option Addr} {olds : List Value} (h : Olds w ao olds) : ∀ b, ao = some b → ∀ j u, olds[j]? = some u → w.cell? (b.add j) = some u := fun b hb j u hj => by
  obtain ⟨g, rfl, hg⟩ := h b hb
  rw [add0]; exact hg j u hj

set_option maxRecDepth 100000 in
set_option maxHeartbeats 800000 in
/-- choose, of the filler. -/
theorem choose_fill (br n cap : Nat) (ao : Option Addr) (olds : List Value) (f : Value) (hf : f = .nilFunc ∨ ∃ bk bi, f = .func (.func 10) #[] #[.pointer (some ⟨bk, 0, none⟩), .pointer (some ⟨bi, 0, none⟩)]) (sl bl : Int) (v : ByteArray) (w : World) (hn : n ≤ 1024) (hv : v.toList.isEmpty = true)
    (h3 : w.cell? ⟨br, 3, none⟩ = some f) (h17 : w.cell? ⟨br, 17, none⟩ = some (.int .i64 bl)) (hcap : cap < n + 1) (hno : ao = none → n = 0 ∧ cap = 0) (hol : olds.length = n * 3) (holds : Olds w ao olds) :
    Calls Yba.prog 11 #[.pointer (some ⟨br, 0, none⟩), .slice ao n cap, .int .i64 sl, .string v] w fun e w' => Out w w' e n olds sl bl v ∧ Chg (fun _ => False) w w' := by
  obtain ⟨i0, hi0, hz0, hz1, hz2⟩ := info_parts info83
  have l := lt_of_cell h3
  have hv' : (!v.toList.isEmpty) = false := by rw [hv]; rfl
  have HC : Hid (Calls Yba.prog 21 #[.pointer (some ⟨br, 0, none⟩), .string v] w fun e w' => e = .returned (.tuple #[.agg #[.bool false, .int .i64 0, .int .i64 0], .bool false]) ∧ Chg (fun _ => False) w w') := by
    rcases hf with rfl | ⟨bk, bi, rfl⟩
    · exact changeIn_nil br v w h3
    · exact changeIn_filler br bk bi v w hv h3
  clear hf h3
  go_enter Yba.func11, Yba.ntmps11
  go_wp2_with fail
  refine Calls.mono HC.out ?_
  rintro e w2 ⟨rfl, hch⟩
  have h17' : w2.cell? ⟨br, 17, none⟩ = some (.int .i64 bl) := (hch.cell _ _ l id).trans h17
  have hs2 := hch.size
  have l2 : br < w2.heap.size := by omega
  clear HC h17
  go_wp2_with (first
    | (at_builtin; (refine wpList_append_grows _ rfl _ _ 48 rfl 83 i0 (.agg #[.int .i64 0, .int .i64 0, .string ByteArray.empty]) 3 32 Yba.underlying48 hi0 hz0 hz1 hz2 rfl (by decide) ao n cap olds rfl hno hol ?_ ⟨w2.heap.size + 1, 0, none⟩ 1 1 [.int .i64 sl, .int .i64 bl, .string v] rfl rfl ?_ (by simp [Value.oneCell']) hcap (by unfold maxLen; omega) (by omega) ?_))
    | fail)
  case refine_1 => exact (holds.chg ((hch.alloc _).alloc _) (fun _ _ _ => id)).at_
  case refine_2 => have := cell_three_new (w2.alloc (Obj.cells #[Value.bool false, Value.int IntKind.i64 0, Value.int IntKind.i64 0] 80)) (.int .i64 sl) (.int .i64 bl) (.string v) 83; simpa using this
  intro v' w3 hown hgrow
  obtain ⟨g, cap', rfl, hg1, hg2⟩ := hown.form (by omega)
  have hce := hown.cells (g := g) rfl
  have hch3 : Chg (fun _ => False) w w3 := ((hch.alloc _).alloc _).grown hgrow (fun k hk => by cases hk)
  clear hown hgrow
  go_wp2
  go_ret
  exact ⟨⟨g, cap', rfl, by omega, fun j u hj => by have := hce j u hj; rwa [add0] at this⟩, hch3⟩
end Go.Proofs.Ybulkczau
