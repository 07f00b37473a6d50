import Derived.Test.YbulkcyyqW5
import Derived.Test.YbulkcyyqP1
namespace Go.Proofs.Ybulkcyyq
open Go.RowKit Go.Maps Go.WideMaps

/-- WHAT THE WALK IS TOLD OF THE ENTRIES THAT CAME IN: there are none; or they lie in a row, three cells each. -/
def Src (w : World) (a : Option Addr) (n : Nat) (K V : Nat → ByteArray) (Dl : Nat → Bool) : Prop :=
  n = 0 ∨ 0 < n ∧ ∃ b off, a = some ⟨b, off, none⟩ ∧ (∀ i, i < n → w.cell? ⟨b, off + i * 3, none⟩ = some (.string (K i)) ∧ (K i).size ≤ maxLen) ∧
    (∀ i, i < n → w.cell? ⟨b, off + i * 3 + 1, none⟩ = some (.string (V i))) ∧ (∀ i, i < n → w.cell? ⟨b, off + i * 3 + 1 + 1, none⟩ = some (.bool (Dl i)))

theorem Src.below {w w' : World} {a : Option Addr} {n : Nat} {K V : Nat → ByteArray} {Dl : Nat → Bool} (h : Src w a n K V Dl) (hb : Below w.heap.size w w') : Src w' a n K V Dl := by
  rcases h with h | ⟨h0, b, off, ha, hK, hV, hD⟩
  · exact .inl h
  · have hbs : b < w.heap.size := lt_of_cell (hK 0 h0).1
    exact .inr ⟨h0, b, off, ha, fun i hi => ⟨by rw [hb.cell (p := ⟨b, _, none⟩) hbs]; exact (hK i hi).1, (hK i hi).2⟩, fun i hi => by rw [hb.cell (p := ⟨b, _, none⟩) hbs]; exact hV i hi,
      fun i hi => by rw [hb.cell (p := ⟨b, _, none⟩) hbs]; exact hD i hi⟩

theorem lastG {w : World} {a : Option Addr} {n : Nat} {K V : Nat → ByteArray} {Dl : Nat → Bool} (h : Src w a n K V Dl) (cap : Nat) (k : ByteArray) (hn : n ≤ 1024) :
    Calls Yba.prog 9 #[.slice a n cap, .string k] w fun e w' => e = .returned (.int .i64 (lastUp K k n)) ∧ w' = w := by
  rcases h with rfl | ⟨_, b, off, rfl, hK, _, _⟩
  · exact last_nil a cap K k w
  · exact last_any b off n cap K k w hn (fun i hi => (hK i hi).1)

theorem countsG {w : World} {a : Option Addr} {n : Nat} {K V : Nat → ByteArray} {Dl : Nat → Bool} (h : Src w a n K V Dl) (cap : Nat) (hn : n ≤ 1024) :
    Calls Yba.prog 8 #[.slice a n cap] w fun e w' => e = .returned (.tuple #[.int .i64 (distUp K n n : Nat), .int .i64 (liveUp K Dl n n : Nat)]) ∧ Below w.heap.size w w' := by
  rcases h with rfl | ⟨_, b, off, rfl, hK, hV, hD⟩
  · exact counts_nil a cap K Dl w
  · exact counts_any b off n cap K V Dl w hn (fun i hi => (hK i hi).1) hV hD

/-- The store's map: nil, or a map that reads as D. -/
def MapIs (w : World) (r : Option Nat) (n : Nat) (D : DataW Unit) : Prop := (r = none ∧ D = .map []) ∨ ∃ bm, r = some bm ∧ w.ownsMap Yba.prog 9 entR bm n D

theorem buildG {w : World} {a : Option Addr} {n : Nat} {K V : Nat → ByteArray} {Dl : Nat → Bool} (h : Src w a n K V Dl) (cap : Nat) (nm : Bool) (hn : n ≤ 1024) :
    Calls Yba.prog 5 #[.slice a n cap, .bool nm] w fun e w' => e = .returned (.pointer (some ⟨w.heap.size, 0, none⟩)) ∧ Below w.heap.size w w' ∧ w.heap.size < w'.heap.size ∧
      ∃ r, w'.cell? ⟨w.heap.size, 0, none⟩ = some (.map r) ∧ MapIs w' r n (buildD K V Dl n) := by
  rcases h with rfl | ⟨h0, b, off, rfl, hK, hV, hD⟩
  · cases nm
    · exact (build_none a cap K V Dl w).mono fun e w' ⟨h1, h2, h3, h4⟩ => ⟨h1, h2, by have := h4.lt; omega, _, h3, .inr ⟨_, rfl, h4⟩⟩
    · exact (build_nil a cap w).mono fun e w' ⟨h1, h2, h3, h4⟩ => ⟨h1, h2, h4, _, h3, .inl ⟨rfl, rfl⟩⟩
  · exact (build_any b off n cap nm K V Dl w hn h0 hK hV hD).mono fun e w' ⟨h1, h2, h3, h4⟩ => ⟨h1, h2, by have := h4.lt; omega, _, h3, .inr ⟨_, rfl, h4⟩⟩

set_option maxHeartbeats 400000 in
theorem allS_nil (bs os bc bl : Nat) (w : World) (hs : w.cell? ⟨bs, 0, none⟩ = some (.pointer (some ⟨os, 0, none⟩))) (hm : w.cell? ⟨os, 0, none⟩ = some (.map none)) :
    Calls Yba.prog 11 #[.func (.func 10) #[] #[.pointer (some ⟨bc, 0, none⟩), .pointer (some ⟨bl, 0, none⟩)], .pointer (some ⟨bs, 0, none⟩)] w fun e w' =>
      e = .returned (.tuple #[]) ∧ w' = w.alloc (.mapIter none 0 #[] 0) := by
  have hrg := run_range_nilMap (P := Yba.prog) w 35 9 44 Yba.underlying35
  have hnx : ∀ ty, (Instr.next (.pointer (some ⟨w.heap.size, 0, none⟩)) false ty).run Yba.prog (w.alloc (.mapIter none 0 #[] 0)) = _ := fun ty => run_next_nilMap w ty 0 0 #[]
  go_enter Yba.func11, Yba.ntmps11
  go_wp2
  refine wp_loop_rounds 1 ?_
  rw [rounds_succ]
  go_wp2
  go_end0
  exact ⟨rfl, rfl⟩

theorem allSG (bs bc bl os n lim : Nat) (r : Option Nat) (D : DataW Unit) (w : World) (hlim : 0 < lim) (hlim' : lim ≤ 256)
    (hs : w.cell? ⟨bs, 0, none⟩ = some (.pointer (some ⟨os, 0, none⟩))) (hm : w.cell? ⟨os, 0, none⟩ = some (.map r)) (hown : MapIs w r n D)
    (hc : w.cell? ⟨bc, 0, none⟩ = some (.int .i64 0)) (hf : w.frozen? ⟨bc, 0, none⟩ = false) (hl : w.cell? ⟨bl, 0, none⟩ = some (.int .i64 lim)) (hbl : bl < bc) (hbm : ∀ bm, r = some bm → bm < bc) (hbc : bc < w.heap.size) :
    Calls Yba.prog 11 #[.func (.func 10) #[] #[.pointer (some ⟨bc, 0, none⟩), .pointer (some ⟨bl, 0, none⟩)], .pointer (some ⟨bs, 0, none⟩)] w fun e w' =>
      e = .returned (.tuple #[]) ∧ Below bc w w' ∧ ∃ (left : Lit → Bool) (L : List (ByteArray × ByteArray)), Vis D left L ∧ w'.cell? ⟨bc, 0, none⟩ = some (.int .i64 L.length) ∧ ((∀ kl, left kl = false) ∧ L.length < lim ∨ L.length = lim) := by
  rcases hown with ⟨rfl, rfl⟩ | ⟨bm, rfl, hown⟩
  · refine (allS_nil bs os bc bl w hs hm).mono fun e w' ⟨h1, h2⟩ => ⟨h1, ?_, fun _ => false, [], ⟨fun k v => ⟨fun h => by simp at h, fun h => by have := h.1; simp [Maps.has] at this⟩, by simp⟩, ?_, .inl ⟨fun _ => rfl, hlim⟩⟩
    · rw [h2]; exact (Below.refl _ _).alloc (by omega) _
    · rw [h2, World.cell?_alloc_past _ _ _ hbc]; exact hc
  · exact (allS bs bm bc bl os n lim D w hlim hlim' hs hm hown hc hf hl hbl (hbm bm rfl) hbc).mono fun e w' ⟨h1, left, L, h2, h3, h4, h5⟩ => ⟨h1, h5, left, L, h2, h3, h4⟩

/-- Three variables laid one behind another. -/
theorem three (w1 : World) (x y z : Value) (tx ty tz : TypeId) :
    (((w1.alloc (.cells #[x] tx)).alloc (.cells #[y] ty)).alloc (.cells #[z] tz)).cell? ⟨w1.heap.size, 0, none⟩ = some x ∧
    (((w1.alloc (.cells #[x] tx)).alloc (.cells #[y] ty)).alloc (.cells #[z] tz)).cell? ⟨w1.heap.size + 1, 0, none⟩ = some y ∧
    (((w1.alloc (.cells #[x] tx)).alloc (.cells #[y] ty)).alloc (.cells #[z] tz)).cell? ⟨w1.heap.size + 1 + 1, 0, none⟩ = some z ∧
    (((w1.alloc (.cells #[x] tx)).alloc (.cells #[y] ty)).alloc (.cells #[z] tz)).frozen? ⟨w1.heap.size, 0, none⟩ = false ∧
    (((w1.alloc (.cells #[x] tx)).alloc (.cells #[y] ty)).alloc (.cells #[z] tz)).frozen? ⟨w1.heap.size + 1, 0, none⟩ = false ∧
    w1.grownBy (((w1.alloc (.cells #[x] tx)).alloc (.cells #[y] ty)).alloc (.cells #[z] tz)) none ∧
    (((w1.alloc (.cells #[x] tx)).alloc (.cells #[y] ty)).alloc (.cells #[z] tz)).heap.size = w1.heap.size + 3 := by
  refine ⟨?_, ?_, ?_, ?_, ?_, ((World.grownBy_alloc _ _ _).trans (World.grownBy_alloc _ _ _)).trans (World.grownBy_alloc _ _ _), by simp⟩
  · rw [World.cell?_alloc_past _ _ _ (by simp; omega), World.cell?_alloc_past _ _ _ (by simp)]; exact World.cell?_alloc_at _ _ _ _ rfl
  · rw [World.cell?_alloc_past _ _ _ (by simp)]; exact World.cell?_alloc_at _ _ _ _ (by simp)
  · exact World.cell?_alloc_at _ _ _ _ (by simp)
  · rw [World.frozen?_alloc_past _ _ _ (by simp; omega), World.frozen?_alloc_past _ _ _ (by simp)]; exact World.frozen?_alloc_at _ _ _ _ rfl
  · rw [World.frozen?_alloc_past _ _ _ (by simp)]; exact World.frozen?_alloc_at _ _ _ _ (by simp)

theorem MapIs.kept {w w' : World} {r : Option Nat} {n : Nat} {D : DataW Unit} (h : MapIs w r n D) {row : Option Nat} (hg : w.grownBy w' row) (hr : ∀ j, row = some j → w.heap.size ≤ j) : MapIs w' r n D := by
  rcases h with h | ⟨bm, rfl, h⟩
  · exact .inl h
  · exact .inr ⟨bm, rfl, h.kept hg (fun e => by have := hr bm e.symm; have := h.lt; omega)⟩
theorem MapIs.lt {w : World} {r : Option Nat} {n : Nat} {D : DataW Unit} (h : MapIs w r n D) : ∀ bm, r = some bm → bm < w.heap.size := by
  intro bm hr
  rcases h with ⟨h, _⟩ | ⟨bm', h', h⟩
  · rw [h] at hr; cases hr
  · rw [h'] at hr; cases hr; exact h.lt

/-- calls = min(limit, live). -/
theorem stop_num {K V : Nat → ByteArray} {Dl : Nat → Bool} {n lim : Nat} {left : Lit → Bool} {L : List (ByteArray × ByteArray)} (h : Vis (buildD K V Dl n) left L) (hor : (∀ kl, left kl = false) ∧ L.length < lim ∨ L.length = lim) :
    (lim < liveUp K Dl n n → L.length = lim) ∧ (¬ lim < liveUp K Dl n n → L.length = liveUp K Dl n n) := by
  have h1 := vis_le h
  rcases hor with ⟨h2, h3⟩ | h2
  · have := vis_all h h2
    exact ⟨fun _ => by omega, fun _ => this⟩
  · exact ⟨fun _ => h2, fun _ => by omega⟩

set_option maxHeartbeats 400000 in
theorem stop_any (a : Option Addr) (n cap : Nat) (nm : Bool) (st : Nat) (K V : Nat → ByteArray) (Dl : Nat → Bool) (w : World) (hn : n ≤ 1024) (hst : st ≤ 255) (hsrc : Src w a n K V Dl) :
    Calls Yba.prog 4 #[.slice a n cap, .bool nm, .int .u8 st] w fun e w' => e = .returned (.bool true) ∧ Below w.heap.size w w' := by
  have hmf : ∀ (fn : Fn) (first cap : Array Value) (w : World), (Instr.makeFunc fn first cap).run Yba.prog w = .ok (.func fn first cap) w := fun _ _ _ _ => rfl
  have hn' : ¬ (1024 : Int) < (n : Int) := by omega
  have hl := liveUp_le K Dl n n
  go_enter Yba.func4, Yba.ntmps4
  go_wp2_with fail
  refine (buildG hsrc cap nm hn).mono ?_
  rintro e w1 ⟨rfl, hbel, hsz, r, hcell, hmap⟩
  go_wp2_with fail
  refine (all_any _ _ _).mono ?_
  rintro e w2 ⟨rfl, rfl⟩
  go_wp2_with fail
  refine (allSG _ (w1.heap.size + 1) w1.heap.size w.heap.size n (st + 1) r (buildD K V Dl n) _ (by omega) (by omega) ?_ ?_ ?_ ?_ ?_ ?_ (by omega) ?_ ?_).mono ?_
  · exact (three w1 _ _ _ _ _ _).2.2.1
  · exact (three w1 _ _ _ _ _ _).2.2.2.2.2.1.cell hcell (by simp)
  · exact hmap.kept (three w1 _ _ _ _ _ _).2.2.2.2.2.1 (by simp)
  · exact (three w1 _ _ _ _ _ _).2.1
  · exact (three w1 _ _ _ _ _ _).2.2.2.2.1
  · exact (three w1 _ _ _ _ _ _).1
  · intro bm hbm; have := hmap.lt bm hbm; omega
  · rw [(three w1 _ _ _ _ _ _).2.2.2.2.2.2]; omega
  rintro e w4 ⟨rfl, hbel4, left, L, hvis, hcw, hor⟩
  have hT := three w1 (.int .i64 ((st : Int) + 1)) (.int .i64 0) (.pointer (some ⟨w.heap.size, 0, none⟩)) 3 3 23
  have hlim4 : w4.cell? ⟨w1.heap.size, 0, none⟩ = some (.int .i64 ((st : Int) + 1)) := by rw [hbel4.cell (p := ⟨w1.heap.size, 0, none⟩) (by simp)]; exact hT.1
  have hs4 : w1.heap.size + 3 ≤ w4.heap.size := by have := hbel4.size; rw [hT.2.2.2.2.2.2] at this; exact this
  have hbelow4 : Below w.heap.size w w4 := (hbel.grown hT.2.2.2.2.2.1 (by omega) (by simp)).trans (hbel4.mono (by omega))
  have hsrc4 := hsrc.below hbelow4
  have hnum := stop_num hvis hor
  clear hT hbel4 hsrc hvis hor hmap hcell hbel
  have HN : Hid _ := hnum
  clear hnum
  go_wp2_with fail
  refine (countsG hsrc4 cap hn).mono ?_
  rintro e w5 ⟨rfl, hbel5⟩
  have hcw5 : w5.cell? ⟨w1.heap.size + 1, 0, none⟩ = some (.int .i64 L.length) := by rw [hbel5.cell (p := ⟨w1.heap.size + 1, 0, none⟩) (show w1.heap.size + 1 < w4.heap.size by omega)]; exact hcw
  have hlim5 : w5.cell? ⟨w1.heap.size, 0, none⟩ = some (.int .i64 ((st : Int) + 1)) := by rw [hbel5.cell (p := ⟨w1.heap.size, 0, none⟩) (show w1.heap.size < w4.heap.size by omega)]; exact hlim4
  have hbelow5 : Below w.heap.size w w5 := hbelow4.trans (hbel5.mono (by omega))
  clear hcw hlim4 hbel5 hbelow4 hsrc4
  by_cases hlt : (st : Int) + 1 < (liveUp K Dl n n : Nat)
  · have e := HN.out.1 (by omega)
    have e2 : ((L.length : Int) == (st : Int) + 1) = true := by simp; omega
    go_wp2
    go_ret
    exact ⟨rfl, hbelow5⟩
  · have e := HN.out.2 (by omega)
    have e2 : ((L.length : Int) == (liveUp K Dl n n : Int)) = true := by simp; omega
    go_wp2
    go_ret
    exact ⟨rfl, hbelow5⟩
end Go.Proofs.Ybulkcyyq
