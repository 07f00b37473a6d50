import Derived.Test.YbulkcyyqC2
import Derived.Deep.QuietTactic
import Derived.BigQuiet
namespace Go.Proofs.Ybulkcyyq
open Go.RowKit Go.Maps Go.WideMaps

theorem rowForm {w : World} {base : Nat} {v : Value} {n : Nat} {xs : List Value} (h : w.ownsRow base 9 1 v n xs) : ∃ a c, v = .slice a n c ∧ (0 < n → ∃ g, a = some ⟨g, 0, none⟩ ∧ g < w.heap.size ∧ ∀ i, i < n → w.cell? ⟨g, i, none⟩ = xs[i]?) := by
  rcases h.2 with ⟨rfl, h0⟩ | ⟨g, cap, cur, hv, hb, hg, _⟩
  · subst h0; exact ⟨none, 0, rfl, fun h => absurd h (Nat.lt_irrefl _)⟩
  · subst hv
    refine ⟨_, cap, rfl, fun _ => ⟨g, rfl, (Array.getElem?_eq_some_iff.1 hg).1, fun i hi => h.cellAt i (by omega)⟩⟩

/-- All that the checking loops read. -/
structure CF (w : World) (bk bv gk gv ck cv N : Nat) (A B : Nat → ByteArray) : Prop where
  k : w.cell? ⟨bk, 0, none⟩ = some (.slice (some ⟨gk, 0, none⟩) N ck)
  v : w.cell? ⟨bv, 0, none⟩ = some (.slice (some ⟨gv, 0, none⟩) N cv)
  a : ∀ i, i < N → w.cell? ⟨gk, i, none⟩ = some (.string (A i))
  b : ∀ i, i < N → w.cell? ⟨gv, i, none⟩ = some (.string (B i))
theorem CF.below {w w' : World} {bk bv gk gv ck cv N : Nat} {A B : Nat → ByteArray} (h : CF w bk bv gk gv ck cv N A B) (hb : Below w.heap.size w w') : CF w' bk bv gk gv ck cv N A B :=
  ⟨by rw [hb.cell (p := ⟨bk, 0, none⟩) (lt_of_cell h.k)]; exact h.k, by rw [hb.cell (p := ⟨bv, 0, none⟩) (lt_of_cell h.v)]; exact h.v,
   fun i hi => by rw [hb.cell (p := ⟨gk, i, none⟩) (lt_of_cell (h.a i hi))]; exact h.a i hi, fun i hi => by rw [hb.cell (p := ⟨gv, i, none⟩) (lt_of_cell (h.b i hi))]; exact h.b i hi⟩

/-- Three new variables behind one another, the second the last but one: the call's own frame. -/
theorem kv_start (w1 : World) (x : Value) (tx : TypeId) : KV (((w1.alloc (.cells #[.slice none 0 0] 25)).alloc (.cells #[.slice none 0 0] 25)).alloc (.cells #[x] tx)) w1.heap.size (w1.heap.size + 1) ((((w1.alloc (.cells #[.slice none 0 0] 25)).alloc (.cells #[.slice none 0 0] 25)).alloc (.cells #[x] tx)).heap.size + 1) [] (.slice none 0 0) (.slice none 0 0) :=
  have h := three w1 (.slice none 0 0) (.slice none 0 0) x 25 25 tx
  ⟨h.1, h.2.1, h.2.2.2.1, h.2.2.2.2.1, World.ownsRow_nil _ _ _ _, World.ownsRow_nil _ _ _ _, .inl rfl⟩

theorem MapIs.below {w w' : World} {r : Option Nat} {n : Nat} {D : DataW Unit} (h : MapIs w r n D) (hb : Below w.heap.size w w') : MapIs w' r n D := by
  rcases h with h | ⟨bm, rfl, h⟩
  · exact .inl h
  · refine .inr ⟨bm, rfl, ?_⟩
    have hlt := h.lt
    obtain ⟨es, clock, h1, h2⟩ := h
    exact ⟨es, clock, (hb.block bm hlt).trans h1, h2⟩

theorem MapIs.sizes {w : World} {r : Option Nat} {n : Nat} {K V : Nat → ByteArray} {Dl : Nat → Bool} (h : MapIs w r n (buildD K V Dl n)) :
    (r = none → ((0 : Int) == (distUp K n n : Nat)) = true) ∧ (((Maps.size (buildD K V Dl n) : Nat) : Int) == (distUp K n n : Nat)) = true := by
  rw [size_build]
  refine ⟨fun hr => ?_, by simp⟩
  rcases h with ⟨_, h⟩ | ⟨bm, h, _⟩
  · rw [← size_build K V Dl n, h]; rfl
  · rw [hr] at h; cases h

/-- What the checks want of the visited list. -/
def Good (K V : Nat → ByteArray) (Dl : Nat → Bool) (n N : Nat) (A B : Nat → ByteArray) : Prop :=
  (∀ i, i < N → ∃ j, j < n ∧ lastUp K (A i) n = ((j : Nat) : Int) ∧ Dl j = false ∧ V j = B i) ∧ ∀ i m, i < N → m < i → ((A m).toList == (A i).toList) = false

theorem vis_facts {K V : Nat → ByteArray} {Dl : Nat → Bool} {n : Nat} {left : Lit → Bool} {L : List (ByteArray × ByteArray)} (h : Vis (buildD K V Dl n) left L) :
    Good K V Dl n L.length (fun i => (L.getD i default).1) (fun i => (L.getD i default).2) := by
  refine ⟨fun i hi => ?_, fun i m hi hm => ?_⟩
  · have hm : ((L.getD i default).1, (L.getD i default).2) ∈ L := by
      simp only [List.getD, List.getElem?_eq_getElem hi, Option.getD_some]
      exact List.getElem_mem hi
    obtain ⟨j, j1, j2, _, j4, j5⟩ := vis_mem h hm
    exact ⟨j, j1, j2, j4, j5⟩
  · have hnd := List.pairwise_iff_getElem.1 (List.nodup_iff_pairwise_ne.1 h.2) m i (by simp; omega) (by simp; omega) hm
    rw [Bool.eq_false_iff]
    intro e
    have e := (beq_iff _ _).1 e
    simp only [List.getD, List.getElem?_eq_getElem hi, List.getElem?_eq_getElem (show m < L.length by omega), Option.getD_some] at e
    simp at hnd
    exact hnd e

theorem Src.at {w : World} {b off n : Nat} {K V : Nat → ByteArray} {Dl : Nat → Bool} (h : Src w (some ⟨b, off, none⟩) n K V Dl) {j : Nat} (hj : j < n) :
    w.cell? ⟨b, off + j * 3 + 1 + 1, none⟩ = some (.bool (Dl j)) ∧ w.cell? ⟨b, off + j * 3 + 1, none⟩ = some (.string (V j)) := by
  rcases h with h | ⟨_, b', off', hb, _, hV, hD⟩
  · omega
  · simp at hb
    obtain ⟨rfl, rfl⟩ := hb
    exact ⟨hD j hj, hV j hj⟩

set_option maxHeartbeats 400000 in
theorem content_any (a : Option Addr) (n cap : Nat) (nm : Bool) (K V : Nat → ByteArray) (Dl : Nat → Bool) (w : World) (hn : n ≤ 1024) (hsrc : Src w a n K V Dl) :
    Calls Yba.prog 3 #[.slice a n cap, .bool nm] w fun e w' => e = .returned (.bool true) ∧ Below w.heap.size w w' := by
  have hmf : ∀ (fn : Fn) (first cap : Array Value) (w : World), (Instr.makeFunc fn first cap).run Yba.prog w = .ok (.func fn first cap) w := fun _ _ _ _ => rfl
  have hn' : ¬ (1024 : Int) < (n : Int) := by omega
  have hl := liveUp_le K Dl n n
  go_enter Yba.func3, Yba.ntmps3
  go_wp2_with fail
  refine (buildG hsrc cap nm hn).mono ?_
  rintro e w1 ⟨rfl, hbel, hsz, r, hcell, hmap⟩
  go_wp2_with fail
  refine (all_any _ _ _).mono ?_
  rintro e w2 ⟨rfl, rfl⟩
  go_wp2_with fail
  refine (allCG _ w1.heap.size (w1.heap.size + 1) w.heap.size n r (buildD K V Dl n) _ (fun left L h => by have := vis_le h; omega) ?_ ?_ ?_ ?_ ?_ (by omega) ?_).mono ?_
  · exact (three w1 _ _ _ _ _ _).2.2.1
  · exact (three w1 _ _ _ _ _ _).2.2.2.2.2.1.cell hcell (by simp)
  · exact hmap.kept (three w1 _ _ _ _ _ _).2.2.2.2.2.1 (by simp)
  · exact kv_start w1 _ _
  · intro bm hbm; exact hmap.lt bm hbm
  · rw [(three w1 _ _ _ _ _ _).2.2.2.2.2.2]; omega
  rintro e w4 ⟨rfl, hbel4, left, L, kv, vv, hvis, hlf, hkv⟩
  have hT := three w1 (.slice none 0 0) (.slice none 0 0) (.pointer (some ⟨w.heap.size, 0, none⟩)) 25 25 23
  have hs4 : w1.heap.size + 3 ≤ w4.heap.size := by have := hbel4.size; rw [hT.2.2.2.2.2.2] at this; exact this
  have hbel14 : Below w1.heap.size w1 w4 := ((Below.refl w1.heap.size w1).grown hT.2.2.2.2.2.1 (by omega) (by simp)).trans hbel4
  have hbelow4 : Below w.heap.size w w4 := hbel.trans (hbel14.mono (by omega))
  have hsrc4 := hsrc.below hbelow4
  have hmap4 : MapIs w4 r n (buildD K V Dl n) := hmap.below hbel14
  have hst4 : w4.cell? ⟨w.heap.size, 0, none⟩ = some (.map r) := by rw [hbel14.cell (p := ⟨w.heap.size, 0, none⟩) hsz]; exact hcell
  obtain ⟨ak, ck, rfl, hka⟩ := rowForm hkv.ok
  obtain ⟨av, cv, rfl, hva⟩ := rowForm hkv.ov
  have hck := hkv.ck
  have hcv := hkv.cv
  clear hT hbel4 hsrc hmap hcell hbel hbel14 hkv
  go_wp2_with fail
  refine (countsG hsrc4 cap hn).mono ?_
  rintro e w5 ⟨rfl, hb5⟩
  have hsrc5 := hsrc4.below hb5
  have hmap5 := hmap4.below hb5
  have hst5 : w5.cell? ⟨w.heap.size, 0, none⟩ = some (.map r) := by rw [hb5.cell (p := ⟨w.heap.size, 0, none⟩) (show w.heap.size < w4.heap.size by omega)]; exact hst4
  have hck5 : w5.cell? ⟨w1.heap.size, 0, none⟩ = some (.slice ak L.length ck) := by rw [hb5.cell (p := ⟨w1.heap.size, 0, none⟩) (show w1.heap.size < w4.heap.size by omega)]; exact hck
  have hcv5 : w5.cell? ⟨w1.heap.size + 1, 0, none⟩ = some (.slice av L.length cv) := by rw [hb5.cell (p := ⟨w1.heap.size + 1, 0, none⟩) (show w1.heap.size + 1 < w4.heap.size by omega)]; exact hcv
  have hbelow5 : Below w.heap.size w w5 := hbelow4.trans (hb5.mono (by omega))
  have hs5 := hb5.size
  have hLl := vis_all hvis hlf
  have hne : ((L.length : Int) != (liveUp K Dl n n : Nat)) = false := by rw [hLl]; simp
  have hL1 : L.length ≤ 1024 := by omega
  clear hLl hl
  clear hsrc4 hmap4 hst4 hck hcv hbelow4
  rcases Nat.eq_zero_or_pos L.length with hN | hN
  · clear hka hva hvis
    go_wp2
    go_loop [10] (fun i => i = .int .i64 0) (fun _ => 0)
    case atStart => rfl
    case round =>
      subst hrel
      have htail := hmap5.sizes
      clear hsrc5 hcv5
      rcases hmap5 with ⟨rfl, _⟩ | ⟨bm, rfl, hown5⟩
      · have hz := htail.1 rfl
        clear htail
        go_wp2
        go_ret
        exact ⟨rfl, hbelow5⟩
      · have hz := htail.2
        clear htail
        go_wp2_with (first | (at_len; refine wpList_len_own _ rfl _ 35 rfl 9 44 Yba.underlying35 _ bm n _ rfl hown5 ?_) | fail)
        go_ret
        exact ⟨rfl, hbelow5⟩
  · obtain ⟨gk, rfl, hgk, hka⟩ := hka hN
    obtain ⟨gv, rfl, hgv, hva⟩ := hva hN
    have hCF : CF w5 w1.heap.size (w1.heap.size + 1) gk gv ck cv L.length (fun i => (L.getD i default).1) (fun i => (L.getD i default).2) :=
      ⟨hck5, hcv5, fun i hi => by rw [hb5.cell (p := ⟨gk, i, none⟩) hgk, hka i hi]; simp [List.getD, hi], fun i hi => by rw [hb5.cell (p := ⟨gv, i, none⟩) hgv, hva i hi]; simp [List.getD, hi]⟩
    have hAs := vis_facts hvis
    obtain ⟨A, B, hCF, hAs⟩ : ∃ A B, CF w5 w1.heap.size (w1.heap.size + 1) gk gv ck cv L.length A B ∧ Good K V Dl n L.length A B := ⟨_, _, hCF, hAs⟩
    generalize L.length = N at *
    clear hka hva hgk hgv hvis hcv5
    have h0 : 0 < n := by obtain ⟨j, hj, _⟩ := hAs.1 0 hN; omega
    obtain ⟨b, off, ha⟩ : ∃ b off, a = some ⟨b, off, none⟩ := by
      rcases hsrc5 with h | ⟨_, b, off, ha, _⟩
      · omega
      · exact ⟨b, off, ha⟩
    subst ha
    go_wp2
    go_loopw [10] (fun i wr => ∃ m : Nat, m ≤ N ∧ i = .int .i64 m ∧ Below w5.heap.size w5 wr) (fun i _ => N - (intOf i).toNat)
    case atStart => exact ⟨0, Nat.zero_le _, rfl, Below.refl _ _⟩
    case round =>
      obtain ⟨m, hm, rfl, hbr⟩ := hrel
      have hCr := hCF.below hbr
      have hkr := hCr.k
      by_cases hlt : m < N
      · have hvr := hCr.v
        have har := hCr.a m hlt
        have hvb := hCr.b m hlt
        obtain ⟨j, hj, hlast, hdl, hvj⟩ := hAs.1 m hlt
        have hsr := hsrc5.below hbr
        have hcall := lastG hsr cap (A m) hn
        rw [hlast] at hcall
        have HC : Hid _ := hcall
        obtain ⟨cd, cvj⟩ := hsr.at hj
        rw [hdl] at cd
        rw [hvj] at cvj
        clear hlast hdl hvj hcall hsr
        have hj0 : decide ((j : Int) < 0) = false := by simp
        have hj1 : (j : Int) < (n : Int) := by omega
        have hm1 : (m : Int) < (N : Int) := by omega
        go_wp2_with fail
        refine Calls.mono HC.out ?_
        rintro e w6 ⟨rfl, rfl⟩
        clear HC
        go_wp2_with fail
        go_quiet (fail)
        have hbq := below_drewN hbr nq
        clear hCr hkr hvr har hvb cd cvj
        go_wp2_with fail
        go_loopw [12] (fun i wi => ∃ m2 : Nat, m2 ≤ m ∧ i = .int .i64 m2 ∧ Below w5.heap.size w5 wi) (fun i _ => m - (intOf i).toNat)
        case atStart => exact ⟨0, Nat.zero_le _, rfl, hbq⟩
        case round =>
          clear hbr hbq
          obtain ⟨m2, hm2, rfl, hbi⟩ := hrel
          by_cases hlt2 : m2 < m
          · have hCi := hCF.below hbi
            have hki := hCi.k
            have ha1 := hCi.a m hlt
            have ha2 := hCi.a m2 (by omega)
            have hd := hAs.2 m m2 hlt hlt2
            have hm3 : (m2 : Int) < (N : Int) := by omega
            clear hCi
            go_wp2_with fail
            go_quiet (fail)
            have hbj := below_drewN hbi nq
            go_wp2_with fail
            go_roundw
            case rel => exact ⟨m2 + 1, by omega, by go_num, hbj⟩
            case measure => simp [intOf]; omega
          · go_wp2_with fail
            go_roundw
            case rel => exact ⟨m + 1, by omega, by go_num, hbi⟩
            case measure => simp [intOf]; omega
      · have hbw : Below w.heap.size w wr := hbelow5.trans (hbr.mono (by omega))
        have hstr : wr.cell? ⟨w.heap.size, 0, none⟩ = some (.map r) := by rw [hbr.cell (p := ⟨w.heap.size, 0, none⟩) (show w.heap.size < w5.heap.size by omega)]; exact hst5
        have hmr := hmap5.below hbr
        have htail := hmr.sizes
        clear hCr hsrc5 hst5 hmap5 hCF hAs hbr hbelow5
        rcases hmr with ⟨rfl, _⟩ | ⟨bm, rfl, hownr⟩
        · have hz := htail.1 rfl
          clear htail
          go_wp2
          go_ret
          exact ⟨rfl, hbw⟩
        · have hz := htail.2
          clear htail
          go_wp2_with (first | (at_len; refine wpList_len_own _ rfl _ 35 rfl 9 44 Yba.underlying35 _ bm n _ rfl hownr ?_) | fail)
          go_ret
          exact ⟨rfl, hbw⟩

set_option maxHeartbeats 400000 in
theorem content_big (a : Option Addr) (n cap : Nat) (nm : Bool) (w : World) (hn : ¬ n ≤ 1024) :
    Calls Yba.prog 3 #[.slice a n cap, .bool nm] w fun e w' => e = .returned (.bool true) ∧ Below w.heap.size w w' := by
  have hn' : (1024 : Int) < (n : Int) := by omega
  go_enter Yba.func3, Yba.ntmps3
  go_wp2
  go_ret
  exact ⟨rfl, Below.refl _ _⟩
end Go.Proofs.Ybulkcyyq
