import Derived.Test.YbulkczauE7
namespace Go.Proofs.Ybulkczau
open Go.RowKit Go.Maps Go.WideMaps

theorem repl_f (bl ba : Int) (bm : Nat) (f : Value) : ((repl bl ba bm).setIfInBounds 3 f)[3]? = some f := by
  have h : 3 < (repl bl ba bm).size := (Array.getElem?_eq_some_iff.mp (repl3 bl ba bm)).1
  simp [h]
theorem repl_o (bl ba : Int) (bm : Nat) (f : Value) {o : Nat} {u : Value} (ho : 3 ≠ o) (h : (repl bl ba bm)[o]? = some u) : ((repl bl ba bm).setIfInBounds 3 f)[o]? = some u := by
  rw [Array.getElem?_setIfInBounds_ne ho]; exact h

theorem three_out {w : World} {g n k : Nat} {S B : Nat → Int} {V : Nat → ByteArray} {L : List Value} (h : ∀ j u, (vcs S B V n ++ L)[j]? = some u → w.cell? ⟨g, j, none⟩ = some u) (hk : k < n) :
    w.cell? ⟨g, k * 3, none⟩ = some (.int .i64 (S k)) ∧ w.cell? ⟨g, k * 3 + 1, none⟩ = some (.int .i64 (B k)) ∧ w.cell? ⟨g, k * 3 + 1 + 1, none⟩ = some (.string (V k)) := by
  have hj : ∀ j, j < n * 3 → (vcs S B V n ++ L)[j]? = some (vc S B V j) := fun j hj => by rw [List.getElem?_append_left (by rw [vcs_length]; exact hj), vcs_at hj]
  refine ⟨h _ _ ?_, h _ _ ?_, h _ _ ?_⟩
  · rw [hj _ (by omega), vc0]
  · rw [hj _ (by omega), vc1]
  · rw [hj _ (by omega), vc2]
theorem three_in {w : World} {g n k : Nat} {S B : Nat → Int} {V : Nat → ByteArray} (h : ∃ g', (⟨g, 0, none⟩ : Addr) = ⟨g', 0, none⟩ ∧ ∀ j u, (vcs S B V n)[j]? = some u → w.cell? ⟨g', j, none⟩ = some u) (hk : k < n) :
    w.cell? ⟨g, k * 3, none⟩ = some (.int .i64 (S k)) ∧ w.cell? ⟨g, k * 3 + 1, none⟩ = some (.int .i64 (B k)) ∧ w.cell? ⟨g, k * 3 + 1 + 1, none⟩ = some (.string (V k)) := by
  obtain ⟨g', e, h⟩ := h
  cases e
  exact three_out (L := []) (by simpa using h) hk
theorem add_off (b off j : Nat) : (⟨b, off, none⟩ : Addr).add j = ⟨b, off + j, none⟩ := by unfold Addr.add; split <;> simp_all
theorem three_src {w w2 : World} {o : Obj} {b off n k bm : Nat} {S B : Nat → Int} {V : Nat → ByteArray} (h : ∀ j, j < n * 3 → w.cell? ((⟨b, off, none⟩ : Addr).add j) = some (vc S B V j)) (hf : Frm (fun i => w.heap.size + bm ≤ i) (w.alloc o) w2) (hk : k < n) :
    w2.cell? ⟨b, off + k * 3, none⟩ = some (.int .i64 (S k)) ∧ w2.cell? ⟨b, off + k * 3 + 1, none⟩ = some (.int .i64 (B k)) ∧ w2.cell? ⟨b, off + k * 3 + 1 + 1, none⟩ = some (.string (V k)) := by
  have hj : ∀ j, j < n * 3 → w2.cell? ⟨b, off + j, none⟩ = some (vc S B V j) := fun j hj => by
    have := h j hj
    rw [add_off] at this
    have hl := lt_of_cell this
    exact hf.cell (cell_alloc_any _ this) (by omega)
  refine ⟨?_, ?_, ?_⟩
  · rw [hj _ (by omega), vc0]
  · rw [show off + k * 3 + 1 = off + (k * 3 + 1) by omega, hj _ (by omega), vc1]
  · rw [show off + k * 3 + 1 + 1 = off + (k * 3 + 1 + 1) by omega, hj _ (by omega), vc2]

theorem empty_of {v : ByteArray} (h : v.toList.isEmpty = true) : v = ⟨#[]⟩ := by
  have h1 : v.toList = [] := by simpa using h
  have h2 : v.data.toList = [] := by rw [← h1]; exact ByteArray.toList_eq v |>.symm
  cases v with
  | mk d => congr 1; exact Array.toList_inj.mp (by simpa using h2)
theorem setD_size (K : Nat → ByteArray) : ∀ n, Maps.size (setD K n) ≤ n
  | 0 => by simp [setD, Maps.size]
  | n + 1 => by
    have := setD_size K n
    unfold setD
    rw [Maps.size_put (setD_all K n).tidy]
    split <;> omega
theorem three_last {w : World} {g n : Nat} {S B : Nat → Int} {V : Nat → ByteArray} {x y z : Value} (h : ∀ j u, (vcs S B V n ++ [x, y, z])[j]? = some u → w.cell? ⟨g, j, none⟩ = some u) :
    w.cell? ⟨g, n * 3, none⟩ = some x ∧ w.cell? ⟨g, n * 3 + 1, none⟩ = some y ∧ w.cell? ⟨g, n * 3 + 1 + 1, none⟩ = some z := by
  have hj : ∀ j, (vcs S B V n ++ [x, y, z])[n * 3 + j]? = [x, y, z][j]? := fun j => by rw [List.getElem?_append_right (by rw [vcs_length]; omega), vcs_length]; congr 1; omega
  exact ⟨h _ _ (hj 0), h _ _ (hj 1), h _ _ (hj 2)⟩

/-- The world behind choose. -/
structure Nw (w wr : World) (ic : Bool) (bm n g : Nat) (ao : Option Addr) (D : DataW Unit) (S B : Nat → Int) (V : Nat → ByteArray) (sl bl : Int) (v : ByteArray) (c : Bool) (z : Int) (w' : World) : Prop where
  out : ∀ j u, (vcs S B V n ++ [.int .i64 sl, .int .i64 bl, .string v])[j]? = some u → w'.cell? ⟨g, j, none⟩ = some u
  frm : Frm (fun i => bm ≤ i) (w.alloc (.cells #[.bool ic] 4)) w'
  inn : Olds w' ao (vcs S B V n)
  map : ∃ n', w'.ownsMap Yba.prog 9 boolR bm n' (chD v D)
  c17 : w'.cell? ⟨wr.heap.size + 1, 17, none⟩ = some (.int .i64 bl)
  c62 : w'.cell? ⟨wr.heap.size + 1, 62, none⟩ = some (.int .i64 z)
  calls : CallsAre w' wr.heap.size v c
  hi : w'.cell? ⟨w.heap.size, 0, none⟩ = some (.bool ic)
theorem Nw.drewN {w wr w' : World} {ic : Bool} {bm n g : Nat} {ao : Option Addr} {D : DataW Unit} {S B : Nat → Int} {V : Nat → ByteArray} {sl bl : Int} {v : ByteArray} {c : Bool} {z : Int} (h : Nw w wr ic bm n g ao D S B V sl bl v c z w') (q : Nat) :
    Nw w wr ic bm n g ao D S B V sl bl v c z (w'.drewN q) :=
  ⟨h.out, ⟨h.frm.os, h.frm.tape, h.frm.output, h.frm.size, h.frm.blk⟩, h.inn, h.map, h.c17, h.c62, h.calls, h.hi⟩
theorem Nw.bel {w wr w' : World} {ic : Bool} {bm n g : Nat} {ao : Option Addr} {D : DataW Unit} {S B : Nat → Int} {V : Nat → ByteArray} {sl bl : Int} {v : ByteArray} {c : Bool} {z : Int} (h : Nw w wr ic bm n g ao D S B V sl bl v c z w') (hb : w.heap.size ≤ bm) :
    Below w.heap.size w w' := ((Below.refl _ _).alloc (Nat.le_refl _) _).trans (h.frm.below (fun i x => Nat.le_trans hb x) (by simp))
theorem Aft.nw {w wr w' : World} {e : Ending} {ic : Bool} {bm n : Nat} {ao : Option Addr} {D : DataW Unit} {S B : Nat → Int} {V : Nat → ByteArray} {sl bl : Int} {v : ByteArray} {c : Bool} {z : Int} (h : Aft w wr w' e ic bm n ao D S B V sl bl v c z) :
    ∃ g cap, e = .returned (.slice (some ⟨g, 0, none⟩) (n + 1) cap) ∧ Hid (Nw w wr ic bm n g ao D S B V sl bl v c z w') := by
  obtain ⟨g, cap, he, hc⟩ := h.out
  exact ⟨g, cap, he, Hid.intro ⟨hc, h.frm, h.inn, h.map, h.c17, h.c62, h.calls, h.hi⟩⟩

set_option maxRecDepth 100000 in
set_option maxHeartbeats 1600000 in
theorem law_some (hc ic : Bool) (ad : Addr) (aK : Option Addr) (n cap nK capK : Nat) (S B : Nat → Int) (V K : Nat → ByteArray) (sl bl ba : Int) (v : ByteArray) (w : World) (hn : n ≤ 1024) (hnK : nK ≤ 1024) (hvs : v.size ≤ maxLen)
    (hB : ∀ j, j < n * 3 → w.cell? (ad.add j) = some (vc S B V j)) (hB0 : 0 < n → ∃ b off, ad = ⟨b, off, none⟩) (hK : KSrc w aK nK K) :
    Calls Yba.prog 4 #[.slice (some ad) n cap, .int .i64 sl, .string v, .int .i64 bl, .int .i64 ba, .slice aK nK capK, .bool hc, .bool ic] w fun e w' => e = .returned (.bool true) ∧ Below w.heap.size w w' := by
  have HB := Hid.intro hB
  have HB0 := Hid.intro hB0
  have HK := Hid.intro hK
  clear hB hB0 hK
  have h1 : decide ((n : Int) > 1024) = false := by simp; omega
  have h2 : decide ((nK : Int) > 1024) = false := by simp; omega
  have hmm := @run_makeMap Yba.prog
  have hmk := fun w => mk_run (t := 48) (e := 83) (z := .agg #[.int .i64 0, .int .i64 0, .string ByteArray.empty]) (size := 3) (bytes := 32) Yba.underlying48 info83 (by decide) hn w
  obtain ⟨W, hcp, HW, hWs, hWf⟩ := copy_new w ic ad n cap S B V HB.out
  have HC := Hid.intro HW
  have HF := Hid.intro hWf
  have HO : Hid (Olds W (some ⟨w.heap.size + 1, 0, none⟩) (vcs S B V n)) := Hid.intro (fun b hb => by cases hb; exact ⟨_, rfl, HW⟩)
  have hao : ∀ g, (some ⟨w.heap.size + 1, 0, none⟩ : Option Addr) = some ⟨g, 0, none⟩ → g < w.heap.size + 2 := fun g hg => by cases hg; omega
  have HA := Hid.intro hao
  clear HW hWf hao HC
  go_enter Yba.func4, Yba.ntmps4
  go_wp2
  clear hmm hmk hcp
  go_loopw [51] (fun i wr => ∃ m : Nat, m ≤ nK ∧ i = .int .i64 m ∧ Hid (wr.ownsMap Yba.prog 9 boolR (w.heap.size + 2) m (setD K m)) ∧ Hid (Frm (fun _ => False) W wr)) (fun i _ => nK - (intOf i).toNat)
  case atStart => exact ⟨0, Nat.zero_le _, rfl, Hid.intro (by have := World.ownsMap_made W Yba.prog 9 boolR; rwa [hWs] at this), Hid.intro ((Frm.refl _ _).alloc _)⟩
  case round =>
    obtain ⟨m, hm, rfl, HM, HR⟩ := hrel
    by_cases hlt : m < nK
    · obtain ⟨_, bK, offK, rfl, hKc⟩ := HK.out.resolve_left (by omega)
      have HKc := Hid.intro hKc
      clear hKc HK
      have hKm := HKc.out m hlt
      have lb := lt_of_cell hKm.1
      have hR := HR.out
      have hF := HF.out
      have c0 : wr.cell? ⟨bK, offK + m, none⟩ = some (.string (K m)) := hR.cell (hF.cell (cell_alloc_any _ hKm.1) id) id
      have hkm := hKm.2
      clear hKm hR hF
      go_wp2_with (first
        | (at_mapUpdate; refine wpList_mapUpdate_own _ rfl _ _ _ 49 rfl 9 4 keyedS Yba.underlying49 boolR (w.heap.size + 2) m (setD K m) rfl HM.out (by unfold maxLen; omega) _ _ (keyL (K m)) rfl rfl (keyOf_string_mk Yba.underlying9 hkm) tt [] rfl ?_; intro W1 hown1 hgrow1)
        | fail)
      go_roundw
      case rel => exact ⟨m + 1, by omega, by go_num, Hid.intro hown1, Hid.intro ⟨hgrow1.os.trans HR.out.os, hgrow1.tape.trans HR.out.tape, hgrow1.output.trans HR.out.output, Nat.le_trans HR.out.size hgrow1.size, fun i hi hS => (hgrow1.block i (Nat.lt_of_lt_of_le hi HR.out.size) (fun e => by cases e; omega)).trans (HR.out.blk i hi hS)⟩⟩
      case measure => simp [intOf]; omega
    · have : m = nK := by omega
      subst this
      have hl := look_eq HM.out (setD_all K m) hvs
      have hmf : ∀ (fn : Fn) (first cap : Array Value) (W' : World), (Instr.makeFunc fn first cap).run Yba.prog W' = .ok (.func fn first cap) W' := fun _ _ _ _ => rfl
      obtain ⟨had, hhad⟩ : ∃ b, b = Maps.has (setD K m) (keyL v) := ⟨_, rfl⟩
      rw [← hhad] at hl
      have HH := Hid.intro hhad
      obtain ⟨sz, hsz⟩ : ∃ z, z = Maps.size (setD K m) := ⟨_, rfl⟩
      have HZ := Hid.intro hsz
      have hszb : sz ≤ 1024 := by rw [hsz]; exact Nat.le_trans (setD_size K m) hnK
      clear hsz
      clear hhad
      cases hc
      all_goals
        go_wp2_with (first
          | (at_len; refine wpList_len_own _ rfl _ 49 rfl 9 4 Yba.underlying49 boolR (w.heap.size + 2) m (setD K m) rfl HM.out ?_; rw [← HZ.out])
          | (refine wpList_repl rfl _ _ _ rfl bl ba (w.heap.size + 2) rfl rfl rfl ?_)
          | fail)
      · refine Calls.mono (choose_here (W := W) (D := setD K m) (S := S) (B := B) (V := V) (ba := ba) false ic hn hnK hvs (repl3 _ _ _) (repl17 _ _ _) (repl61 _ _ _) (repl62 _ _ _) HF.out hWs HR.out HM.out (fun h => by cases h) HO.out HA.out) ?_
        rintro e w2 haft
        obtain ⟨g, cap', rfl, NW⟩ := haft.nw
        clear haft hl HM HR
        go_wp2_with fail
        clear hmf
        go_loopw [87] (fun i wo => (∃ k : Nat, k ≤ n ∧ i = .int .i64 k) ∧ Hid (Nw w wr ic (w.heap.size + 2) n g (some ⟨w.heap.size + 1, 0, none⟩) (setD K m) S B V sl bl v (false && !v.toList.isEmpty) (if (false && !v.toList.isEmpty) && ic then sl else ba) wo)) (fun i _ => n - (intOf i).toNat)
        case atStart => exact ⟨⟨0, Nat.zero_le _, rfl⟩, NW⟩
        case round =>
          rename World => wo
          obtain ⟨⟨k, hk, rfl⟩, NV⟩ := hrel
          by_cases hlt2 : k < n
          · obtain ⟨b, off, rfl⟩ := HB0.out (by omega)
            obtain ⟨o0, o1, o2⟩ := three_out NV.out.out hlt2
            obtain ⟨i0, i1, i2⟩ := three_in (NV.out.inn _ rfl) hlt2
            obtain ⟨b0, b1, b2⟩ := three_src HB.out NV.out.frm hlt2
            go_wp2
            go_quiet (fail)
            go_wp2
            go_roundw
            case rel => exact ⟨⟨k + 1, by omega, by go_num⟩, Hid.intro (NV.out.drewN nq)⟩
            case measure => simp [intOf]; omega
          · have : k = n := by omega
            subst this
            obtain ⟨o0, o1, o2⟩ := three_last NV.out.out
            have a17 := NV.out.c17
            have a62 := NV.out.c62
            have ai := NV.out.hi
            obtain ⟨n', hmap⟩ := NV.out.map
            have hD := chD_all (v := v) (setD_all K m)
            have hcl := NV.out.calls
            rcases hv : v.toList.isEmpty with _ | _
            · have hv' : (!v.toList.isEmpty) = true := by rw [hv]; rfl
              have hDe : chD v (setD K m) = (setD K m).put (keyL v) tt := by simp [chD, hv]
              have HL3 : Hid (∀ j, j < m → (K j).size ≤ maxLen → (Instr.lookup 49 (.map (some (w.heap.size + 2))) (.string (K j)) false).run Yba.prog wo = .ok (.bool true) wo) := Hid.intro (fun j hj hs => by
                have := look_eq hmap hD hs
                rwa [chD_has (setD_all K m) (setD_has K m j hj)] at this)
              have hl := look_eq hmap hD hvs
              rw [hDe] at hmap hl
              rw [Maps.has_put_same (setD_all K m).tidy.isMap (keyL_key v)] at hl
              have hz := Maps.size_put (k := keyL v) (setD_all K m).tidy tt
              rw [← HH.out, ← HZ.out] at hz
              have HMP := Hid.intro hmap
              clear hmap hD
              simp only [Bool.false_and, Bool.false_eq_true, if_false] at a62
              rcases hcl with ⟨_, hcl⟩ | ⟨e, _⟩
              rotate_left
              · simp at e
              cases had
              all_goals
                simp only [Bool.false_eq_true, if_false, if_true] at hz
                have HSZ := Hid.intro hz
                clear hz
                go_wp2_with (first
                  | (at_len; refine wpList_len_own _ rfl _ 49 rfl 9 4 Yba.underlying49 boolR (w.heap.size + 2) n' ((setD K m).put (keyL v) tt) rfl HMP.out ?_; rw [HSZ.out])
                  | fail)
                go_loop [185] (fun i => ∃ j : Nat, j ≤ m ∧ i = .int .i64 j) (fun i => m - (intOf i).toNat)
                case atStart => exact ⟨0, Nat.zero_le _, rfl⟩
                case round =>
                  obtain ⟨j, hj, rfl⟩ := hrel
                  by_cases hlt3 : j < m
                  · obtain ⟨_, bK, offK, rfl, hKc⟩ := HK.out.resolve_left (by omega)
                    have hKm := (hKc j hlt3).1
                    have hKs := (hKc j hlt3).2
                    have HKc := Hid.intro hKc
                    clear hKc
                    have lb := lt_of_cell hKm
                    have c0 : wo.cell? ⟨bK, offK + j, none⟩ = some (.string (K j)) := NV.out.frm.cell (cell_alloc_any _ hKm) (by omega)
                    have hl3 := HL3.out j hlt3 hKs
                    clear hKm hl
                    go_wp2
                    go_round
                    case rel => exact ⟨j + 1, by omega, by go_num⟩
                    case measure => simp [intOf]; omega
                  · go_wp2
                    go_ret
                    exact ⟨rfl, NV.out.bel (by omega)⟩
            · have hDe : chD v (setD K m) = setD K m := by simp [chD, hv]
              have HL3 : Hid (∀ j, j < m → (K j).size ≤ maxLen → (Instr.lookup 49 (.map (some (w.heap.size + 2))) (.string (K j)) false).run Yba.prog wo = .ok (.bool true) wo) := Hid.intro (fun j hj hs => by
                have := look_eq hmap hD hs
                rwa [chD_has (setD_all K m) (setD_has K m j hj)] at this)
              rw [hDe] at hmap
              simp only [hv, Bool.not_true, Bool.and_false, Bool.false_and, Bool.false_eq_true, if_false] at a62
              rcases hcl with ⟨_, hcl⟩ | ⟨e, _⟩
              rotate_left
              · simp [hv] at e
              have hl := look_eq hmap (setD_all K m) hvs
              have HMP := Hid.intro hmap
              clear hmap hD
              rw [← HH.out, empty_of hv] at hl
              cases had
              all_goals
                go_wp2_with (first
                  | (at_len; refine wpList_len_own _ rfl _ 49 rfl 9 4 Yba.underlying49 boolR (w.heap.size + 2) n' (setD K m) rfl HMP.out ?_; rw [← HZ.out])
                  | fail)
                go_loop [185] (fun i => ∃ j : Nat, j ≤ m ∧ i = .int .i64 j) (fun i => m - (intOf i).toNat)
                case atStart => exact ⟨0, Nat.zero_le _, rfl⟩
                case round =>
                  obtain ⟨j, hj, rfl⟩ := hrel
                  by_cases hlt3 : j < m
                  · obtain ⟨_, bK, offK, rfl, hKc⟩ := HK.out.resolve_left (by omega)
                    have hKm := (hKc j hlt3).1
                    have hKs := (hKc j hlt3).2
                    have HKc := Hid.intro hKc
                    clear hKc
                    have lb := lt_of_cell hKm
                    have c0 : wo.cell? ⟨bK, offK + j, none⟩ = some (.string (K j)) := NV.out.frm.cell (cell_alloc_any _ hKm) (by omega)
                    have hl3 := HL3.out j hlt3 hKs
                    clear hKm hl
                    go_wp2
                    go_round
                    case rel => exact ⟨j + 1, by omega, by go_num⟩
                    case measure => simp [intOf]; omega
                  · go_wp2
                    go_ret
                    exact ⟨rfl, NV.out.bel (by omega)⟩
      · refine Calls.mono (choose_here (W := W) (D := setD K m) (S := S) (B := B) (V := V) (ba := ba) true ic hn hnK hvs (repl_f _ _ _ _) (repl_o _ _ _ _ (by decide) (repl17 _ _ _)) (repl_o _ _ _ _ (by decide) (repl61 _ _ _)) (repl_o _ _ _ _ (by decide) (repl62 _ _ _)) HF.out hWs HR.out HM.out (fun h => by cases h) HO.out HA.out) ?_
        rintro e w2 haft
        obtain ⟨g, cap', rfl, NW⟩ := haft.nw
        clear haft hl HM HR
        go_wp2_with fail
        clear hmf
        go_loopw [87] (fun i wo => (∃ k : Nat, k ≤ n ∧ i = .int .i64 k) ∧ Hid (Nw w wr ic (w.heap.size + 2) n g (some ⟨w.heap.size + 1, 0, none⟩) (setD K m) S B V sl bl v (true && !v.toList.isEmpty) (if (true && !v.toList.isEmpty) && ic then sl else ba) wo)) (fun i _ => n - (intOf i).toNat)
        case atStart => exact ⟨⟨0, Nat.zero_le _, rfl⟩, NW⟩
        case round =>
          rename World => wo
          obtain ⟨⟨k, hk, rfl⟩, NV⟩ := hrel
          by_cases hlt2 : k < n
          · obtain ⟨b, off, rfl⟩ := HB0.out (by omega)
            obtain ⟨o0, o1, o2⟩ := three_out NV.out.out hlt2
            obtain ⟨i0, i1, i2⟩ := three_in (NV.out.inn _ rfl) hlt2
            obtain ⟨b0, b1, b2⟩ := three_src HB.out NV.out.frm hlt2
            go_wp2
            go_quiet (fail)
            go_wp2
            go_roundw
            case rel => exact ⟨⟨k + 1, by omega, by go_num⟩, Hid.intro (NV.out.drewN nq)⟩
            case measure => simp [intOf]; omega
          · have : k = n := by omega
            subst this
            obtain ⟨o0, o1, o2⟩ := three_last NV.out.out
            have a17 := NV.out.c17
            have a62 := NV.out.c62
            have ai := NV.out.hi
            obtain ⟨n', hmap⟩ := NV.out.map
            have hD := chD_all (v := v) (setD_all K m)
            have hcl := NV.out.calls
            rcases hv : v.toList.isEmpty with _ | _
            · have hv' : (!v.toList.isEmpty) = true := by rw [hv]; rfl
              have hDe : chD v (setD K m) = (setD K m).put (keyL v) tt := by simp [chD, hv]
              have HL3 : Hid (∀ j, j < m → (K j).size ≤ maxLen → (Instr.lookup 49 (.map (some (w.heap.size + 2))) (.string (K j)) false).run Yba.prog wo = .ok (.bool true) wo) := Hid.intro (fun j hj hs => by
                have := look_eq hmap hD hs
                rwa [chD_has (setD_all K m) (setD_has K m j hj)] at this)
              have hl := look_eq hmap hD hvs
              rw [hDe] at hmap hl
              rw [Maps.has_put_same (setD_all K m).tidy.isMap (keyL_key v)] at hl
              have hz := Maps.size_put (k := keyL v) (setD_all K m).tidy tt
              rw [← HH.out, ← HZ.out] at hz
              have HMP := Hid.intro hmap
              clear hmap hD
              simp only [hv, Bool.not_false, Bool.true_and] at a62
              rcases hcl with ⟨e, _⟩ | ⟨_, gc, capc, hcl, hgc⟩
              · simp [hv] at e
              cases had <;> cases ic
              all_goals
                simp only [Bool.false_eq_true, if_false, if_true] at hz a62
                have HSZ := Hid.intro hz
                clear hz
                go_wp2_with (first
                  | (at_len; refine wpList_len_own _ rfl _ 49 rfl 9 4 Yba.underlying49 boolR (w.heap.size + 2) n' ((setD K m).put (keyL v) tt) rfl HMP.out ?_; rw [HSZ.out])
                  | fail)
                go_loop [185] (fun i => ∃ j : Nat, j ≤ m ∧ i = .int .i64 j) (fun i => m - (intOf i).toNat)
                case atStart => exact ⟨0, Nat.zero_le _, rfl⟩
                case round =>
                  obtain ⟨j, hj, rfl⟩ := hrel
                  by_cases hlt3 : j < m
                  · obtain ⟨_, bK, offK, rfl, hKc⟩ := HK.out.resolve_left (by omega)
                    have hKm := (hKc j hlt3).1
                    have hKs := (hKc j hlt3).2
                    have HKc := Hid.intro hKc
                    clear hKc
                    have lb := lt_of_cell hKm
                    have c0 : wo.cell? ⟨bK, offK + j, none⟩ = some (.string (K j)) := NV.out.frm.cell (cell_alloc_any _ hKm) (by omega)
                    have hl3 := HL3.out j hlt3 hKs
                    clear hKm hl
                    go_wp2
                    go_round
                    case rel => exact ⟨j + 1, by omega, by go_num⟩
                    case measure => simp [intOf]; omega
                  · go_wp2
                    go_ret
                    exact ⟨rfl, NV.out.bel (by omega)⟩
            · have hDe : chD v (setD K m) = setD K m := by simp [chD, hv]
              have HL3 : Hid (∀ j, j < m → (K j).size ≤ maxLen → (Instr.lookup 49 (.map (some (w.heap.size + 2))) (.string (K j)) false).run Yba.prog wo = .ok (.bool true) wo) := Hid.intro (fun j hj hs => by
                have := look_eq hmap hD hs
                rwa [chD_has (setD_all K m) (setD_has K m j hj)] at this)
              rw [hDe] at hmap
              simp only [hv, Bool.not_true, Bool.and_false, Bool.false_and, Bool.false_eq_true, if_false] at a62
              rcases hcl with ⟨_, hcl⟩ | ⟨e, _⟩
              rotate_left
              · simp [hv] at e
              have hl := look_eq hmap (setD_all K m) hvs
              have HMP := Hid.intro hmap
              clear hmap hD
              rw [← HH.out, empty_of hv] at hl
              cases had
              all_goals
                go_wp2_with (first
                  | (at_len; refine wpList_len_own _ rfl _ 49 rfl 9 4 Yba.underlying49 boolR (w.heap.size + 2) n' (setD K m) rfl HMP.out ?_; rw [← HZ.out])
                  | fail)
                go_loop [185] (fun i => ∃ j : Nat, j ≤ m ∧ i = .int .i64 j) (fun i => m - (intOf i).toNat)
                case atStart => exact ⟨0, Nat.zero_le _, rfl⟩
                case round =>
                  obtain ⟨j, hj, rfl⟩ := hrel
                  by_cases hlt3 : j < m
                  · obtain ⟨_, bK, offK, rfl, hKc⟩ := HK.out.resolve_left (by omega)
                    have hKm := (hKc j hlt3).1
                    have hKs := (hKc j hlt3).2
                    have HKc := Hid.intro hKc
                    clear hKc
                    have lb := lt_of_cell hKm
                    have c0 : wo.cell? ⟨bK, offK + j, none⟩ = some (.string (K j)) := NV.out.frm.cell (cell_alloc_any _ hKm) (by omega)
                    have hl3 := HL3.out j hlt3 hKs
                    clear hKm hl
                    go_wp2
                    go_round
                    case rel => exact ⟨j + 1, by omega, by go_num⟩
                    case measure => simp [intOf]; omega
                  · go_wp2
                    go_ret
                    exact ⟨rfl, NV.out.bel (by omega)⟩
end Go.Proofs.Ybulkczau
