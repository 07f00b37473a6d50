import Derived.Test.YbulkczauE8
namespace Go.Proofs.Ybulkczau
open Go.RowKit Go.Maps Go.WideMaps

theorem three_last0 {w : World} {g : Nat} {S B : Nat → Int} {V : Nat → ByteArray} {x y z : Value} (h : ∀ j u, (vcs S B V 0 ++ [x, y, z])[j]? = some u → w.cell? ⟨g, j, none⟩ = some u) :
    w.cell? ⟨g, 0, none⟩ = some x ∧ w.cell? ⟨g, 1, none⟩ = some y ∧ w.cell? ⟨g, 2, none⟩ = some z := by simpa using three_last h

set_option maxRecDepth 100000 in
set_option maxHeartbeats 1600000 in
theorem law_nil (hc ic : Bool) (aK : Option Addr) (cap nK capK : Nat) (S B : Nat → Int) (V K : Nat → ByteArray) (sl bl ba : Int) (v : ByteArray) (w : World) (hnK : nK ≤ 1024) (hvs : v.size ≤ maxLen)
    (hK : KSrc w aK nK K) :
    Calls Yba.prog 4 #[.slice none 0 cap, .int .i64 sl, .string v, .int .i64 bl, .int .i64 ba, .slice aK nK capK, .bool hc, .bool ic] w fun e w' => e = .returned (.bool true) ∧ Below w.heap.size w w' := by
  have HK := Hid.intro hK
  clear hK
  have h2 : decide ((nK : Int) > 1024) = false := by simp; omega
  have hmm := @run_makeMap Yba.prog
  have HWs : Hid ((w.alloc (.cells #[.bool ic] 4)).heap.size = w.heap.size + 1) := Hid.intro (by simp)
  have HF : Hid (Frm (fun _ => False) (w.alloc (.cells #[.bool ic] 4)) (w.alloc (.cells #[.bool ic] 4))) := Hid.intro (Frm.refl _ _)
  have HO : Hid (Olds (w.alloc (.cells #[.bool ic] 4)) none (vcs S B V 0)) := Hid.intro (fun b hb => by cases hb)
  have HA : Hid (∀ g, (none : Option Addr) = some ⟨g, 0, none⟩ → g < w.heap.size + 1) := Hid.intro (fun g hg => by cases hg)
  go_enter Yba.func4, Yba.ntmps4
  go_wp2
  clear hmm
  go_loopw [51] (fun i wr => ∃ m : Nat, m ≤ nK ∧ i = .int .i64 m ∧ Hid (wr.ownsMap Yba.prog 9 boolR (w.heap.size + 1) m (setD K m)) ∧ Hid (Frm (fun _ => False) (w.alloc (.cells #[.bool ic] 4)) wr)) (fun i _ => nK - (intOf i).toNat)
  case atStart => exact ⟨0, Nat.zero_le _, rfl, Hid.intro (by have := World.ownsMap_made (w.alloc (.cells #[.bool ic] 4)) Yba.prog 9 boolR; rwa [HWs.out] at this), Hid.intro ((Frm.refl _ _).alloc _)⟩
  case round =>
    obtain ⟨m, hm, rfl, HM, HR⟩ := hrel
    by_cases hlt : m < nK
    · obtain ⟨_, bK, offK, rfl, hKc⟩ := HK.out.resolve_left (by omega)
      have HKc := Hid.intro hKc
      clear hKc HK
      have hKm := HKc.out m hlt
      have lb := lt_of_cell hKm.1
      have hR := HR.out
      have hF := HF.out
      have c0 : wr.cell? ⟨bK, offK + m, none⟩ = some (.string (K m)) := hR.cell (hF.cell (cell_alloc_any _ hKm.1) id) id
      have hkm := hKm.2
      clear hKm hR hF
      go_wp2_with (first
        | (at_mapUpdate; refine wpList_mapUpdate_own _ rfl _ _ _ 49 rfl 9 4 keyedS Yba.underlying49 boolR (w.heap.size + 1) m (setD K m) rfl HM.out (by unfold maxLen; omega) _ _ (keyL (K m)) rfl rfl (keyOf_string_mk Yba.underlying9 hkm) tt [] rfl ?_; intro W1 hown1 hgrow1)
        | fail)
      go_roundw
      case rel => exact ⟨m + 1, by omega, by go_num, Hid.intro hown1, Hid.intro ⟨hgrow1.os.trans HR.out.os, hgrow1.tape.trans HR.out.tape, hgrow1.output.trans HR.out.output, Nat.le_trans HR.out.size hgrow1.size, fun i hi hS => (hgrow1.block i (Nat.lt_of_lt_of_le hi HR.out.size) (fun e => by have := HWs.out; cases e; omega)).trans (HR.out.blk i hi hS)⟩⟩
      case measure => simp [intOf]; omega
    · have : m = nK := by omega
      subst this
      have hl := look_eq HM.out (setD_all K m) hvs
      have hmf : ∀ (fn : Fn) (first cap : Array Value) (W' : World), (Instr.makeFunc fn first cap).run Yba.prog W' = .ok (.func fn first cap) W' := fun _ _ _ _ => rfl
      obtain ⟨had, hhad⟩ : ∃ b, b = Maps.has (setD K m) (keyL v) := ⟨_, rfl⟩
      rw [← hhad] at hl
      have HH := Hid.intro hhad
      obtain ⟨sz, hsz⟩ : ∃ z, z = Maps.size (setD K m) := ⟨_, rfl⟩
      have HZ := Hid.intro hsz
      have hszb : sz ≤ 1024 := by rw [hsz]; exact Nat.le_trans (setD_size K m) hnK
      clear hsz
      clear hhad
      cases hc
      all_goals
        go_wp2_with (first
          | (at_len; refine wpList_len_own _ rfl _ 49 rfl 9 4 Yba.underlying49 boolR (w.heap.size + 1) m (setD K m) rfl HM.out ?_; rw [← HZ.out])
          | (refine wpList_repl rfl _ _ _ rfl bl ba (w.heap.size + 1) rfl rfl rfl ?_)
          | fail)
      · refine Calls.mono (choose_here (W := w.alloc (.cells #[.bool ic] 4)) (n := 0) (ao := none) (D := setD K m) (S := S) (B := B) (V := V) (ba := ba) false ic (by omega) hnK hvs (repl3 _ _ _) (repl17 _ _ _) (repl61 _ _ _) (repl62 _ _ _) HF.out HWs.out HR.out HM.out (fun _ => rfl) HO.out HA.out) ?_
        rintro e w2 haft
        obtain ⟨g, cap', rfl, NW⟩ := haft.nw
        clear haft hl HM HR
        go_wp2_with fail
        clear hmf
        go_loopw [87] (fun i wo => (∃ k : Nat, k ≤ 0 ∧ i = .int .i64 k) ∧ Hid (Nw w wr ic (w.heap.size + 1) 0 g none (setD K m) S B V sl bl v (false && !v.toList.isEmpty) (if (false && !v.toList.isEmpty) && ic then sl else ba) wo)) (fun i _ => 0 - (intOf i).toNat)
        case atStart => exact ⟨⟨0, Nat.zero_le _, rfl⟩, NW⟩
        case round =>
          rename World => wo
          obtain ⟨⟨k, hk, rfl⟩, NV⟩ := hrel
          obtain rfl : k = 0 := by omega
          next =>
            obtain ⟨o0, o1, o2⟩ := three_last0 NV.out.out
            have a17 := NV.out.c17
            have a62 := NV.out.c62
            have ai := NV.out.hi
            obtain ⟨n', hmap⟩ := NV.out.map
            have hD := chD_all (v := v) (setD_all K m)
            have hcl := NV.out.calls
            rcases hv : v.toList.isEmpty with _ | _
            · have hv' : (!v.toList.isEmpty) = true := by rw [hv]; rfl
              have hDe : chD v (setD K m) = (setD K m).put (keyL v) tt := by simp [chD, hv]
              have HL3 : Hid (∀ j, j < m → (K j).size ≤ maxLen → (Instr.lookup 49 (.map (some (w.heap.size + 1))) (.string (K j)) false).run Yba.prog wo = .ok (.bool true) wo) := Hid.intro (fun j hj hs => by
                have := look_eq hmap hD hs
                rwa [chD_has (setD_all K m) (setD_has K m j hj)] at this)
              have hl := look_eq hmap hD hvs
              rw [hDe] at hmap hl
              rw [Maps.has_put_same (setD_all K m).tidy.isMap (keyL_key v)] at hl
              have hz := Maps.size_put (k := keyL v) (setD_all K m).tidy tt
              rw [← HH.out, ← HZ.out] at hz
              have HMP := Hid.intro hmap
              clear hmap hD
              simp only [Bool.false_and, Bool.false_eq_true, if_false] at a62
              rcases hcl with ⟨_, hcl⟩ | ⟨e, _⟩
              rotate_left
              · simp at e
              cases had
              all_goals
                simp only [Bool.false_eq_true, if_false, if_true] at hz
                have HSZ := Hid.intro hz
                clear hz
                go_wp2_with (first
                  | (at_len; refine wpList_len_own _ rfl _ 49 rfl 9 4 Yba.underlying49 boolR (w.heap.size + 1) n' ((setD K m).put (keyL v) tt) rfl HMP.out ?_; rw [HSZ.out])
                  | fail)
                go_loop [185] (fun i => ∃ j : Nat, j ≤ m ∧ i = .int .i64 j) (fun i => m - (intOf i).toNat)
                case atStart => exact ⟨0, Nat.zero_le _, rfl⟩
                case round =>
                  obtain ⟨j, hj, rfl⟩ := hrel
                  by_cases hlt3 : j < m
                  · obtain ⟨_, bK, offK, rfl, hKc⟩ := HK.out.resolve_left (by omega)
                    have hKm := (hKc j hlt3).1
                    have hKs := (hKc j hlt3).2
                    have HKc := Hid.intro hKc
                    clear hKc
                    have lb := lt_of_cell hKm
                    have c0 : wo.cell? ⟨bK, offK + j, none⟩ = some (.string (K j)) := NV.out.frm.cell (cell_alloc_any _ hKm) (by omega)
                    have hl3 := HL3.out j hlt3 hKs
                    clear hKm hl
                    go_wp2
                    go_round
                    case rel => exact ⟨j + 1, by omega, by go_num⟩
                    case measure => simp [intOf]; omega
                  · go_wp2
                    go_ret
                    exact ⟨rfl, NV.out.bel (by omega)⟩
            · have hDe : chD v (setD K m) = setD K m := by simp [chD, hv]
              have HL3 : Hid (∀ j, j < m → (K j).size ≤ maxLen → (Instr.lookup 49 (.map (some (w.heap.size + 1))) (.string (K j)) false).run Yba.prog wo = .ok (.bool true) wo) := Hid.intro (fun j hj hs => by
                have := look_eq hmap hD hs
                rwa [chD_has (setD_all K m) (setD_has K m j hj)] at this)
              rw [hDe] at hmap
              simp only [hv, Bool.not_true, Bool.and_false, Bool.false_and, Bool.false_eq_true, if_false] at a62
              rcases hcl with ⟨_, hcl⟩ | ⟨e, _⟩
              rotate_left
              · simp [hv] at e
              have hl := look_eq hmap (setD_all K m) hvs
              have HMP := Hid.intro hmap
              clear hmap hD
              rw [← HH.out, empty_of hv] at hl
              cases had
              all_goals
                go_wp2_with (first
                  | (at_len; refine wpList_len_own _ rfl _ 49 rfl 9 4 Yba.underlying49 boolR (w.heap.size + 1) n' (setD K m) rfl HMP.out ?_; rw [← HZ.out])
                  | fail)
                go_loop [185] (fun i => ∃ j : Nat, j ≤ m ∧ i = .int .i64 j) (fun i => m - (intOf i).toNat)
                case atStart => exact ⟨0, Nat.zero_le _, rfl⟩
                case round =>
                  obtain ⟨j, hj, rfl⟩ := hrel
                  by_cases hlt3 : j < m
                  · obtain ⟨_, bK, offK, rfl, hKc⟩ := HK.out.resolve_left (by omega)
                    have hKm := (hKc j hlt3).1
                    have hKs := (hKc j hlt3).2
                    have HKc := Hid.intro hKc
                    clear hKc
                    have lb := lt_of_cell hKm
                    have c0 : wo.cell? ⟨bK, offK + j, none⟩ = some (.string (K j)) := NV.out.frm.cell (cell_alloc_any _ hKm) (by omega)
                    have hl3 := HL3.out j hlt3 hKs
                    clear hKm hl
                    go_wp2
                    go_round
                    case rel => exact ⟨j + 1, by omega, by go_num⟩
                    case measure => simp [intOf]; omega
                  · go_wp2
                    go_ret
                    exact ⟨rfl, NV.out.bel (by omega)⟩
      · refine Calls.mono (choose_here (W := w.alloc (.cells #[.bool ic] 4)) (n := 0) (ao := none) (D := setD K m) (S := S) (B := B) (V := V) (ba := ba) true ic (by omega) hnK hvs (repl_f _ _ _ _) (repl_o _ _ _ _ (by decide) (repl17 _ _ _)) (repl_o _ _ _ _ (by decide) (repl61 _ _ _)) (repl_o _ _ _ _ (by decide) (repl62 _ _ _)) HF.out HWs.out HR.out HM.out (fun _ => rfl) HO.out HA.out) ?_
        rintro e w2 haft
        obtain ⟨g, cap', rfl, NW⟩ := haft.nw
        clear haft hl HM HR
        go_wp2_with fail
        clear hmf
        go_loopw [87] (fun i wo => (∃ k : Nat, k ≤ 0 ∧ i = .int .i64 k) ∧ Hid (Nw w wr ic (w.heap.size + 1) 0 g none (setD K m) S B V sl bl v (true && !v.toList.isEmpty) (if (true && !v.toList.isEmpty) && ic then sl else ba) wo)) (fun i _ => 0 - (intOf i).toNat)
        case atStart => exact ⟨⟨0, Nat.zero_le _, rfl⟩, NW⟩
        case round =>
          rename World => wo
          obtain ⟨⟨k, hk, rfl⟩, NV⟩ := hrel
          obtain rfl : k = 0 := by omega
          next =>
            obtain ⟨o0, o1, o2⟩ := three_last0 NV.out.out
            have a17 := NV.out.c17
            have a62 := NV.out.c62
            have ai := NV.out.hi
            obtain ⟨n', hmap⟩ := NV.out.map
            have hD := chD_all (v := v) (setD_all K m)
            have hcl := NV.out.calls
            rcases hv : v.toList.isEmpty with _ | _
            · have hv' : (!v.toList.isEmpty) = true := by rw [hv]; rfl
              have hDe : chD v (setD K m) = (setD K m).put (keyL v) tt := by simp [chD, hv]
              have HL3 : Hid (∀ j, j < m → (K j).size ≤ maxLen → (Instr.lookup 49 (.map (some (w.heap.size + 1))) (.string (K j)) false).run Yba.prog wo = .ok (.bool true) wo) := Hid.intro (fun j hj hs => by
                have := look_eq hmap hD hs
                rwa [chD_has (setD_all K m) (setD_has K m j hj)] at this)
              have hl := look_eq hmap hD hvs
              rw [hDe] at hmap hl
              rw [Maps.has_put_same (setD_all K m).tidy.isMap (keyL_key v)] at hl
              have hz := Maps.size_put (k := keyL v) (setD_all K m).tidy tt
              rw [← HH.out, ← HZ.out] at hz
              have HMP := Hid.intro hmap
              clear hmap hD
              simp only [hv, Bool.not_false, Bool.true_and] at a62
              rcases hcl with ⟨e, _⟩ | ⟨_, gc, capc, hcl, hgc⟩
              · simp [hv] at e
              cases had <;> cases ic
              all_goals
                simp only [Bool.false_eq_true, if_false, if_true] at hz a62
                have HSZ := Hid.intro hz
                clear hz
                go_wp2_with (first
                  | (at_len; refine wpList_len_own _ rfl _ 49 rfl 9 4 Yba.underlying49 boolR (w.heap.size + 1) n' ((setD K m).put (keyL v) tt) rfl HMP.out ?_; rw [HSZ.out])
                  | fail)
                go_loop [185] (fun i => ∃ j : Nat, j ≤ m ∧ i = .int .i64 j) (fun i => m - (intOf i).toNat)
                case atStart => exact ⟨0, Nat.zero_le _, rfl⟩
                case round =>
                  obtain ⟨j, hj, rfl⟩ := hrel
                  by_cases hlt3 : j < m
                  · obtain ⟨_, bK, offK, rfl, hKc⟩ := HK.out.resolve_left (by omega)
                    have hKm := (hKc j hlt3).1
                    have hKs := (hKc j hlt3).2
                    have HKc := Hid.intro hKc
                    clear hKc
                    have lb := lt_of_cell hKm
                    have c0 : wo.cell? ⟨bK, offK + j, none⟩ = some (.string (K j)) := NV.out.frm.cell (cell_alloc_any _ hKm) (by omega)
                    have hl3 := HL3.out j hlt3 hKs
                    clear hKm hl
                    go_wp2
                    go_round
                    case rel => exact ⟨j + 1, by omega, by go_num⟩
                    case measure => simp [intOf]; omega
                  · go_wp2
                    go_ret
                    exact ⟨rfl, NV.out.bel (by omega)⟩
            · have hDe : chD v (setD K m) = setD K m := by simp [chD, hv]
              have HL3 : Hid (∀ j, j < m → (K j).size ≤ maxLen → (Instr.lookup 49 (.map (some (w.heap.size + 1))) (.string (K j)) false).run Yba.prog wo = .ok (.bool true) wo) := Hid.intro (fun j hj hs => by
                have := look_eq hmap hD hs
                rwa [chD_has (setD_all K m) (setD_has K m j hj)] at this)
              rw [hDe] at hmap
              simp only [hv, Bool.not_true, Bool.and_false, Bool.false_and, Bool.false_eq_true, if_false] at a62
              rcases hcl with ⟨_, hcl⟩ | ⟨e, _⟩
              rotate_left
              · simp [hv] at e
              have hl := look_eq hmap (setD_all K m) hvs
              have HMP := Hid.intro hmap
              clear hmap hD
              rw [← HH.out, empty_of hv] at hl
              cases had
              all_goals
                go_wp2_with (first
                  | (at_len; refine wpList_len_own _ rfl _ 49 rfl 9 4 Yba.underlying49 boolR (w.heap.size + 1) n' (setD K m) rfl HMP.out ?_; rw [← HZ.out])
                  | fail)
                go_loop [185] (fun i => ∃ j : Nat, j ≤ m ∧ i = .int .i64 j) (fun i => m - (intOf i).toNat)
                case atStart => exact ⟨0, Nat.zero_le _, rfl⟩
                case round =>
                  obtain ⟨j, hj, rfl⟩ := hrel
                  by_cases hlt3 : j < m
                  · obtain ⟨_, bK, offK, rfl, hKc⟩ := HK.out.resolve_left (by omega)
                    have hKm := (hKc j hlt3).1
                    have hKs := (hKc j hlt3).2
                    have HKc := Hid.intro hKc
                    clear hKc
                    have lb := lt_of_cell hKm
                    have c0 : wo.cell? ⟨bK, offK + j, none⟩ = some (.string (K j)) := NV.out.frm.cell (cell_alloc_any _ hKm) (by omega)
                    have hl3 := HL3.out j hlt3 hKs
                    clear hKm hl
                    go_wp2
                    go_round
                    case rel => exact ⟨j + 1, by omega, by go_num⟩
                    case measure => simp [intOf]; omega
                  · go_wp2
                    go_ret
                    exact ⟨rfl, NV.out.bel (by omega)⟩
end Go.Proofs.Ybulkczau
