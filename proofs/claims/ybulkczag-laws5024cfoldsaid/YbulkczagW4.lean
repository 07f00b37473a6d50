import Derived.Test.YbulkczagW2
namespace Go.Proofs.Ybulkczag
open Go.RowKit

theorem key3_eq {a b c x y z : Int} (h0 : low x = low a) (h1 : low y = low b) (h2 : low z = low c) : key3 x y z = key3 a b c := by unfold key3; rw [h0, h1, h2]
theorem key3_bd {a b c : Int} (ha : 0 ≤ a ∧ a ≤ 255) (hb : 0 ≤ b ∧ b ≤ 255) (hc : 0 ≤ c ∧ c ≤ 255) : 0 ≤ key3 a b c ∧ key3 a b c < 16777216 := by
  have h0 := low_bd ha.1 ha.2
  have h1 := low_bd hb.1 hb.2
  have h2 := low_bd hc.1 hc.2
  unfold key3; omega

/-- The three boxes: a, b and the flipped one. -/
def w3of (w : World) (a0 a1 a2 b0 b1 b2 x0 x1 x2 : Int) : World :=
  ((w.alloc (.cells #[.int .u8 a0, .int .u8 a1, .int .u8 a2] 22)).alloc (.cells #[.int .u8 b0, .int .u8 b1, .int .u8 b2] 22)).alloc (.cells #[.int .u8 x0, .int .u8 x1, .int .u8 x2] 22)

/-- What is read of the three boxes, in whatever later world. -/
structure F3 (w V : World) (a0 a1 a2 b0 b1 b2 x0 x1 x2 : Int) : Prop where
  a0 : V.cell? ⟨w.heap.size, 0, none⟩ = some (.int .u8 a0)
  a1 : V.cell? ⟨w.heap.size, 1, none⟩ = some (.int .u8 a1)
  a2 : V.cell? ⟨w.heap.size, 2, none⟩ = some (.int .u8 a2)
  b0 : V.cell? ⟨w.heap.size + 1, 0, none⟩ = some (.int .u8 b0)
  b1 : V.cell? ⟨w.heap.size + 1, 1, none⟩ = some (.int .u8 b1)
  b2 : V.cell? ⟨w.heap.size + 1, 2, none⟩ = some (.int .u8 b2)
  x0 : V.cell? ⟨w.heap.size + 1 + 1, 0, none⟩ = some (.int .u8 x0)
  x1 : V.cell? ⟨w.heap.size + 1 + 1, 1, none⟩ = some (.int .u8 x1)
  x2 : V.cell? ⟨w.heap.size + 1 + 1, 2, none⟩ = some (.int .u8 x2)
  bel : Below w.heap.size w V
theorem F3.drewN {w V : World} {a0 a1 a2 b0 b1 b2 x0 x1 x2 : Int} (h : F3 w V a0 a1 a2 b0 b1 b2 x0 x1 x2) (n : Nat) : F3 w (V.drewN n) a0 a1 a2 b0 b1 b2 x0 x1 x2 :=
  ⟨h.a0, h.a1, h.a2, h.b0, h.b1, h.b2, h.x0, h.x1, h.x2, below_drewN h.bel n⟩
theorem F3.c1 {w V : World} {a0 a1 a2 b0 b1 b2 x0 x1 x2 : Int} (h : F3 w V a0 a1 a2 b0 b1 b2 x0 x1 x2) (cap : Nat) : (convert 25 9 (.slice (some ⟨w.heap.size, 0, none⟩) 3 cap)).run Yba.prog V = .ok (.string (s3 a0 a1 a2)) V := conv3 _ _ _ _ _ _ h.a0 h.a1 h.a2
theorem F3.c2 {w V : World} {a0 a1 a2 b0 b1 b2 x0 x1 x2 : Int} (h : F3 w V a0 a1 a2 b0 b1 b2 x0 x1 x2) (cap : Nat) : (convert 25 9 (.slice (some ⟨w.heap.size + 1, 0, none⟩) 3 cap)).run Yba.prog V = .ok (.string (s3 b0 b1 b2)) V := conv3 _ _ _ _ _ _ h.b0 h.b1 h.b2
theorem F3.c3 {w V : World} {a0 a1 a2 b0 b1 b2 x0 x1 x2 : Int} (h : F3 w V a0 a1 a2 b0 b1 b2 x0 x1 x2) (cap : Nat) : (convert 25 9 (.slice (some ⟨w.heap.size + 1 + 1, 0, none⟩) 3 cap)).run Yba.prog V = .ok (.string (s3 x0 x1 x2)) V := conv3 _ _ _ _ _ _ h.x0 h.x1 h.x2
theorem f3_start (w : World) (a0 a1 a2 b0 b1 b2 x0 x1 x2 : Int) : F3 w (w3of w a0 a1 a2 b0 b1 b2 x0 x1 x2) a0 a1 a2 b0 b1 b2 x0 x1 x2 := by
  unfold w3of
  refine ⟨?_, ?_, ?_, ?_, ?_, ?_, World.cell?_alloc_at _ _ _ _ (by simp), World.cell?_alloc_at _ _ _ _ (by simp), World.cell?_alloc_at _ _ _ _ (by simp), (((Below.refl _ _).alloc (Nat.le_refl _) _).alloc (by simp) _).alloc (by simp; omega) _⟩
  · rw [World.cell?_alloc_past _ _ _ (by simp; omega), World.cell?_alloc_past _ _ _ (by simp)]; exact World.cell?_alloc_at _ _ _ _ rfl
  · rw [World.cell?_alloc_past _ _ _ (by simp; omega), World.cell?_alloc_past _ _ _ (by simp)]; exact World.cell?_alloc_at _ _ _ _ rfl
  · rw [World.cell?_alloc_past _ _ _ (by simp; omega), World.cell?_alloc_past _ _ _ (by simp)]; exact World.cell?_alloc_at _ _ _ _ rfl
  · rw [World.cell?_alloc_past _ _ _ (by simp)]; exact World.cell?_alloc_at _ _ _ _ (by simp)
  · rw [World.cell?_alloc_past _ _ _ (by simp)]; exact World.cell?_alloc_at _ _ _ _ (by simp)
  · rw [World.cell?_alloc_past _ _ _ (by simp)]; exact World.cell?_alloc_at _ _ _ _ (by simp)

/-- 'same', k bytes compared. -/
def Same (a0 a1 a2 b0 b1 b2 : Int) (k : Nat) (t : Bool) : Prop := t = true ↔ (0 < k → low a0 = low b0) ∧ (1 < k → low a1 = low b1) ∧ (2 < k → low a2 = low b2)
section
variable {a0 a1 a2 b0 b1 b2 : Int} {t : Bool}
theorem same_step0 (h : Same a0 a1 a2 b0 b1 b2 0 t) (hq : (low a0 != low b0) = false) : Same a0 a1 a2 b0 b1 b2 1 t := by simp [Same] at *; simp [h, hq]
theorem same_step1 (h : Same a0 a1 a2 b0 b1 b2 1 t) (hq : (low a1 != low b1) = false) : Same a0 a1 a2 b0 b1 b2 2 t := by simp [Same] at *; simp [h, hq]
theorem same_step2 (h : Same a0 a1 a2 b0 b1 b2 2 t) (hq : (low a2 != low b2) = false) : Same a0 a1 a2 b0 b1 b2 3 t := by simp [Same] at *; simp [h, hq]
theorem same_fail0 (hq : (low a0 != low b0) = true) : Same a0 a1 a2 b0 b1 b2 1 false := by simp [Same] at *; exact hq
theorem same_fail1 (hq : (low a1 != low b1) = true) : Same a0 a1 a2 b0 b1 b2 2 false := by simp [Same] at *; exact fun _ => hq
theorem same_fail2 (hq : (low a2 != low b2) = true) : Same a0 a1 a2 b0 b1 b2 3 false := by simp [Same] at *; exact fun _ _ => hq
theorem same_end (ha0 : 0 ≤ a0 ∧ a0 ≤ 255) (ha1 : 0 ≤ a1 ∧ a1 ≤ 255) (ha2 : 0 ≤ a2 ∧ a2 ≤ 255) (hb0 : 0 ≤ b0 ∧ b0 ≤ 255) (hb1 : 0 ≤ b1 ∧ b1 ≤ 255) (hb2 : 0 ≤ b2 ∧ b2 ≤ 255) (h : Same a0 a1 a2 b0 b1 b2 3 t) :
    ((key3 a0 a1 a2 == key3 b0 b1 b2) == t) = true := by
  have h1 := low_bd ha0.1 ha0.2
  have h2 := low_bd ha1.1 ha1.2
  have h3 := low_bd ha2.1 ha2.2
  have h4 := low_bd hb0.1 hb0.2
  have h5 := low_bd hb1.1 hb1.2
  have h6 := low_bd hb2.1 hb2.2
  simp [Same] at h
  cases t
  · simp at h ⊢
    intro e
    unfold key3 at e
    exact h (by omega) (by omega) (by omega)
  · simp at h ⊢
    unfold key3
    omega
end

set_option maxHeartbeats 800000 in
theorem fold_any (a0 a1 a2 b0 b1 b2 mk : Int) (w : World) (ha0 : 0 ≤ a0 ∧ a0 ≤ 255) (ha1 : 0 ≤ a1 ∧ a1 ≤ 255) (ha2 : 0 ≤ a2 ∧ a2 ≤ 255) (hb0 : 0 ≤ b0 ∧ b0 ≤ 255) (hb1 : 0 ≤ b1 ∧ b1 ≤ 255) (hb2 : 0 ≤ b2 ∧ b2 ≤ 255) :
    Calls Yba.prog 4 #[.agg #[.int .u8 a0, .int .u8 a1, .int .u8 a2], .int .u8 mk, .agg #[.int .u8 b0, .int .u8 b1, .int .u8 b2]] w fun e w' => e = .returned (.bool true) ∧ Below w.heap.size w w' := by
  go_enter Yba.func4, Yba.ntmps4
  go_wp2
  go_loopw [8] (fun i wr => ∃ (k : Nat) (x0 x1 x2 : Int), k ≤ 3 ∧ i = .int .i64 k ∧ wr = w3of w a0 a1 a2 b0 b1 b2 x0 x1 x2 ∧ (0 ≤ x0 ∧ x0 ≤ 255) ∧ (0 ≤ x1 ∧ x1 ≤ 255) ∧ (0 ≤ x2 ∧ x2 ≤ 255) ∧ Hid ((0 < k → low x0 = low a0) ∧ (1 < k → low x1 = low a1) ∧ (2 < k → low x2 = low a2))) (fun i _ => 3 - (intOf i).toNat)
  case atStart => exact ⟨0, 0, 0, 0, by omega, rfl, rfl, by omega, by omega, by omega, by omega, by omega, by omega⟩
  case round =>
    obtain ⟨k, x0, x1, x2, hk, rfl, rfl, hx0, hx1, hx2, HX⟩ := hrel
    rcases (by omega : k = 0 ∨ k = 1 ∨ k = 2 ∨ k = 3) with rfl | rfl | rfl | rfl
    · unfold w3of
      go_wp2_with (go_at_call 7; refine (flip_any _ _ ha0.1 ha0.2).mono ?_; rintro e w' ⟨rfl, rfl⟩)
      · go_roundw
        case rel => exact ⟨1, (flip a0), x1, x2, by omega, rfl, rfl, (flip_bd ha0.1 ha0.2), hx1, hx2, ⟨(fun _ => low_flip a0), (fun h => by omega), (fun h => by omega)⟩⟩
        case measure => simp [intOf]
      · go_roundw
        case rel => exact ⟨1, a0, x1, x2, by omega, rfl, rfl, ha0, hx1, hx2, ⟨(fun _ => rfl), (fun h => by omega), (fun h => by omega)⟩⟩
        case measure => simp [intOf]
    · unfold w3of
      go_wp2_with (go_at_call 7; refine (flip_any _ _ ha1.1 ha1.2).mono ?_; rintro e w' ⟨rfl, rfl⟩)
      · go_roundw
        case rel => exact ⟨2, x0, (flip a1), x2, by omega, rfl, rfl, hx0, (flip_bd ha1.1 ha1.2), hx2, ⟨(fun _ => HX.out.1 (by omega)), (fun _ => low_flip a1), (fun h => by omega)⟩⟩
        case measure => simp [intOf]
      · go_roundw
        case rel => exact ⟨2, x0, a1, x2, by omega, rfl, rfl, hx0, ha1, hx2, ⟨(fun _ => HX.out.1 (by omega)), (fun _ => rfl), (fun h => by omega)⟩⟩
        case measure => simp [intOf]
    · unfold w3of
      go_wp2_with (go_at_call 7; refine (flip_any _ _ ha2.1 ha2.2).mono ?_; rintro e w' ⟨rfl, rfl⟩)
      · go_roundw
        case rel => exact ⟨3, x0, x1, (flip a2), by omega, rfl, rfl, hx0, hx1, (flip_bd ha2.1 ha2.2), ⟨(fun _ => HX.out.1 (by omega)), (fun _ => HX.out.2.1 (by omega)), (fun _ => low_flip a2)⟩⟩
        case measure => simp [intOf]
      · go_roundw
        case rel => exact ⟨3, x0, x1, a2, by omega, rfl, rfl, hx0, hx1, ha2, ⟨(fun _ => HX.out.1 (by omega)), (fun _ => HX.out.2.1 (by omega)), (fun _ => rfl)⟩⟩
        case measure => simp [intOf]
    · have l0 := HX.out.1 (by omega)
      have l1 := HX.out.2.1 (by omega)
      have l2 := HX.out.2.2 (by omega)
      have HK : Hid (key3 x0 x1 x2 = key3 a0 a1 a2) := key3_eq l0 l1 l2
      clear l0 l1 l2 HX
      have hF := f3_start w a0 a1 a2 b0 b1 b2 x0 x1 x2
      generalize w3of w a0 a1 a2 b0 b1 b2 x0 x1 x2 = V at hF ⊢
      have c1 := hF.c1
      have HF : Hid _ := hF
      clear hF
      go_wp2_with fail
      refine (name_s3 a0 a1 a2 _ ha0 ha1 ha2).mono ?_
      rintro e V1 ⟨rfl, n1, hV1⟩
      have HF1 : Hid (F3 w V1 a0 a1 a2 b0 b1 b2 x0 x1 x2) := by rw [hV1]; exact F3.drewN HF.out n1
      clear hV1 c1 HF
      have c2 := F3.c3 HF1.out
      go_wp2_with fail
      refine (name_s3 x0 x1 x2 _ hx0 hx1 hx2).mono ?_
      rintro e V2 ⟨rfl, n2, hV2⟩
      have HF2 : Hid (F3 w V2 a0 a1 a2 b0 b1 b2 x0 x1 x2) := by rw [hV2]; exact F3.drewN HF1.out n2
      clear hV2 c2 HF1
      have c3 := F3.c2 HF2.out
      go_wp2_with fail
      refine (name_s3 b0 b1 b2 _ hb0 hb1 hb2).mono ?_
      rintro e V3 ⟨rfl, n3, hV3⟩
      have HF3 : Hid (F3 w V3 a0 a1 a2 b0 b1 b2 x0 x1 x2) := by rw [hV3]; exact F3.drewN HF2.out n3
      clear hV3 c3 HF2
      have hkb := key3_bd ha0 ha1 ha2
      have hne : (key3 a0 a1 a2 != key3 x0 x1 x2) = false := by rw [HK.out]; simp
      have hsh : key3 a0 a1 a2 / 16777216 = 0 := by omega
      go_wp2
      clear hkb hsh
      go_loopw [12, 13] (fun sm i wr => ∃ (k : Nat) (t : Bool), k ≤ 3 ∧ i = .int .i64 k ∧ sm = .bool t ∧ Hid (Same a0 a1 a2 b0 b1 b2 k t) ∧ Hid (F3 w wr a0 a1 a2 b0 b1 b2 x0 x1 x2)) (fun _ i _ => 3 - (intOf i).toNat)
      case atStart => exact ⟨0, true, by omega, rfl, rfl, by simp [Hid, Same], HF3⟩
      case round =>
        obtain ⟨k, t, hk, rfl, rfl, HT, HFr⟩ := hrel
        clear HF3
        rcases (by omega : k = 0 ∨ k = 1 ∨ k = 2 ∨ k = 3) with rfl | rfl | rfl | rfl
        · have ca := HFr.out.a0
          have cb := HFr.out.b0
          cases hq : (low a0 != low b0)
          · go_wp2_with fail
            go_quiet ((go_at_call 8; exact Calls.quiet_of_same (lowB _ _ (by omega) (by omega))))
            have HFq : Hid (F3 w (wr.drewN nq) a0 a1 a2 b0 b1 b2 x0 x1 x2) := F3.drewN HFr.out nq
            go_wp2
            go_roundw
            case rel => exact ⟨1, t, by omega, rfl, rfl, same_step0 HT.out hq, HFq⟩
            case measure => simp [intOf]
          · go_wp2_with fail
            go_quiet ((go_at_call 8; exact Calls.quiet_of_same (lowB _ _ (by omega) (by omega))))
            have HFq : Hid (F3 w (wr.drewN nq) a0 a1 a2 b0 b1 b2 x0 x1 x2) := F3.drewN HFr.out nq
            go_wp2
            go_roundw
            case rel => exact ⟨1, false, by omega, rfl, rfl, same_fail0 hq, HFq⟩
            case measure => simp [intOf]
        · have ca := HFr.out.a1
          have cb := HFr.out.b1
          cases hq : (low a1 != low b1)
          · go_wp2_with fail
            go_quiet ((go_at_call 8; exact Calls.quiet_of_same (lowB _ _ (by omega) (by omega))))
            have HFq : Hid (F3 w (wr.drewN nq) a0 a1 a2 b0 b1 b2 x0 x1 x2) := F3.drewN HFr.out nq
            go_wp2
            go_roundw
            case rel => exact ⟨2, t, by omega, rfl, rfl, same_step1 HT.out hq, HFq⟩
            case measure => simp [intOf]
          · go_wp2_with fail
            go_quiet ((go_at_call 8; exact Calls.quiet_of_same (lowB _ _ (by omega) (by omega))))
            have HFq : Hid (F3 w (wr.drewN nq) a0 a1 a2 b0 b1 b2 x0 x1 x2) := F3.drewN HFr.out nq
            go_wp2
            go_roundw
            case rel => exact ⟨2, false, by omega, rfl, rfl, same_fail1 hq, HFq⟩
            case measure => simp [intOf]
        · have ca := HFr.out.a2
          have cb := HFr.out.b2
          cases hq : (low a2 != low b2)
          · go_wp2_with fail
            go_quiet ((go_at_call 8; exact Calls.quiet_of_same (lowB _ _ (by omega) (by omega))))
            have HFq : Hid (F3 w (wr.drewN nq) a0 a1 a2 b0 b1 b2 x0 x1 x2) := F3.drewN HFr.out nq
            go_wp2
            go_roundw
            case rel => exact ⟨3, t, by omega, rfl, rfl, same_step2 HT.out hq, HFq⟩
            case measure => simp [intOf]
          · go_wp2_with fail
            go_quiet ((go_at_call 8; exact Calls.quiet_of_same (lowB _ _ (by omega) (by omega))))
            have HFq : Hid (F3 w (wr.drewN nq) a0 a1 a2 b0 b1 b2 x0 x1 x2) := F3.drewN HFr.out nq
            go_wp2
            go_roundw
            case rel => exact ⟨3, false, by omega, rfl, rfl, same_fail2 hq, HFq⟩
            case measure => simp [intOf]
        · have hfin := same_end ha0 ha1 ha2 hb0 hb1 hb2 HT.out
          have hbel := F3.bel HFr.out
          go_wp2
          go_ret
          exact ⟨rfl, hbel⟩
end Go.Proofs.Ybulkczag
