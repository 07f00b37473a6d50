import Derived.Test.YbulkczagW1
import Derived.Laws.BytesArg
namespace Go.Proofs.Ybulkczag
open Go.RowKit

/-- The string of three bytes. -/
def s3 (a b c : Int) : ByteArray := strOfNums [a, b, c]
theorem s3_size (a b c : Int) : (s3 a b c).size = 3 := rfl
theorem ofNat_toNat {a : Int} (h : 0 ≤ a ∧ a ≤ 255) : ((UInt8.ofNat a.toNat).toNat : Int) = a := by
  have : a.toNat % 256 = a.toNat := Nat.mod_eq_of_lt (by omega)
  simp [UInt8.toNat_ofNat']
  omega
theorem s3_0 {a b c : Int} (h : 0 ≤ a ∧ a ≤ 255) : ((s3 a b c)[0]'(by rw [s3_size]; omega)).toNat = (a.toNat) := by
  have := ofNat_toNat h
  show (UInt8.ofNat a.toNat).toNat = _
  omega
theorem s3_1 {a b c : Int} (h : 0 ≤ b ∧ b ≤ 255) : ((s3 a b c)[1]'(by rw [s3_size]; omega)).toNat = (b.toNat) := by
  have := ofNat_toNat h
  show (UInt8.ofNat b.toNat).toNat = _
  omega
theorem s3_2 {a b c : Int} (h : 0 ≤ c ∧ c ≤ 255) : ((s3 a b c)[2]'(by rw [s3_size]; omega)).toNat = (c.toNat) := by
  have := ofNat_toNat h
  show (UInt8.ofNat c.toNat).toNat = _
  omega

theorem conv3 (a b c : Int) (B cap : Nat) (W : World) (h0 : W.cell? ⟨B, 0, none⟩ = some (.int .u8 a)) (h1 : W.cell? ⟨B, 1, none⟩ = some (.int .u8 b)) (h2 : W.cell? ⟨B, 2, none⟩ = some (.int .u8 c)) :
    (convert 25 9 (.slice (some ⟨B, 0, none⟩) 3 cap)).run Yba.prog W = .ok (.string (s3 a b c)) W :=
  run_convert_bytes_arg (P := Yba.prog) W 25 5 Yba.underlying25 Yba.underlying5 B 0 3 cap [a, b, c] rfl (fun i hi => by
    match i, hi with
    | 0, _ => exact h0
    | 1, _ => exact h1
    | 2, _ => exact h2) 9 Yba.underlying9

theorem name_s3 (a b c : Int) (w : World) (ha : 0 ≤ a ∧ a ≤ 255) (hb : 0 ≤ b ∧ b ≤ 255) (hc : 0 ≤ c ∧ c ≤ 255) :
    Calls Yba.prog 5 #[.string (s3 a b c)] w fun e w' => e = .returned (.int .u32 (key3 a b c)) ∧ ∃ n, w' = w.drewN n :=
  name_three (s3 a b c) w (s3_size a b c) a b c (by rw [s3_0 ha]; omega) (by rw [s3_1 hb]; omega) (by rw [s3_2 hc]; omega)
theorem model_s3 (a b c : Int) (w : World) (ha : 0 ≤ a ∧ a ≤ 255) (hb : 0 ≤ b ∧ b ≤ 255) (hc : 0 ≤ c ∧ c ≤ 255) :
    Calls Yba.prog 6 #[.string (s3 a b c)] w fun e w' => e = .returned (.int .u32 (key3 a b c)) ∧ w' = w :=
  model_three (s3 a b c) w (s3_size a b c) a b c (by rw [s3_0 ha]; omega) (by rw [s3_1 hb]; omega) (by rw [s3_2 hc]; omega)

/-- Of any string: one key for both. -/
theorem name_any (s : ByteArray) : ∃ K : Int, (∀ w, Calls Yba.prog 5 #[.string s] w fun e w' => e = .returned (.int .u32 K) ∧ ∃ n, w' = w.drewN n) ∧ ∀ w, Calls Yba.prog 6 #[.string s] w fun e w' => e = .returned (.int .u32 K) ∧ w' = w := by
  by_cases h : s.size = 3
  · exact ⟨_, fun w => name_three s w h _ _ _ rfl rfl rfl, fun w => model_three s w h _ _ _ rfl rfl rfl⟩
  · exact ⟨0, fun w => (name_other s w h).mono fun e w' ⟨h1, h2⟩ => ⟨h1, 0, h2⟩, fun w => model_other s w h⟩

set_option maxHeartbeats 400000 in
theorem exact_any (s : ByteArray) (a b c : Int) (w : World) (ha : 0 ≤ a ∧ a ≤ 255) (hb : 0 ≤ b ∧ b ≤ 255) (hc : 0 ≤ c ∧ c ≤ 255) :
    Calls Yba.prog 3 #[.string s, .agg #[.int .u8 a, .int .u8 b, .int .u8 c]] w fun e w' => e = .returned (.bool true) ∧ Below w.heap.size w w' := by
  obtain ⟨K, hK1, hK2⟩ := name_any s
  have HK1 : Hid (∀ w, Calls Yba.prog 5 #[.string s] w _) := hK1
  have HK2 : Hid (∀ w, Calls Yba.prog 6 #[.string s] w _) := hK2
  have HA : Hid _ := ha
  have HB : Hid _ := hb
  have HC : Hid _ := hc
  clear hK1 hK2 ha hb hc
  go_enter Yba.func3, Yba.ntmps3
  go_wp2_with fail
  refine Calls.mono (HK1.out _) ?_
  rintro e w2 ⟨rfl, n, hw2⟩
  have c0 : w2.cell? ⟨w.heap.size, 0, none⟩ = some (.int .u8 a) := by rw [hw2]; exact World.cell?_alloc_at _ _ _ _ rfl
  have c1 : w2.cell? ⟨w.heap.size, 1, none⟩ = some (.int .u8 b) := by rw [hw2]; exact World.cell?_alloc_at _ _ _ _ rfl
  have c2 : w2.cell? ⟨w.heap.size, 2, none⟩ = some (.int .u8 c) := by rw [hw2]; exact World.cell?_alloc_at _ _ _ _ rfl
  have hbel : Below w.heap.size w w2 := by rw [hw2]; exact below_drewN ((Below.refl _ _).alloc (Nat.le_refl _) _) n
  clear hw2
  have hcv := fun cap => conv3 a b c w.heap.size cap w2 c0 c1 c2
  go_wp2_with fail
  refine Calls.mono (HK2.out _) ?_
  rintro e w3 ⟨rfl, rfl⟩
  have hkk : (K != K) = false := by simp
  go_wp2_with fail
  refine (name_s3 a b c _ HA.out HB.out HC.out).mono ?_
  rintro e w4 ⟨rfl, n, rfl⟩
  go_wp2_with fail
  refine (model_s3 a b c _ HA.out HB.out HC.out).mono ?_
  rintro e w5 ⟨rfl, rfl⟩
  go_wp2
  go_ret
  exact ⟨rfl, below_drewN hbel n⟩
end Go.Proofs.Ybulkczag
