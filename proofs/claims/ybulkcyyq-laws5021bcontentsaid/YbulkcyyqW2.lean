import Derived.Test.YbulkcyyqW1
namespace Go.Proofs.Ybulkcyyq
open Go.RowKit

/-- How many i < m are the last with their key among the first n. -/
def distUp (K : Nat → ByteArray) (n : Nat) : Nat → Nat
  | 0 => 0
  | m + 1 => distUp K n m + (if (lastUp K (K m) n == (m : Int)) = true then 1 else 0)
/-- .. and are not deleted. -/
def liveUp (K : Nat → ByteArray) (Dl : Nat → Bool) (n : Nat) : Nat → Nat
  | 0 => 0
  | m + 1 => liveUp K Dl n m + (if (lastUp K (K m) n == (m : Int)) = true ∧ Dl m = false then 1 else 0)
theorem distUp_le (K : Nat → ByteArray) (n : Nat) : ∀ m, distUp K n m ≤ m
  | 0 => Nat.le_refl _
  | m + 1 => by have := distUp_le K n m; unfold distUp; split <;> omega
theorem liveUp_le (K : Nat → ByteArray) (Dl : Nat → Bool) (n : Nat) : ∀ m, liveUp K Dl n m ≤ m
  | 0 => Nat.le_refl _
  | m + 1 => by have := liveUp_le K Dl n m; unfold liveUp; split <;> omega

theorem dist_hit {K : Nat → ByteArray} {n m : Nat} (h : (lastUp K (K m) n == (m : Int)) = true) : distUp K n (m + 1) = distUp K n m + 1 := by rw [distUp, if_pos h]
theorem dist_miss {K : Nat → ByteArray} {n m : Nat} (h : (lastUp K (K m) n == (m : Int)) = false) : distUp K n (m + 1) = distUp K n m := by rw [distUp, if_neg (by simp [h])]; rfl
theorem live_hit {K : Nat → ByteArray} {Dl : Nat → Bool} {n m : Nat} (h : (lastUp K (K m) n == (m : Int)) = true) (h' : (!Dl m) = true) : liveUp K Dl n (m + 1) = liveUp K Dl n m + 1 := by rw [liveUp, if_pos ⟨h, by simpa using h'⟩]
theorem live_del {K : Nat → ByteArray} {Dl : Nat → Bool} {n m : Nat} (h' : (!Dl m) = false) : liveUp K Dl n (m + 1) = liveUp K Dl n m := by rw [liveUp, if_neg (by simp at h'; simp [h'])]; rfl
theorem live_miss {K : Nat → ByteArray} {Dl : Nat → Bool} {n m : Nat} (h : (lastUp K (K m) n == (m : Int)) = false) : liveUp K Dl n (m + 1) = liveUp K Dl n m := by rw [liveUp, if_neg (by simp [h])]; rfl
theorem val_nat {k : IntKind} {a : Int} {b : Nat} (h : a = (b : Int)) : Value.int k a = .int k b := by rw [h]
theorem lt_of_cell {w : World} {b o : Nat} {v : Value} (h : w.cell? ⟨b, o, none⟩ = some v) : b < w.heap.size := by
  unfold World.cell? at h
  by_cases hb : b < w.heap.size
  · exact hb
  · simp [Array.getElem?_eq_none (Nat.le_of_not_lt hb)] at h

set_option maxHeartbeats 400000 in
theorem counts_any (b off n cap : Nat) (K V : Nat → ByteArray) (Dl : Nat → Bool) (w : World) (hn : n ≤ 1024)
    (hK : ∀ i, i < n → w.cell? ⟨b, off + i * 3, none⟩ = some (.string (K i)))
    (hV : ∀ i, i < n → w.cell? ⟨b, off + i * 3 + 1, none⟩ = some (.string (V i)))
    (hD : ∀ i, i < n → w.cell? ⟨b, off + i * 3 + 1 + 1, none⟩ = some (.bool (Dl i))) :
    Calls Yba.prog 8 #[.slice (some ⟨b, off, none⟩) n cap] w fun e w' => e = .returned (.tuple #[.int .i64 (distUp K n n : Nat), .int .i64 (liveUp K Dl n n : Nat)]) ∧ Below w.heap.size w w' := by
  go_enter Yba.func8, Yba.ntmps8
  go_wp2
  go_loopw [4, 5, 10] (fun d l i wr => ∃ m : Nat, m ≤ n ∧ i = .int .i64 m ∧ d = .int .i64 (distUp K n m : Nat) ∧ l = .int .i64 (liveUp K Dl n m : Nat) ∧ Below w.heap.size w wr) (fun _ _ i _ => n - (intOf i).toNat)
  case atStart => exact ⟨0, Nat.zero_le _, rfl, rfl, rfl, Below.refl _ _⟩
  case round =>
    obtain ⟨m, hm, rfl, rfl, rfl, hbel⟩ := hrel
    have d1 := distUp_le K n m
    have l1 := liveUp_le K Dl n m
    by_cases hlt : m < n
    · have c0 := hK m hlt
      have c1 := hV m hlt
      have c2 := hD m hlt
      have hbs := lt_of_cell c0
      rw [← hbel.cell (p := ⟨b, off + m * 3, none⟩) hbs] at c0
      rw [← hbel.cell (p := ⟨b, off + m * 3 + 1, none⟩) hbs] at c1
      rw [← hbel.cell (p := ⟨b, off + m * 3 + 1 + 1, none⟩) hbs] at c2
      have hs := hbel.size
      have hbw : b < wr.heap.size := Nat.lt_of_lt_of_le hbs hs
      have HK : Hid (∀ i, i < n → (wr.alloc (Obj.cells #[Value.string (K m), Value.string (V m), Value.bool (Dl m)] 34)).cell? ⟨b, off + i * 3, none⟩ = some (.string (K i))) := fun i hi => by
        rw [World.cell?_alloc_past _ _ _ hbw, hbel.cell (p := ⟨b, off + i * 3, none⟩) hbs]; exact hK i hi
      clear hK hV hD
      go_wp2_with fail
      refine (last_any b off n cap K (K m) _ hn HK.out).mono ?_
      rintro e w' ⟨rfl, rfl⟩
      go_wp2
      all_goals
        go_roundw
        case rel => exact ⟨m + 1, by omega, by go_num, val_nat (by first | rw [dist_hit ‹_›]; rfl | rw [dist_miss ‹_›]), val_nat (by first | rw [live_miss ‹_›] | rw [live_hit ‹_› ‹_›]; rfl | rw [live_del ‹_›]), hbel.alloc hs _⟩
        case measure => simp [intOf]; omega
    · go_wp2
      go_ret2
      have : m = n := by omega
      subst this
      exact ⟨rfl, hbel⟩

set_option maxHeartbeats 400000 in
theorem counts_nil (a : Option Addr) (cap : Nat) (K : Nat → ByteArray) (Dl : Nat → Bool) (w : World) :
    Calls Yba.prog 8 #[.slice a 0 cap] w fun e w' => e = .returned (.tuple #[.int .i64 (distUp K 0 0 : Nat), .int .i64 (liveUp K Dl 0 0 : Nat)]) ∧ Below w.heap.size w w' := by
  go_enter Yba.func8, Yba.ntmps8
  go_wp2
  go_loop [4, 5, 10] (fun d l i => i = .int .i64 0 ∧ d = .int .i64 0 ∧ l = .int .i64 0) (fun _ _ _ => 0)
  case atStart => exact ⟨rfl, rfl, rfl⟩
  case round =>
    obtain ⟨rfl, rfl, rfl⟩ := hrel
    go_wp2
    go_ret2
    exact ⟨rfl, Below.refl _ _⟩

end Go.Proofs.Ybulkcyyq
