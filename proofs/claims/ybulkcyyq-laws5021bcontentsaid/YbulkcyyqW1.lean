import Derived.Test.YbulkcyyqRows
import Derived.WalkKit
import Derived.WalkSpells
import Derived.WalkLawsBesides
namespace Go.Proofs.Ybulkcyyq
open Go.RowKit

/-- The greatest i < n whose key is k, or -1. -/
def lastUp (K : Nat → ByteArray) (k : ByteArray) : Nat → Int
  | 0 => -1
  | n + 1 => if ((K n).toList == k.toList) = true then (n : Int) else lastUp K k n

theorem ret_int {k : IntKind} {a b : Int} (h : a = b) : Ending.returned (.int k a) = .returned (.int k b) := by rw [h]

set_option maxHeartbeats 400000 in
theorem last_any (b off n cap : Nat) (K : Nat → ByteArray) (k : ByteArray) (w : World) (hn : n ≤ 1024)
    (hK : ∀ i, i < n → w.cell? ⟨b, off + i * 3, none⟩ = some (.string (K i))) :
    Calls Yba.prog 9 #[.slice (some ⟨b, off, none⟩) n cap, .string k] w fun e w' => e = .returned (.int .i64 (lastUp K k n)) ∧ w' = w := by
  go_enter Yba.func9, Yba.ntmps9
  go_wp2
  go_loop [5] (fun i => ∃ m : Nat, m ≤ n ∧ i = .int .i64 (m - 1) ∧ Hid (lastUp K k m = lastUp K k n)) (fun i => (intOf i + 1).toNat)
  case atStart => exact ⟨n, Nat.le_refl _, rfl, rfl⟩
  case round =>
    obtain ⟨m, hm, rfl, H⟩ := hrel
    match m, hm, H with
    | 0, hm, H =>
      go_wp2
      go_ret
      exact ⟨ret_int (by rw [← H.out]; rfl), rfl⟩
    | m + 1, hm, H =>
      have hc := hK m (by omega)
      go_wp2
      · have ht : ((K m).toList == k.toList) = true := by assumption
        go_ret
        exact ⟨ret_int (by rw [← H.out, lastUp, if_pos ht]), rfl⟩
      · have ht : ((K m).toList == k.toList) = false := by assumption
        go_round
        case rel => exact ⟨m, by omega, rfl, by rw [← H.out]; show lastUp K k m = _; rw [lastUp, if_neg (by simp [ht])]⟩
        case measure => simp [intOf]

set_option maxHeartbeats 400000 in
theorem last_nil (a : Option Addr) (cap : Nat) (K : Nat → ByteArray) (k : ByteArray) (w : World) :
    Calls Yba.prog 9 #[.slice a 0 cap, .string k] w fun e w' => e = .returned (.int .i64 (lastUp K k 0)) ∧ w' = w := by
  go_enter Yba.func9, Yba.ntmps9
  go_wp2
  go_loop [5] (fun i => i = .int .i64 (-1)) (fun _ => 0)
  case atStart => rfl
  case round =>
    subst hrel
    go_wp2
    go_ret
    exact ⟨rfl, rfl⟩

end Go.Proofs.Ybulkcyyq
