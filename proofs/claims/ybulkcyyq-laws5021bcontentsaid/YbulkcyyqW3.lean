import Derived.Test.YbulkcyyqW2
import Derived.Maps.Own
import Derived.Maps.RangeWalk
import Derived.Maps.OwnSet
import Derived.RegionTactic
namespace Go.Proofs.Ybulkcyyq
open Go.RowKit Go.Maps Go.WideMaps

/-- How an entry of the store reads: its value and whether it is deleted. -/
def entR (v : Value) : Option (DataW Unit × List MemPlace) :=
  match v with
  | .agg cs => match cs.toList with
    | [.string s, .bool d, .int .u64 _, .int .u64 _, .int .i64 _] => some (.agg [.lit (.string s.data.toList), .lit (.bool d)], [])
    | _ => none
  | _ => none
def entD (s : ByteArray) (d : Bool) : DataW Unit := .agg [.lit (.string s.data.toList), .lit (.bool d)]
def keyL (k : ByteArray) : Lit := .string k.data.toList
def buildD (K V : Nat → ByteArray) (Dl : Nat → Bool) : Nat → DataW Unit
  | 0 => .map []
  | n + 1 => (buildD K V Dl n).put (keyL (K n)) (entD (V n) (Dl n))
theorem keyedS : Keyed Yba.prog 9 := string_keyed Yba.underlying9

abbrev startW (w : World) : World := (w.alloc (.cells #[.map (some (w.heap.size + 1))] 37)).alloc (.map #[] 0)
theorem start_owns (w : World) : (startW w).ownsMap Yba.prog 9 entR (w.heap.size + 1) 0 (.map []) := by
  have := World.ownsMap_made (w.alloc (.cells #[.map (some (w.heap.size + 1))] 37)) Yba.prog 9 entR
  simpa using this
theorem start_below (w : World) : Below w.heap.size w (startW w) := ((Below.refl _ _).alloc (Nat.le_refl _) _).alloc (by simp) _
theorem start_cell (w : World) : (startW w).cell? ⟨w.heap.size, 0, none⟩ = some (.map (some (w.heap.size + 1))) := by
  rw [World.cell?_alloc_past _ _ _ (by simp)]
  exact World.cell?_alloc_at _ _ _ _ rfl

set_option maxHeartbeats 400000 in
theorem build_any (b off n cap : Nat) (nm : Bool) (K V : Nat → ByteArray) (Dl : Nat → Bool) (w : World) (hn : n ≤ 1024) (h0 : 0 < n)
    (hK : ∀ i, i < n → w.cell? ⟨b, off + i * 3, none⟩ = some (.string (K i)) ∧ (K i).size ≤ maxLen)
    (hV : ∀ i, i < n → w.cell? ⟨b, off + i * 3 + 1, none⟩ = some (.string (V i)))
    (hD : ∀ i, i < n → w.cell? ⟨b, off + i * 3 + 1 + 1, none⟩ = some (.bool (Dl i))) :
    Calls Yba.prog 5 #[.slice (some ⟨b, off, none⟩) n cap, .bool nm] w fun e w' => e = .returned (.pointer (some ⟨w.heap.size, 0, none⟩)) ∧ Below w.heap.size w w' ∧
      w'.cell? ⟨w.heap.size, 0, none⟩ = some (.map (some (w.heap.size + 1))) ∧ w'.ownsMap Yba.prog 9 entR (w.heap.size + 1) n (buildD K V Dl n) := by
  have hmm := @run_makeMap Yba.prog
  have hz : ((n : Int) == 0) = false := by simp; omega
  go_enter Yba.func5, Yba.ntmps5
  cases nm
  all_goals
    go_wp2
    go_loopw [23] (fun i wr => ∃ m : Nat, m ≤ n ∧ i = .int .i64 m ∧ wr.ownsMap Yba.prog 9 entR (w.heap.size + 1) m (buildD K V Dl m) ∧ Below w.heap.size w wr ∧ wr.cell? ⟨w.heap.size, 0, none⟩ = some (.map (some (w.heap.size + 1)))) (fun i _ => n - (intOf i).toNat)
    case atStart => exact ⟨0, Nat.zero_le _, rfl, start_owns w, start_below w, start_cell w⟩
    case round =>
      obtain ⟨m, hm, rfl, hown, hbel, hcell⟩ := hrel
      by_cases hlt : m < n
      · have c0 := (hK m hlt).1
        have c1 := hV m hlt
        have c2 := hD m hlt
        have hbs := lt_of_cell c0
        rw [← hbel.cell (p := ⟨b, off + m * 3, none⟩) hbs] at c0
        rw [← hbel.cell (p := ⟨b, off + m * 3 + 1, none⟩) hbs] at c1
        rw [← hbel.cell (p := ⟨b, off + m * 3 + 1 + 1, none⟩) hbs] at c2
        have hs := hown.lt
        have hbw : b < wr.heap.size := by omega
        have hss : w.heap.size < wr.heap.size := by omega
        obtain ⟨w1, hrun, hown1, hgrow⟩ := ((hown.alloc (.cells #[.string (K m), .string (V m), .bool (Dl m)] 34)).drew).update keyedS Yba.underlying35 (show m < maxLen by unfold maxLen; omega) (keyOf_string_mk Yba.underlying9 (hK m hlt).2) (show entR (.agg #[.string (V m), .bool (Dl m), .int .u64 0, .int .u64 0, .int .i64 0]) = some (entD (V m) (Dl m), []) from rfl)
        clear hK hV hD
        go_wp2
        go_region
        go_wp2
        go_roundw
        case rel => exact ⟨m + 1, by omega, by go_num, hown1, ((hbel.alloc (by omega) _).drew).grown hgrow (by simp; omega) (fun k hk => by cases hk; omega), hgrow.cell (by show (wr.alloc _).cell? _ = _; rw [World.cell?_alloc_past _ _ _ hss]; exact hcell) (by simp)⟩
        case measure => simp [intOf]; omega
      · go_wp2
        go_ret
        have : m = n := by omega
        subst this
        exact ⟨rfl, hbel, hcell, hown⟩

set_option maxHeartbeats 400000 in
theorem build_none (a : Option Addr) (cap : Nat) (K V : Nat → ByteArray) (Dl : Nat → Bool) (w : World) :
    Calls Yba.prog 5 #[.slice a 0 cap, .bool false] w fun e w' => e = .returned (.pointer (some ⟨w.heap.size, 0, none⟩)) ∧ Below w.heap.size w w' ∧
      w'.cell? ⟨w.heap.size, 0, none⟩ = some (.map (some (w.heap.size + 1))) ∧ w'.ownsMap Yba.prog 9 entR (w.heap.size + 1) 0 (buildD K V Dl 0) := by
  have hmm := @run_makeMap Yba.prog
  go_enter Yba.func5, Yba.ntmps5
  go_wp2
  go_loop [23] (fun i => i = .int .i64 0) (fun _ => 0)
  case atStart => rfl
  case round =>
    subst hrel
    go_wp2
    go_ret
    exact ⟨rfl, start_below w, start_cell w, start_owns w⟩

set_option maxHeartbeats 400000 in
theorem build_nil (a : Option Addr) (cap : Nat) (w : World) :
    Calls Yba.prog 5 #[.slice a 0 cap, .bool true] w fun e w' => e = .returned (.pointer (some ⟨w.heap.size, 0, none⟩)) ∧ Below w.heap.size w w' ∧
      w'.cell? ⟨w.heap.size, 0, none⟩ = some (.map none) ∧ w.heap.size < w'.heap.size := by
  go_enter Yba.func5, Yba.ntmps5
  go_wp2
  go_ret
  exact ⟨rfl, (Below.refl _ _).alloc (Nat.le_refl _) _, World.cell?_alloc_at _ _ _ _ rfl, by simp⟩

end Go.Proofs.Ybulkcyyq
