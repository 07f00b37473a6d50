import Derived.Test.YbulkcyyqW6
import Derived.ProofKit
import Derived.Deep.Strs
namespace Go.Proofs.Ybulkcyyq
open Go.RowKit Go.Maps Go.WideMaps Go.Deep Go.ChangeShapes Go.WideShapes

theorem cells34 : Yba.prog.cellsOf 34 = 3 := by kernel_rfl
theorem cells9 : Yba.prog.cellsOf 9 = 1 := by kernel_rfl
theorem cells4 : Yba.prog.cellsOf 4 = 1 := by kernel_rfl
theorem own : ownKnob Yba.prog.godebug = none := by kernel_rfl
theorem laidOut : laidOutB Yba.prog = true := by kernel_rfl

/-- WHAT CAME IN, READ AS DATA: the entries by their index. -/
theorem src_of {H : Type} {enc : TypeId × Value → H} {w : World} {base : Nat} {spare : Nat → Bool} {held : Bool} {fuel : Nat} {a : Option Addr} {n cap : Nat} {x : DataW H × List MemPlace}
    (h : DataW.trod enc Yba.prog w base spare held fuel 22 [.slice a n cap] = some x) : ∃ K V Dl, Src w a n K V Dl := by
  rcases open_slice Yba.underlying22 h with ⟨hcs, _⟩ | ⟨a', len, cap', m, k, D, Pl, hcs, hb, hl, hm, hmm, hx, he⟩
  · simp at hcs
    exact ⟨fun _ => ByteArray.empty, fun _ => ByteArray.empty, fun _ => false, .inl hcs.2.1⟩
  · simp at hcs
    obtain ⟨rfl, rfl, rfl⟩ := hcs
    have hnm : n ≤ m := by rw [hmm]; split <;> omega
    by_cases h0 : n = 0
    · exact ⟨fun _ => ByteArray.empty, fun _ => ByteArray.empty, fun _ => false, .inl h0⟩
    have each : ∀ i, i < n → ∃ q : ByteArray × ByteArray × Bool, w.cell? (a'.add (i * 3)) = some (.string q.1) ∧ q.1.size ≤ maxLen ∧ w.cell? (a'.add (i * 3 + 1)) = some (.string q.2.1) ∧ w.cell? (a'.add (i * 3 + 2)) = some (.bool q.2.2) := by
      intro i hi
      obtain ⟨cs', h1, h2⟩ := he i (by omega)
      rw [cells34] at h1
      obtain ⟨_, hlen, hcell⟩ := World.cells?_some h1
      obtain ⟨y0, y1, y2, k2, _, _, t0, t1, t2⟩ := trod_struct3 Yba.underlying34 h2
      match cs', hlen with
      | [v0, v1, v2], _ =>
        simp [cells9, cells4] at t0 t1 t2
        obtain ⟨s0, e0, _, hs0⟩ := DataW.trod_string Yba.underlying9 t0
        obtain ⟨s1, e1, _, hs1⟩ := DataW.trod_string Yba.underlying9 t1
        obtain ⟨d, e2, _⟩ := DataW.trod_bool Yba.underlying4 t2
        simp at e0 e1 e2
        subst e0 e1 e2
        have c0 := hcell 0 (by omega)
        have c1 := hcell 1 (by omega)
        have c2 := hcell 2 (by omega)
        rw [add_add] at c0 c1 c2
        exact ⟨(s0, s1, d), by simpa using c0, hs0, by simpa using c1, by simpa using c2⟩
    obtain ⟨q, hq⟩ := choose_lt each
    obtain ⟨b, off, spot⟩ := a'
    have hspot : spot = none := by simpa [Addr.add] using World.cell?_spot (hq 0 (by omega)).1
    subst hspot
    refine ⟨fun i => (q i).1, fun i => (q i).2.1, fun i => (q i).2.2, .inr ⟨by omega, b, off, rfl, fun i hi => ?_, fun i hi => ?_, fun i hi => ?_⟩⟩
    · have := hq i hi; rw [add_plain] at this; exact ⟨this.1, this.2.1⟩
    · have := (hq i hi).2.2.1; rw [add_plain] at this; exact this
    · have := (hq i hi).2.2.2; rw [add_plain] at this; exact this

set_option maxHeartbeats 400000 in
theorem stop_big (a : Option Addr) (n cap : Nat) (nm : Bool) (st : Int) (w : World) (hn : ¬ n ≤ 1024) :
    Calls Yba.prog 4 #[.slice a n cap, .bool nm, .int .u8 st] w fun e w' => e = .returned (.bool true) ∧ Below w.heap.size w w' := by
  have hn' : (1024 : Int) < (n : Int) := by omega
  go_enter Yba.func4, Yba.ntmps4
  go_wp2
  go_ret
  exact ⟨rfl, Below.refl _ _⟩

end Go.Proofs.Ybulkcyyq
