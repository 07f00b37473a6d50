import Derived.Test.YbulkczauE9
import Derived.ProofKit
import Derived.ChangeSame
import Derived.ChangeArms
import Derived.Deep.Strs
namespace Go.Proofs.Ybulkczau
open Go.RowKit Go.Maps Go.WideMaps Go.Deep Go.ChangeShapes Go.WideShapes

theorem cells83 : Yba.prog.cellsOf 83 = 3 := by kernel_rfl
theorem cells30 : Yba.prog.cellsOf 30 = 2 := by kernel_rfl
theorem cells9 : Yba.prog.cellsOf 9 = 1 := by kernel_rfl
theorem cells3 : Yba.prog.cellsOf 3 = 1 := by kernel_rfl
theorem own : ownKnob Yba.prog.godebug = none := by kernel_rfl
theorem laidOut : laidOutB Yba.prog = true := by kernel_rfl

set_option maxRecDepth 100000 in
/-- The votes that came in. -/
theorem bsrc_of {H : Type} {enc : TypeId × Value → H} {w : World} {base : Nat} {spare : Nat → Bool} {held : Bool} {fuel : Nat} {a : Option Addr} {n cap : Nat} {x : DataW H × List MemPlace}
    (h : DataW.trod enc Yba.prog w base spare held fuel 48 [.slice a n cap] = some x) : ∃ S B V, BSrc w a n S B V := by
  rcases open_slice Yba.underlying48 h with ⟨hcs, _⟩ | ⟨a', len, cap', m, k, D, Pl, hcs, hb, hl, hm, hmm, hx, he⟩
  · simp at hcs
    exact ⟨fun _ => 0, fun _ => 0, fun _ => ByteArray.empty, .inl ⟨hcs.1, hcs.2.1⟩⟩
  · simp at hcs
    obtain ⟨rfl, rfl, rfl⟩ := hcs
    have hnm : n ≤ m := by rw [hmm]; split <;> omega
    have each : ∀ i, i < n → ∃ q : Int × Int × ByteArray, w.cell? (a'.add (i * 3)) = some (.int .i64 q.1) ∧ w.cell? (a'.add (i * 3 + 1)) = some (.int .i64 q.2.1) ∧ w.cell? (a'.add (i * 3 + 2)) = some (.string q.2.2) := by
      intro i hi
      obtain ⟨cs', h1, h2⟩ := he i (by omega)
      rw [cells83] at h1
      obtain ⟨_, hlen, hcell⟩ := World.cells?_some h1
      obtain ⟨y0, y1, k2, _, _, t0, t1⟩ := trod_struct2 Yba.underlying83 h2
      match cs', hlen with
      | [v0, v1, v2], _ =>
        simp [cells3, cells30] at t0 t1
        obtain ⟨z0, z1, k3, _, _, s0, s1⟩ := trod_struct2 Yba.underlying30 t1
        simp [cells3, cells9] at s0 s1
        obtain ⟨s, e0, _⟩ := DataW.trod_int Yba.underlying3 t0
        obtain ⟨b, e1, _⟩ := DataW.trod_int Yba.underlying3 s0
        obtain ⟨v, e2, _⟩ := DataW.trod_string Yba.underlying9 s1
        simp at e0 e1 e2
        subst e0 e1 e2
        have c0 := hcell 0 (by omega)
        have c1 := hcell 1 (by omega)
        have c2 := hcell 2 (by omega)
        rw [add_add] at c0 c1 c2
        exact ⟨(s, b, v), by simpa using c0, by simpa using c1, by simpa using c2⟩
    obtain ⟨q, hq⟩ := choose_lt each
    refine ⟨fun i => (q i).1, fun i => (q i).2.1, fun i => (q i).2.2, .inr ⟨a', rfl, fun j hj => ?_, fun h0 => ?_⟩⟩
    · have hi := hq (j / 3) (by omega)
      rcases (by omega : j = j / 3 * 3 ∨ j = j / 3 * 3 + 1 ∨ j = j / 3 * 3 + 2) with e | e | e
      · rw [e, hi.1, vc0]
      · rw [e, hi.2.1, vc1]
      · rw [e, hi.2.2, show j / 3 * 3 + 2 = j / 3 * 3 + 1 + 1 from rfl, vc2]
    · obtain ⟨b, off, spot⟩ := a'
      have hspot : spot = none := by simpa [Addr.add] using World.cell?_spot (hq 0 h0).1
      subst hspot
      exact ⟨b, off, rfl⟩

/-- The keys that came in. -/
theorem ksrc_of {H : Type} {enc : TypeId × Value → H} {w : World} {base : Nat} {spare : Nat → Bool} {held : Bool} {fuel : Nat} {a : Option Addr} {n cap : Nat} {x : DataW H × List MemPlace}
    (h : DataW.trod enc Yba.prog w base spare held fuel 37 [.slice a n cap] = some x) : ∃ K, KSrc w a n K := by
  rcases open_strs Yba.underlying37 Yba.underlying9 cells9 h with ⟨hcs, _⟩ | ⟨a', len, cap', m, Sx, hcs, hb, hl, hm, hmm, hx, he⟩
  · simp at hcs
    exact ⟨fun _ => ByteArray.empty, .inl hcs.2.1⟩
  · simp at hcs
    obtain ⟨rfl, rfl, rfl⟩ := hcs
    have hnm : n ≤ m := by rw [hmm]; split <;> omega
    by_cases h0 : n = 0
    · exact ⟨Sx, .inl h0⟩
    · obtain ⟨b, off, spot⟩ := a'
      have hspot : spot = none := by simpa [Addr.add] using World.cell?_spot (he 0 (by omega)).1
      subst hspot
      exact ⟨Sx, .inr ⟨by omega, b, off, rfl, fun i hi => by have := he i (by omega); rw [add_off] at this; exact this⟩⟩

theorem law_any (hc ic : Bool) (a aK : Option Addr) (n cap nK capK : Nat) (S B : Nat → Int) (V K : Nat → ByteArray) (sl bl ba : Int) (v : ByteArray) (w : World) (hvs : v.size ≤ maxLen) (hB : BSrc w a n S B V) (hK : KSrc w aK nK K) :
    Calls Yba.prog 4 #[.slice a n cap, .int .i64 sl, .string v, .int .i64 bl, .int .i64 ba, .slice aK nK capK, .bool hc, .bool ic] w fun e w' => e = .returned (.bool true) ∧ Below w.heap.size w w' := by
  by_cases h1 : n ≤ 1024
  · by_cases h2 : nK ≤ 1024
    · rcases hB with ⟨rfl, rfl⟩ | ⟨ad, rfl, hc', h0⟩
      · exact law_nil hc ic aK cap nK capK S B V K sl bl ba v w h2 hvs hK
      · exact law_some hc ic ad aK n cap nK capK S B V K sl bl ba v w h1 h2 hvs hc' h0 hK
    · exact law_early hc ic a aK n cap nK capK sl bl ba v w (.inr ⟨h1, by omega⟩)
  · exact law_early hc ic a aK n cap nK capK sl bl ba v w (.inl (by omega))
end Go.Proofs.Ybulkczau
