import Derived.Test.YbulkczagW2
import Derived.ProofKit
import Derived.OpenShut
import Derived.ShutString
import Derived.ChangeOld
namespace Go.Proofs.Ybulkczag
open Go.ChangeShapes Go.WideShapes Go.ChangeAt Go.RowKit

theorem own : ownKnob Yba.prog.godebug = none := by kernel_rfl
theorem laidOut : laidOutB Yba.prog = true := by kernel_rfl
theorem cells22 : Yba.prog.cellsOf 22 = 3 := by kernel_rfl
theorem cells5 : Yba.prog.cellsOf 5 = 1 := by kernel_rfl
theorem list3 {α : Type} (l : List α) (h : (⟨l⟩ : Array α).size = 3) : ∃ a b c, l = [a, b, c] := by
  match l, h with
  | [a, b, c], _ => exact ⟨a, b, c, rfl⟩

/-- An array of three bytes, by value: its three numbers. -/
theorem arr3 {H : Type} {enc : TypeId × Value → H} {W : World} {base b0 : Nat} {spare : Nat → Bool} {held : Bool} {r : Reach} {v : Value} {d : DataW H} {p : List MemPlace} (hv : Value.okWide Yba.prog W r b0 22 v) (h : DataW.Trod enc Yba.prog W base spare held 22 v d p) :
    ∃ a b c : Int, v = .agg #[.int .u8 a, .int .u8 b, .int .u8 c] ∧ (0 ≤ a ∧ a ≤ 255) ∧ (0 ≤ b ∧ b ≤ 255) ∧ (0 ≤ c ∧ c ≤ 255) := by
  obtain ⟨cs, rfl, hsz, _⟩ : ∃ cs, v = .agg cs ∧ cs.size = Yba.prog.cellsOf 22 ∧ Row.okWide Yba.prog W r b0 22 cs := by
    simpa [Value.okWide, Yba.underlying22] using hv
  rw [cells22] at hsz
  obtain ⟨l⟩ := cs
  obtain ⟨c0, c1, c2, rfl⟩ := list3 l hsz
  obtain ⟨fuel, hf⟩ := h
  obtain ⟨xs, m, _, _, _, hxl, hx⟩ := DataW.trod_array Yba.underlying22 hf
  match xs, hxl with
  | [y0, y1, y2], _ =>
    have g0 := hx 0 (by omega)
    have g1 := hx 1 (by omega)
    have g2 := hx 2 (by omega)
    simp [cells5, Value.cells] at g0 g1 g2
    obtain ⟨x0, e0, _, w0⟩ := DataW.trod_int Yba.underlying5 g0
    obtain ⟨x1, e1, _, w1⟩ := DataW.trod_int Yba.underlying5 g1
    obtain ⟨x2, e2, _, w2⟩ := DataW.trod_int Yba.underlying5 g2
    simp at e0 e1 e2
    subst e0 e1 e2
    have b0 := bounds_u8 w0
    have b1 := bounds_u8 w1
    have b2 := bounds_u8 w2
    exact ⟨x0, x1, x2, rfl, by omega, by omega, by omega⟩
end Go.Proofs.Ybulkczag
