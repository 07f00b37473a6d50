import Derived.Test.YbulkczauE5
namespace Go.Proofs.Ybulkczau
open Go.RowKit Go.Maps Go.WideMaps

def fn10 (hc : Bool) (bk bi : Nat) : Value := if hc then .func (.func 10) #[] #[.pointer (some ⟨bk, 0, none⟩), .pointer (some ⟨bi, 0, none⟩)] else .nilFunc
/-- What the stand-in logged. -/
def CallsAre (w : World) (bk : Nat) (v : ByteArray) (c : Bool) : Prop :=
  (c = false ∧ w.cell? ⟨bk, 0, none⟩ = some (.slice none 0 0)) ∨ (c = true ∧ ∃ g cap, w.cell? ⟨bk, 0, none⟩ = some (.slice (some ⟨g, 0, none⟩) 1 cap) ∧ w.cell? ⟨g, 0, none⟩ = some (.string v))

/-- What choose leaves. -/
structure CPost (w w' : World) (e : Ending) (bm bk br n : Nat) (olds : List Value) (D : DataW Unit) (sl bl : Int) (v : ByteArray) (c : Bool) (z : Int) : Prop where
  out : Out w w' e n olds sl bl v
  frm : Frm (fun i => i = bm ∨ i = bk ∨ i = br) w w'
  map : ∃ n', w'.ownsMap Yba.prog 9 boolR bm n' (chD v D)
  c17 : w'.cell? ⟨br, 17, none⟩ = some (.int .i64 bl)
  c62 : w'.cell? ⟨br, 62, none⟩ = some (.int .i64 z)
  calls : CallsAre w' bk v c

theorem choose_all (hc ic : Bool) (br bm bk bi n0 n cap : Nat) (D : DataW Unit) (ao : Option Addr) (olds : List Value) (sl bl ba : Int) (v : ByteArray) (w : World) (hn : n ≤ 1024) (hn0 : n0 ≤ 1024) (hvs : v.size ≤ maxLen)
    (h3 : w.cell? ⟨br, 3, none⟩ = some (fn10 hc bk bi)) (h17 : w.cell? ⟨br, 17, none⟩ = some (.int .i64 bl)) (h61 : w.cell? ⟨br, 61, none⟩ = some (.map (some bm))) (h62 : w.cell? ⟨br, 62, none⟩ = some (.int .i64 ba)) (f62 : w.frozen? ⟨br, 62, none⟩ = false)
    (hown : w.ownsMap Yba.prog 9 boolR bm n0 D) (hbm : ¬ br = bm) (hkm : ¬ bk = bm) (him : ¬ bi = bm) (hik : ¬ bi = bk) (hkr : ¬ br = bk) (hk : w.cell? ⟨bk, 0, none⟩ = some (.slice none 0 0)) (fk : w.frozen? ⟨bk, 0, none⟩ = false) (hi : w.cell? ⟨bi, 0, none⟩ = some (.bool ic))
    (hcap : cap < n + 1) (hno : ao = none → n = 0 ∧ cap = 0) (hol : olds.length = n * 3) (holds : Olds w ao olds) (hab : ∀ g, ao = some ⟨g, 0, none⟩ → ¬ g = bm ∧ ¬ g = bk ∧ ¬ g = br) :
    Calls Yba.prog 11 #[.pointer (some ⟨br, 0, none⟩), .slice ao n cap, .int .i64 sl, .string v] w fun e w' => CPost w w' e bm bk br n olds D sl bl v (hc && !v.toList.isEmpty) (if (hc && !v.toList.isEmpty) && ic then sl else ba) := by
  have lr := lt_of_cell h17
  have lk := lt_of_cell hk
  have nr : some br ≠ some bm := fun e => hbm (by simpa using e)
  have nk : some bk ≠ some bm := fun e => hkm (by simpa using e)
  cases hv : v.toList.isEmpty
  · have hD : chD v D = D.put (keyL v) tt := by simp [chD, hv]
    cases hc
    · refine (choose_nil br bm n0 n cap D ao olds sl bl v w hn hn0 hv hvs h3 h17 h61 hown hbm hcap hno hol holds (fun g hg => (hab g hg).1)).mono ?_
      rintro e w' ⟨W1, hg, ho, hch, g, cap', rfl, hs, hcs⟩
      have hs1 := hg.size
      refine ⟨⟨g, cap', rfl, by omega, hcs⟩, (frm_grown hg (fun k hk => by cases hk; exact .inl rfl)).trans (hch.frm (fun _ _ x => x.elim)), ⟨n0 + 1, ?_⟩, ?_, ?_, .inl ⟨rfl, ?_⟩⟩
      · rw [hD]; exact own_chg ho hch (fun _ => id)
      · exact (hch.cell _ _ (by omega) id).trans (hg.cell h17 nr)
      · simpa using (hch.cell _ _ (by omega) id).trans (hg.cell h62 nr)
      · exact (hch.cell _ _ (by omega) id).trans (hg.cell hk nk)
    · refine (choose_call br bm bk bi n0 n cap ic D ao olds sl bl ba v w hn hn0 hv hvs h3 h17 h61 h62 f62 hown hbm hkm him hik hkr hk fk hi hcap hno hol holds hab).mono ?_
      rintro e w' ⟨W1, hg, ho, hch, ⟨g, cap', rfl, hs, hcs⟩, hcall, hc62⟩
      have hs1 := hg.size
      refine ⟨⟨g, cap', rfl, by omega, hcs⟩, (frm_grown hg (fun k hk => by cases hk; exact .inl rfl)).trans (hch.frm (fun i o x => .inr (x.imp (congrArg Addr.block) (congrArg Addr.block)))), ⟨n0 + 1, ?_⟩, ?_, ?_, .inr ⟨rfl, hcall⟩⟩
      · rw [hD]; exact own_chg ho hch (fun o x => x.elim (fun e => hkm (congrArg Addr.block e).symm) (fun e => hbm (congrArg Addr.block e).symm))
      · exact (hch.cell _ _ (by omega) (fun x => x.elim (fun e => hkr (congrArg Addr.block e)) (fun e => by have := congrArg Addr.off e; simp at this))).trans (hg.cell h17 nr)
      · simpa using hc62
  · have hD : chD v D = D := by simp [chD, hv]
    refine (choose_fill br n cap ao olds (fn10 hc bk bi) (by cases hc; exact .inl rfl; exact .inr ⟨bk, bi, rfl⟩) sl bl v w hn hv h3 h17 hcap hno hol holds).mono ?_
    rintro e w' ⟨hout, hch⟩
    refine ⟨hout, hch.frm (fun _ _ x => x.elim), ⟨n0, ?_⟩, (hch.cell _ _ lr id).trans h17, ?_, .inl ⟨by cases hc <;> rfl, (hch.cell _ _ lk id).trans hk⟩⟩
    · rw [hD]; exact own_chg hown hch (fun _ => id)
    · have : (hc && !true) = false := by cases hc <;> rfl
      simpa [this] using (hch.cell _ _ lr id).trans h62
end Go.Proofs.Ybulkczau
