import Derived.Test.YbulkcyyqW3
namespace Go.Proofs.Ybulkcyyq
open Go.RowKit Go.Maps Go.WideMaps

/-! ### What has been visited: the live keys that are no longer to come -/
def Vis (D : DataW Unit) (left : Lit → Bool) (L : List (ByteArray × ByteArray)) : Prop :=
  (∀ k v, (k, v) ∈ L ↔ Maps.has D (keyL k) = true ∧ left (keyL k) = false ∧ ∀ z, D.atKey (keyL k) z = entD v false) ∧ (L.map (·.1)).Nodup

theorem keyL_inj {a b : ByteArray} (h : keyL a = keyL b) : a = b := by
  unfold keyL at h
  exact WideShapes.bytes_inj (by simpa using h)
theorem entD_inj {a b : ByteArray} {c d : Bool} (h : entD a c = entD b d) : a = b ∧ c = d := by
  unfold entD at h
  simp at h
  exact ⟨WideShapes.bytes_inj (by simpa using h.1), h.2⟩
theorem left_other {left : Lit → Bool} {k x : ByteArray} (h : k ≠ x) : (left (keyL k) && !(keyL k).sameKey (keyL x)) = left (keyL k) := by
  rw [Maps.sameKey_ne (fun e => h (keyL_inj e))]; simp
theorem left_self {left : Lit → Bool} {x : ByteArray} : (left (keyL x) && !(keyL x).sameKey (keyL x)) = false := by
  rw [WideAt.sameKey_self (show WideAt.IsKeyLit (keyL x) from trivial)]; simp

theorem vis_start (D : DataW Unit) : Vis D (Maps.has D) [] := by
  refine ⟨fun k v => ⟨fun h => by simp at h, fun h => ?_⟩, by simp⟩
  rw [h.1] at h
  simp at h

theorem vis_dead {D : DataW Unit} {left : Lit → Bool} {L : List (ByteArray × ByteArray)} (h : Vis D left L) {x s : ByteArray} (hl : left (keyL x) = true) (hat : ∀ z, D.atKey (keyL x) z = entD s true) :
    Vis D (fun z => left z && !z.sameKey (keyL x)) L := by
  refine ⟨fun k v => ?_, h.2⟩
  rw [h.1 k v]
  by_cases e : k = x
  · subst e
    constructor
    · rintro ⟨_, h2, _⟩; rw [hl] at h2; cases h2
    · rintro ⟨_, _, h3⟩; exact absurd (entD_inj ((h3 .nil).symm.trans (hat .nil))).2 (by simp)
  · rw [show ((fun z => left z && !z.sameKey (keyL x)) (keyL k)) = left (keyL k) from left_other e]

theorem vis_live {D : DataW Unit} {left : Lit → Bool} {L : List (ByteArray × ByteArray)} (h : Vis D left L) {x s : ByteArray} (hl : left (keyL x) = true) (hat : ∀ z, D.atKey (keyL x) z = entD s false) :
    Vis D (fun z => left z && !z.sameKey (keyL x)) (L ++ [(x, s)]) := by
  refine ⟨fun k v => ?_, ?_⟩
  · rw [List.mem_append, h.1 k v]
    by_cases e : k = x
    · subst e
      rw [show ((fun z => left z && !z.sameKey (keyL k)) (keyL k)) = false from left_self]
      constructor
      · rintro (⟨_, h2, _⟩ | h1)
        · rw [hl] at h2; cases h2
        · simp at h1; subst h1; exact ⟨Maps.has_true_of_atKey hat, rfl, hat⟩
      · rintro ⟨_, _, h3⟩
        right
        have := (entD_inj ((h3 .nil).symm.trans (hat .nil))).1
        simp [this]
    · rw [show ((fun z => left z && !z.sameKey (keyL x)) (keyL k)) = left (keyL k) from left_other e]
      simp [e]
  · rw [List.map_append]
    refine List.nodup_append.2 ⟨h.2, by simp, fun a ha b hb e => ?_⟩
    simp at hb
    subst hb
    subst e
    obtain ⟨⟨k, v⟩, hkv, rfl⟩ := List.mem_map.1 ha
    have := ((h.1 k v).1 hkv).2.1
    simp only at hl
    rw [hl] at this
    cases this

/-! ### the step over the store's entries -/
theorem wpList_next_ent (w : World) {ops : Array Oper} {rest : List Oper} {o : Oper} {a : Act} {Q : Exit → Act → World → Prop}
    (hg : o.guard = none) (it : Operand) (hop : o.op = Op.next it false) (b r n : Nat) (D : DataW Unit) (left : Lit → Bool) (cnt : Nat)
    (hit : a.eval it = .pointer (some ⟨r, 0, none⟩)) (h : w.ranges Yba.prog 9 entR b r n D left cnt)
    (hDone : cnt = 0 → (∀ kl, left kl = false) → wpList Yba.prog ops Q rest (a.put o.dst (.tuple #[.bool false])) w)
    (hLive : ∀ (x s : ByteArray) (p q t : Int) (w' : World) (cnt' : Nat), left (keyL x) = true → (∀ zd, D.atKey (keyL x) zd = entD s false) → w'.ranges Yba.prog 9 entR b r n D (fun z => left z && !z.sameKey (keyL x)) cnt' → cnt' < cnt →
      w.grownBy w' (some r) → w'.heap.size = w.heap.size → (Instr.entry (.pointer (some ⟨r, 0, none⟩))).run Yba.prog w' = .ok (.tuple #[.string x, .agg #[.string s, .bool false, .int .u64 p, .int .u64 q, .int .i64 t]]) w' →
      wpList Yba.prog ops Q rest (a.put o.dst (.tuple #[.bool true, .string x, .agg #[.string s, .bool false, .int .u64 p, .int .u64 q, .int .i64 t]])) w')
    (hDead : ∀ (x s : ByteArray) (p q t : Int) (w' : World) (cnt' : Nat), left (keyL x) = true → (∀ zd, D.atKey (keyL x) zd = entD s true) → w'.ranges Yba.prog 9 entR b r n D (fun z => left z && !z.sameKey (keyL x)) cnt' → cnt' < cnt →
      w.grownBy w' (some r) → w'.heap.size = w.heap.size → (Instr.entry (.pointer (some ⟨r, 0, none⟩))).run Yba.prog w' = .ok (.tuple #[.string x, .agg #[.string s, .bool true, .int .u64 p, .int .u64 q, .int .i64 t]]) w' →
      wpList Yba.prog ops Q rest (a.put o.dst (.tuple #[.bool true, .string x, .agg #[.string s, .bool true, .int .u64 p, .int .u64 q, .int .i64 t]])) w') :
    wpList Yba.prog ops Q (o :: rest) a w := by
  refine wpList_next_ranges (α := ByteArray) (β := ByteArray × Bool × Int × Int × Int) w hg it hop 9 keyedS entR (fun x => .string x) (fun c => .agg #[.string c.1, .bool c.2.1, .int .u64 c.2.2.1, .int .u64 c.2.2.2.1, .int .i64 c.2.2.2.2])
    ?_ ?_ b r n D left cnt hit h hDone ?_
  · intro key kl hk
    obtain ⟨s, hs, _⟩ := string_of_keyOf Yba.underlying9 hk
    exact ⟨s, hs⟩
  · intro v y hv
    unfold entR at hv
    split at hv
    · rename_i cs
      split at hv
      · rename_i s d p q t hcs
        refine ⟨(s, d, p, q, t), ?_⟩
        rw [show cs = #[.string s, .bool d, .int .u64 p, .int .u64 q, .int .i64 t] from Array.ext' hcs]
      · cases hv
    · cases hv
  · rintro x ⟨s, d, p, q, t⟩ kl y w' cnt' hk hl hR hat hrg hlt hgr hsz hen
    obtain ⟨x', hx, hkl, _⟩ := string_of_keyOf Yba.underlying9 hk
    cases hx
    have hkl' : kl = keyL x := hkl
    subst hkl'
    have hy : y = (entD s d, []) := by simpa [entR, entD] using hR.symm
    subst hy
    cases d
    · exact hLive x s p q t w' cnt' hl hat hrg hlt hgr hsz hen
    · exact hDead x s p q t w' cnt' hl hat hrg hlt hgr hsz hen

end Go.Proofs.Ybulkcyyq
