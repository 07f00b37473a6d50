import Derived.Test.YbulkcyyqW4
namespace Go.Proofs.Ybulkcyyq
open Go.RowKit Go.Maps Go.WideMaps

theorem beq_iff (a b : ByteArray) : (a.toList == b.toList) = true ↔ a = b := by
  rw [beq_iff_eq, ByteArray.toList_eq, ByteArray.toList_eq]
  exact ⟨WideShapes.bytes_inj, fun h => by rw [h]⟩

theorem last_cases (K : Nat → ByteArray) (k : ByteArray) : ∀ n, (lastUp K k n = -1 ∧ ∀ i, i < n → K i ≠ k) ∨ ∃ j, j < n ∧ lastUp K k n = (j : Int) ∧ K j = k ∧ ∀ i, j < i → i < n → K i ≠ k
  | 0 => .inl ⟨rfl, fun i hi => absurd hi (Nat.not_lt_zero _)⟩
  | n + 1 => by
    by_cases e : K n = k
    · right
      refine ⟨n, by omega, ?_, e, fun i h1 h2 => by omega⟩
      rw [lastUp, if_pos ((beq_iff _ _).2 e)]
    · have hn : lastUp K k (n + 1) = lastUp K k n := by rw [lastUp, if_neg (fun h => e ((beq_iff _ _).1 h))]
      rcases last_cases K k n with ⟨h1, h2⟩ | ⟨j, h1, h2, h3, h4⟩
      · exact .inl ⟨by rw [hn, h1], fun i hi => by
          by_cases e' : i = n
          · rw [e']; exact e
          · exact h2 i (by omega)⟩
      · exact .inr ⟨j, by omega, by rw [hn, h2], h3, fun i hi hi' => by
          by_cases e' : i = n
          · rw [e']; exact e
          · exact h4 i hi (by omega)⟩

theorem isMap_build (K V : Nat → ByteArray) (Dl : Nat → Bool) : ∀ n, Maps.Tidy (buildD K V Dl n)
  | 0 => Maps.tidy_empty
  | n + 1 => (isMap_build K V Dl n).put (show WideAt.IsKeyLit (keyL (K n)) from trivial) _

theorem has_buildL (K V : Nat → ByteArray) (Dl : Nat → Bool) (kl : Lit) : ∀ n, Maps.has (buildD K V Dl n) kl = true ↔ ∃ i, i < n ∧ keyL (K i) = kl
  | 0 => Iff.intro (fun h => by simp [buildD, Maps.has] at h) (fun ⟨i, hi, _⟩ => absurd hi (Nat.not_lt_zero _))
  | n + 1 => by
    show Maps.has ((buildD K V Dl n).put (keyL (K n)) (entD (V n) (Dl n))) kl = true ↔ _
    by_cases e : kl = keyL (K n)
    · rw [e, Maps.has_put_same (isMap_build K V Dl n).isMap (show WideAt.IsKeyLit (keyL (K n)) from trivial)]
      exact ⟨fun _ => ⟨n, by omega, rfl⟩, fun _ => rfl⟩
    · rw [Maps.has_put_other e, has_buildL K V Dl kl n]
      constructor
      · rintro ⟨i, hi, h⟩; exact ⟨i, by omega, h⟩
      · rintro ⟨i, hi, h⟩
        refine ⟨i, ?_, h⟩
        by_cases e' : i = n
        · subst e'; exact absurd h.symm e
        · omega
theorem has_build (K V : Nat → ByteArray) (Dl : Nat → Bool) (k : ByteArray) (n : Nat) : Maps.has (buildD K V Dl n) (keyL k) = true ↔ ∃ i, i < n ∧ K i = k := by
  rw [has_buildL]
  exact ⟨fun ⟨i, h1, h2⟩ => ⟨i, h1, keyL_inj h2⟩, fun ⟨i, h1, h2⟩ => ⟨i, h1, by rw [h2]⟩⟩

theorem at_build (K V : Nat → ByteArray) (Dl : Nat → Bool) (k : ByteArray) : ∀ n j, lastUp K k n = ((j : Nat) : Int) → ∀ z, (buildD K V Dl n).atKey (keyL k) z = entD (V j) (Dl j)
  | 0, j, h, z => by simp [lastUp] at h
  | n + 1, j, h, z => by
    show ((buildD K V Dl n).put (keyL (K n)) (entD (V n) (Dl n))).atKey (keyL k) z = _
    by_cases e : k = K n
    · rw [lastUp, if_pos ((beq_iff _ _).2 e.symm)] at h
      have : j = n := by omega
      subst this
      rw [e, Maps.atKey_put_same (isMap_build K V Dl j).isMap (show WideAt.IsKeyLit (keyL (K j)) from trivial)]
    · rw [lastUp, if_neg (fun h' => e ((beq_iff _ _).1 h').symm)] at h
      rw [Maps.atKey_put_other (fun h' => e (keyL_inj h'))]
      exact at_build K V Dl k n j h z

/-- The last indices of the live keys. -/
def liveIx (K : Nat → ByteArray) (Dl : Nat → Bool) (n m : Nat) : List Nat := (List.range m).filter fun i => (lastUp K (K i) n == (i : Int)) && !Dl i
theorem liveIx_len (K : Nat → ByteArray) (Dl : Nat → Bool) (n : Nat) : ∀ m, (liveIx K Dl n m).length = liveUp K Dl n m
  | 0 => rfl
  | m + 1 => by
    have ih := liveIx_len K Dl n m
    unfold liveIx at ih ⊢
    rw [List.range_succ, List.filter_append, List.length_append, ih, liveUp]
    congr 1
    by_cases h1 : (lastUp K (K m) n == (m : Int)) = true <;> by_cases h2 : Dl m = false <;> simp_all

theorem nodup_len {α : Type} [DecidableEq α] : ∀ {l1 l2 : List α}, l1.Nodup → (∀ a, a ∈ l1 → a ∈ l2) → l1.length ≤ l2.length
  | [], _, _, _ => Nat.zero_le _
  | a :: t, l2, hn, hs => by
    obtain ⟨h1, h2⟩ := List.nodup_cons.1 hn
    have hm := hs a (by simp)
    have ih := nodup_len (l2 := l2.erase a) h2 (fun x hx => (List.mem_erase_of_ne (fun e => h1 (by rw [← e]; exact hx))).2 (hs x (by simp [hx])))
    rw [List.length_erase_of_mem hm] at ih
    have := List.length_pos_of_mem hm
    simp
    omega

theorem liveIx_nodup (K : Nat → ByteArray) (Dl : Nat → Bool) (n : Nat) : ((liveIx K Dl n n).map K).Nodup := by
  rw [List.nodup_iff_pairwise_ne, List.pairwise_map]
  refine (List.Pairwise.imp_of_mem ?_ (List.Pairwise.filter _ (List.nodup_iff_pairwise_ne.1 List.nodup_range)))
  intro a b ha hb hne e
  simp [liveIx] at ha hb
  have h1 := ha.2.1
  have h2 := hb.2.1
  rw [e, h2] at h1
  exact hne (by omega)

/-- What is visited are live keys, each once, with its last value. -/
theorem vis_mem {K V : Nat → ByteArray} {Dl : Nat → Bool} {n : Nat} {left : Lit → Bool} {L : List (ByteArray × ByteArray)} (h : Vis (buildD K V Dl n) left L) {k v : ByteArray} (hm : (k, v) ∈ L) :
    ∃ j, j < n ∧ lastUp K k n = (j : Int) ∧ K j = k ∧ Dl j = false ∧ V j = v := by
  obtain ⟨h1, _, h3⟩ := (h.1 k v).1 hm
  obtain ⟨i, hi, hik⟩ := (has_build K V Dl k n).1 h1
  rcases last_cases K k n with ⟨_, h2⟩ | ⟨j, j1, j2, j3, _⟩
  · exact absurd hik (h2 i hi)
  · have := entD_inj ((at_build K V Dl k n j j2 .nil).symm.trans (h3 .nil))
    exact ⟨j, j1, j2, j3, this.2, this.1⟩

theorem vis_le {K V : Nat → ByteArray} {Dl : Nat → Bool} {n : Nat} {left : Lit → Bool} {L : List (ByteArray × ByteArray)} (h : Vis (buildD K V Dl n) left L) : L.length ≤ liveUp K Dl n n := by
  have := nodup_len (l2 := (liveIx K Dl n n).map K) h.2 (fun a ha => by
    obtain ⟨⟨k, v⟩, hkv, rfl⟩ := List.mem_map.1 ha
    obtain ⟨j, j1, j2, j3, j4, _⟩ := vis_mem h hkv
    refine List.mem_map.2 ⟨j, ?_, j3⟩
    simp [liveIx, j1, j4, j3, j2])
  rw [List.length_map, List.length_map, liveIx_len] at this
  exact this

theorem vis_all {K V : Nat → ByteArray} {Dl : Nat → Bool} {n : Nat} {left : Lit → Bool} {L : List (ByteArray × ByteArray)} (h : Vis (buildD K V Dl n) left L) (hl : ∀ kl, left kl = false) : L.length = liveUp K Dl n n := by
  refine Nat.le_antisymm (vis_le h) ?_
  have := nodup_len (l2 := L.map (·.1)) (liveIx_nodup K Dl n) (fun a ha => by
    obtain ⟨j, hj, rfl⟩ := List.mem_map.1 ha
    simp [liveIx] at hj
    obtain ⟨j1, j2, j3⟩ := hj
    refine List.mem_map.2 ⟨(K j, V j), (h.1 _ _).2 ⟨(has_build K V Dl _ n).2 ⟨j, j1, rfl⟩, hl _, fun z => ?_⟩, rfl⟩
    rw [at_build K V Dl _ n j j2 z, j3])
  rw [List.length_map, List.length_map, liveIx_len] at this
  exact this

/-- The last indices of all keys. -/
def distIx (K : Nat → ByteArray) (n m : Nat) : List Nat := (List.range m).filter fun i => (lastUp K (K i) n == (i : Int))
theorem distIx_len (K : Nat → ByteArray) (n : Nat) : ∀ m, (distIx K n m).length = distUp K n m
  | 0 => rfl
  | m + 1 => by
    have ih := distIx_len K n m
    unfold distIx at ih ⊢
    rw [List.range_succ, List.filter_append, List.length_append, ih, distUp]
    congr 1
    by_cases h1 : (lastUp K (K m) n == (m : Int)) = true <;> simp_all
theorem distIx_nodup (K : Nat → ByteArray) (n : Nat) : ((distIx K n n).map (fun i => keyL (K i))).Nodup := by
  rw [List.nodup_iff_pairwise_ne, List.pairwise_map]
  refine (List.Pairwise.imp_of_mem ?_ (List.Pairwise.filter _ (List.nodup_iff_pairwise_ne.1 List.nodup_range)))
  intro a b ha hb hne e
  have e := keyL_inj e
  simp [distIx] at ha hb
  have h1 := ha.2
  have h2 := hb.2
  rw [e, h2] at h1
  exact hne (by omega)

theorem keys_build (K V : Nat → ByteArray) (Dl : Nat → Bool) : ∀ n es, buildD K V Dl n = .map es → ∀ p, p ∈ es → WideAt.IsKeyLit p.1
  | 0, es, h, p, hp => by simp [buildD] at h; rw [h] at hp; simp at hp
  | n + 1, es, h, p, hp => by
    obtain ⟨es0, h0, _⟩ := isMap_build K V Dl n
    have h1 : (DataW.map es0).put (keyL (K n)) (entD (V n) (Dl n)) = .map es := by rw [← h0]; exact h
    have h2 : DataW.insert (keyL (K n), entD (V n) (Dl n)) (es0.filter fun p => !p.1.sameKey (keyL (K n))) = es := by
      have : DataW.map (DataW.insert (keyL (K n), entD (V n) (Dl n)) (es0.filter fun p => !p.1.sameKey (keyL (K n)))) = DataW.map es := h1
      simpa using this
    rw [← h2] at hp
    rcases List.mem_cons.1 ((WideShapes.insert_perm _ _).mem_iff.1 hp) with rfl | hp'
    · trivial
    · exact keys_build K V Dl n es0 h0 p (List.mem_filter.1 hp').1

/-- 'len(m)': how many different keys there are. -/
theorem size_build (K V : Nat → ByteArray) (Dl : Nat → Bool) (n : Nat) : Maps.size (buildD K V Dl n) = distUp K n n := by
  haveI : DecidableEq Lit := fun a b => Classical.propDecidable (a = b)
  obtain ⟨es, hes, hp⟩ := isMap_build K V Dl n
  have hh := fun kl => has_buildL K V Dl kl n
  rw [hes] at hh ⊢
  have hnd : (es.map (·.1)).Nodup := by rw [List.nodup_iff_pairwise_ne, List.pairwise_map]; exact hp
  have h1 := nodup_len (l2 := (distIx K n n).map (fun i => keyL (K i))) hnd (fun a ha => by
    obtain ⟨p, hpe, rfl⟩ := List.mem_map.1 ha
    have hk : Maps.has (.map es) p.1 = true := List.any_eq_true.2 ⟨p, hpe, WideAt.sameKey_self (keys_build K V Dl n es hes p hpe)⟩
    obtain ⟨i, hi, hik⟩ := (hh p.1).1 hk
    rcases last_cases K (K i) n with ⟨_, h2⟩ | ⟨j, j1, j2, j3, _⟩
    · exact absurd rfl (h2 i hi)
    · exact List.mem_map.2 ⟨j, by simp [distIx, j1, j3, j2], by rw [j3]; exact hik⟩)
  have h2 := nodup_len (l2 := es.map (·.1)) (distIx_nodup K n) (fun a ha => by
    obtain ⟨i, hi, rfl⟩ := List.mem_map.1 ha
    simp [distIx] at hi
    obtain ⟨p, hpe, hpk⟩ := List.any_eq_true.1 ((hh (keyL (K i))).2 ⟨i, hi.1, rfl⟩)
    exact List.mem_map.2 ⟨p, hpe, WideAt.sameKey_eq hpk⟩)
  rw [List.length_map, List.length_map, distIx_len] at h1 h2
  exact Nat.le_antisymm h1 h2
end Go.Proofs.Ybulkcyyq
