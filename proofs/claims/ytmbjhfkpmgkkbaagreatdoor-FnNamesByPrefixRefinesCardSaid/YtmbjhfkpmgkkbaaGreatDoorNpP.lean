/-
  Plain facts: rising lists of texts, the sorted names of an environment, and the ordered insertion of the model. No program is in sight. Conditions: those in each theorem.
-/
import Derived.Test.YtmbjhfkpmgkkbaaGreatDoorEnvP
namespace Go.Proofs.YtmbjhfkpmgkkbaaGreatDoor.Nbp
set_option linter.unusedVariables false
abbrev S := List UInt8
def leS (x y : S) : Bool := decide (x ≤ y)
def inc (l : List S) : Prop := l.Pairwise (fun x y => x < y)

theorem lt_irr (x : S) : ¬ x < x := List.lt_irrefl x
theorem lt_tr {x y z : S} (h : x < y) (k : y < z) : x < z := List.lt_trans h k
theorem lt_asy {x y : S} (h : x < y) : ¬ y < x := fun k => lt_irr x (lt_tr h k)
theorem tri (x y : S) : x < y ∨ x = y ∨ y < x := by
  by_cases h : x < y
  · exact Or.inl h
  · by_cases k : y < x
    · exact Or.inr (Or.inr k)
    · exact Or.inr (Or.inl (List.le_antisymm (List.not_lt.1 k) (List.not_lt.1 h)))
theorem lt_of_le_ne {x y : S} (h : x ≤ y) (k : x ≠ y) : x < y := by
  rcases tri x y with a | a | a
  · exact a
  · exact absurd a k
  · exact absurd a (List.not_lt.2 h)

theorem ext_inc : ∀ {A B : List S}, inc A → inc B → (∀ x, x ∈ A ↔ x ∈ B) → A = B
  | [], [], _, _, _ => rfl
  | [], b :: B, _, _, h => absurd ((h b).2 List.mem_cons_self) List.not_mem_nil
  | a :: A, [], _, _, h => absurd ((h a).1 List.mem_cons_self) List.not_mem_nil
  | a :: A, b :: B, hA, hB, h => by
    unfold inc at hA hB
    rw [List.pairwise_cons] at hA hB
    have e : a = b := by
      have h1 := (h a).1 List.mem_cons_self
      have h2 := (h b).2 List.mem_cons_self
      rw [List.mem_cons] at h1 h2
      rcases h1 with h1 | h1
      · exact h1
      · rcases h2 with h2 | h2
        · exact h2.symm
        · exact absurd (hA.1 _ h2) (lt_asy (hB.1 _ h1))
    subst e
    congr 1
    refine ext_inc hA.2 hB.2 (fun x => ⟨fun hx => ?_, fun hx => ?_⟩)
    · have := (h x).1 (List.mem_cons_of_mem _ hx)
      rw [List.mem_cons] at this
      rcases this with e | m
      · subst e; exact absurd (hA.1 _ hx) (lt_irr _)
      · exact m
    · have := (h x).2 (List.mem_cons_of_mem _ hx)
      rw [List.mem_cons] at this
      rcases this with e | m
      · subst e; exact absurd (hB.1 _ hx) (lt_irr _)
      · exact m

theorem sorted_inc {N : List S} (h : N.Nodup) : inc (N.mergeSort leS) := by
  have h1 : (N.mergeSort leS).Pairwise (fun x y => leS x y = true) := List.pairwise_mergeSort
    (fun a b c hab hbc => by
      unfold leS at *
      simp only [decide_eq_true_eq] at *
      exact List.le_trans hab hbc)
    (fun a b => by
      unfold leS
      simp only [Bool.or_eq_true, decide_eq_true_eq]
      exact List.le_total a b) N
  have h2 : (N.mergeSort leS).Nodup := (List.mergeSort_perm N leS).nodup_iff.2 h
  unfold inc
  refine List.Pairwise.imp (fun {x y} hxy => ?_) (List.Pairwise.and h1 h2)
  unfold leS at hxy
  exact lt_of_le_ne (of_decide_eq_true hxy.1) hxy.2
theorem mem_sorted {N : List S} {x : S} : x ∈ N.mergeSort leS ↔ x ∈ N := (List.mergeSort_perm N leS).mem_iff

/-- the names of an environment's list that begin with p, sorted -/
def named (R : List S) (p : S) : List S := ((R.map Envp.nameOf).filter (fun x => p.isPrefixOf x)).mergeSort leS

theorem names_nodup {L R : List S} (hE : Envp.Env L R) : (R.map Envp.nameOf).Nodup := by
  unfold List.Nodup
  rw [List.pairwise_map]
  refine List.Pairwise.imp_of_mem (fun {a b} ha hb hab e => ?_) hE.inc
  rw [(Envp.key_valid (hE.valid _ ha).2).1, (Envp.key_valid (hE.valid _ hb).2).1, e] at hab
  exact Envp.blt_irr _ hab
theorem mem_names {L R : List S} (hE : Envp.Env L R) (x : S) : x ∈ R.map Envp.nameOf ↔ ∃ y ∈ L, Envp.valid y = true ∧ Envp.nameOf y = x := by
  constructor
  · intro h
    obtain ⟨y, hy, rfl⟩ := List.mem_map.1 h
    exact ⟨y, (hE.valid y hy).1, (hE.valid y hy).2, rfl⟩
  · rintro ⟨y, hy, hv, rfl⟩
    have ha := hE.ans (Envp.nameOf y)
    have hm : y ∈ L.filter (Envp.isName (Envp.nameOf y)) := List.mem_filter.2 ⟨hy, by unfold Envp.isName; rw [hv]; simp⟩
    cases hl : Envp.look L (Envp.nameOf y) with
    | none =>
      unfold Envp.look at hl
      rw [List.getLast?_eq_none_iff] at hl
      rw [hl] at hm; exact absurd hm List.not_mem_nil
    | some z =>
      rw [hl] at ha
      have hz : z ∈ R.filter (Envp.isName (Envp.nameOf y)) := by rw [ha]; simp
      rw [List.mem_filter] at hz
      have h2 := hz.2
      unfold Envp.isName at h2
      simp only [Bool.and_eq_true, beq_iff_eq] at h2
      exact List.mem_map.2 ⟨z, hz.1, h2.2⟩
theorem named_inc {L R : List S} (hE : Envp.Env L R) (p : S) : inc (named R p) := sorted_inc ((names_nodup hE).filter _)
theorem mem_named {L R : List S} (hE : Envp.Env L R) (p x : S) : x ∈ named R p ↔ (∃ y ∈ L, Envp.valid y = true ∧ Envp.nameOf y = x) ∧ p.isPrefixOf x = true := by
  unfold named
  rw [mem_sorted, List.mem_filter, mem_names hE]

/-- what the model has collected from the pairs L -/
structure Mod (L : List S) (p : S) (O : List S) : Prop where
  inc : inc O
  mem : ∀ x, x ∈ O ↔ (∃ y ∈ L, Envp.valid y = true ∧ Envp.nameOf y = x) ∧ p.isPrefixOf x = true
theorem Mod.nil (p : S) : Mod [] p [] := ⟨List.Pairwise.nil, fun x => ⟨fun h => absurd h List.not_mem_nil, fun ⟨⟨y, hy, _⟩, _⟩ => absurd hy List.not_mem_nil⟩⟩
theorem Mod.eq {L R O : List S} {p : S} (h : Mod L p O) (hE : Envp.Env L R) : named R p = O :=
  ext_inc (named_inc hE p) h.inc (fun x => by rw [mem_named hE, h.mem])
theorem Mod.skip {L O : List S} {p y : S} (h : Mod L p O) (hy : Envp.valid y = false ∨ p.isPrefixOf (Envp.nameOf y) = false) : Mod (L ++ [y]) p O := ⟨h.inc, fun x => by
  rw [h.mem]
  constructor
  · rintro ⟨⟨z, hz, k⟩, hp⟩
    exact ⟨⟨z, List.mem_append_left _ hz, k⟩, hp⟩
  · rintro ⟨⟨z, hz, k1, k2⟩, hp⟩
    rcases List.mem_append.1 hz with m | m
    · exact ⟨⟨z, m, k1, k2⟩, hp⟩
    · rw [List.mem_singleton] at m
      subst m
      rcases hy with e | e
      · rw [e] at k1; cases k1
      · rw [k2, hp] at e; cases e⟩
theorem Mod.hit {L O : List S} {p y : S} (h : Mod L p O) (hy : Envp.nameOf y ∈ O) : Mod (L ++ [y]) p O := ⟨h.inc, fun x => by
  constructor
  · intro hx
    obtain ⟨⟨z, hz, k⟩, hp⟩ := (h.mem x).1 hx
    exact ⟨⟨z, List.mem_append_left _ hz, k⟩, hp⟩
  · rintro ⟨⟨z, hz, k1, k2⟩, hp⟩
    rcases List.mem_append.1 hz with m | m
    · exact (h.mem x).2 ⟨⟨z, m, k1, k2⟩, hp⟩
    · rw [List.mem_singleton] at m
      subst m
      rw [← k2]; exact hy⟩
/-- k is the place of n in O -/
structure At (O : List S) (n : S) (k : Nat) : Prop where
  le : k ≤ O.length
  lo : ∀ j (h : j < O.length), j < k → O[j] < n
  hi : ∀ (h : k < O.length), ¬ O[k] < n
theorem inc_insert {O : List S} {n : S} {k : Nat} (hO : inc O) (a : At O n k) (hne : ∀ h : k < O.length, O[k] ≠ n) : inc (O.take k ++ n :: O.drop k) := by
  unfold inc at *
  have hlo : ∀ x ∈ O.take k, x < n := fun x hx => by
    obtain ⟨i, hi, rfl⟩ := List.mem_iff_getElem.1 hx
    rw [List.length_take] at hi
    rw [List.getElem_take]
    exact a.lo i (by omega) (by omega)
  have hhi : ∀ x ∈ O.drop k, n < x := fun x hx => by
    obtain ⟨i, hi, rfl⟩ := List.mem_iff_getElem.1 hx
    rw [List.length_drop] at hi
    rw [List.getElem_drop]
    have h0 : n < O[k] := by
      rcases tri O[k] n with e | e | e
      · exact absurd e (a.hi (by omega))
      · exact absurd e (hne (by omega))
      · exact e
    by_cases c : i = 0
    · subst c; simpa using h0
    · rw [List.pairwise_iff_getElem] at hO
      exact lt_tr h0 (hO k (k + i) (by omega) (by omega) (by omega))
  rw [List.pairwise_append, List.pairwise_cons]
  refine ⟨hO.sublist (List.take_sublist _ _), ⟨hhi, hO.sublist (List.drop_sublist _ _)⟩, fun x hx y hy => ?_⟩
  rw [List.mem_cons] at hy
  rcases hy with e | hy
  · rw [e]; exact hlo x hx
  · exact lt_tr (hlo x hx) (hhi y hy)
theorem Mod.put {L O : List S} {p y : S} {k : Nat} (h : Mod L p O) (hv : Envp.valid y = true) (hp : p.isPrefixOf (Envp.nameOf y) = true) (a : At O (Envp.nameOf y) k) (hne : ∀ h : k < O.length, O[k] ≠ Envp.nameOf y) :
    Mod (L ++ [y]) p (O.take k ++ Envp.nameOf y :: O.drop k) := ⟨inc_insert h.inc a hne, fun x => by
  rw [List.mem_append, List.mem_cons, ← or_assoc, or_comm (a := x ∈ O.take k), or_assoc, ← List.mem_append, List.take_append_drop, h.mem]
  constructor
  · rintro (e | ⟨⟨z, hz, k1⟩, hp'⟩)
    · rw [e]; exact ⟨⟨y, by simp, hv, rfl⟩, hp⟩
    · exact ⟨⟨z, List.mem_append_left _ hz, k1⟩, hp'⟩
  · rintro ⟨⟨z, hz, k1, k2⟩, hp'⟩
    rcases List.mem_append.1 hz with m | m
    · exact Or.inr ⟨⟨z, m, k1, k2⟩, hp'⟩
    · rw [List.mem_singleton] at m
      subst m
      exact Or.inl k2.symm⟩

/-- the longer prefix: its names are the shorter one's, filtered -/
theorem prefix_app {a e x : S} (h : (a ++ e).isPrefixOf x = true) : a.isPrefixOf x = true := by
  rw [List.isPrefixOf_iff_prefix] at *
  exact (List.prefix_append a e).trans h
theorem named_app {L R : List S} (hE : Envp.Env L R) (a e : S) : (named R a).filter (fun x => (a ++ e).isPrefixOf x) = named R (a ++ e) :=
  ext_inc ((named_inc hE a).sublist List.filter_sublist) (named_inc hE (a ++ e)) (fun x => by
    rw [List.mem_filter, mem_named hE, mem_named hE]
    constructor
    · rintro ⟨⟨h, _⟩, k⟩; exact ⟨h, k⟩
    · rintro ⟨h, k⟩; exact ⟨⟨h, prefix_app k⟩, k⟩)
end Go.Proofs.YtmbjhfkpmgkkbaaGreatDoor.Nbp
