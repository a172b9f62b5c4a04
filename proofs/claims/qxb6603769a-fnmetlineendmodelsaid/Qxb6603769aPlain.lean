/-
  THE PLAIN LAW of seat b6603769a: no Go in sight. Bytes are lists; 'hit l i' says that a quote mark at place i stands right behind a line end.
-/
import Derived.Lib.IndexLaws
import Derived.Lib.IndexMore
namespace Go.Proofs.Qxb6603769a.Plain
open Go.Lib

/-- The six texts that metLineEnd looks for ahead of a quote mark. -/
def ends : List (List UInt8) := [[10], [13], [0], [92, 110], [92, 114], [92, 120, 48, 48]]

/-- What metLineEnd answers. -/
def met (l : List UInt8) : Bool := ends.any fun e => contains l (e ++ [39]) || contains l (e ++ [34])

/-- What the law's own model looks for at place i. -/
def hit (l : List UInt8) (i : Nat) : Prop :=
  (l[i]? = some 39 ∨ l[i]? = some 34) ∧
  ((1 ≤ i ∧ (l[i - 1]? = some 10 ∨ l[i - 1]? = some 13 ∨ l[i - 1]? = some 0)) ∨
   (2 ≤ i ∧ l[i - 2]? = some 92 ∧ (l[i - 1]? = some 110 ∨ l[i - 1]? = some 114)) ∨
   (4 ≤ i ∧ l[i - 4]? = some 92 ∧ l[i - 3]? = some 120 ∧ l[i - 2]? = some 48 ∧ l[i - 1]? = some 48))

theorem occ_nil (l : List UInt8) (p : Nat) : occAt l [] p = true := by unfold occAt; simp

theorem occ_cons (l t : List UInt8) (c : UInt8) (p : Nat) : occAt l (c :: t) p = true ↔ l[p]? = some c ∧ occAt l t (p + 1) = true := by
  unfold occAt
  cases h : l.drop p with
  | nil =>
    have hp : l[p]? = none := by
      rw [List.getElem?_eq_none_iff]; simpa using h
    rw [hp]
    constructor
    · intro e; simp at e
    · intro e; cases e.1
  | cons a r =>
    have h1 : l[p]? = some a := by
      have := List.getElem?_drop (xs := l) (i := p) (j := 0)
      rw [h, Nat.add_zero] at this
      exact this.symm
    have h2 : l.drop (p + 1) = r := by
      rw [← List.drop_drop, h]; rfl
    rw [h1, h2, List.isPrefixOf_cons_cons, Bool.and_eq_true, beq_iff_eq]
    constructor
    · rintro ⟨e, f⟩; exact ⟨by rw [e], f⟩
    · rintro ⟨e, f⟩; exact ⟨(Option.some.inj e).symm, f⟩

theorem least {p : Nat → Prop} [DecidablePred p] (n : Nat) (h : p n) : ∃ m, p m ∧ ∀ j, j < m → ¬ p j := by
  have key : ∀ k, k ≤ n + 1 → (∃ m, m < k ∧ p m ∧ ∀ j, j < m → ¬ p j) ∨ ∀ j, j < k → ¬ p j := fun k => by
    induction k with
    | zero => intro _; exact Or.inr fun j hj => absurd hj (Nat.not_lt_zero _)
    | succ k ih =>
      intro hk
      rcases ih (by omega) with ⟨m, h1, h2⟩ | h1
      · exact Or.inl ⟨m, by omega, h2⟩
      · by_cases hp : p k
        · exact Or.inl ⟨k, by omega, hp, h1⟩
        · exact Or.inr fun j hj => by
            by_cases e : j = k
            · subst e; exact hp
            · exact h1 j (by omega)
  rcases key (n + 1) (Nat.le_refl _) with ⟨m, _, h2⟩ | h1
  · exact ⟨m, h2⟩
  · exact absurd h (h1 n (by omega))

theorem contains_iff (l : List UInt8) (c : UInt8) (t : List UInt8) : contains l (c :: t) = true ↔ ∃ p, occAt l (c :: t) p = true := by
  constructor
  · intro h
    cases hn : (List.range (l.length + 1)).any fun p => occAt l (c :: t) p
    · rw [List.any_eq_false] at hn
      have : index l (c :: t) = -1 := index_none fun j hj => by
        have := hn j (List.mem_range.2 (by omega))
        simpa using this
      rw [contains, this] at h
      exact absurd h (by decide)
    · rw [List.any_eq_true] at hn
      obtain ⟨p, _, hp⟩ := hn
      exact ⟨p, hp⟩
  · rintro ⟨p, hp⟩
    obtain ⟨m, hm, hlt⟩ := least (p := fun p => occAt l (c :: t) p = true) p hp
    have hroom : m ≤ l.length := by
      rcases occAt_room hm with h | h
      · omega
      · cases h
    have := index_first hroom hm fun j hj => by
      have := hlt j hj
      simpa using this
    rw [contains, this]
    exact decide_eq_true (by omega)

theorem has2 {l : List UInt8} {j : Nat} {a q : UInt8} (h1 : l[j]? = some a) (hq : l[j + 1]? = some q) : contains l [a, q] = true :=
  (contains_iff _ _ _).2 ⟨j, by simp only [occ_cons]; exact ⟨h1, hq, occ_nil _ _⟩⟩
theorem has3 {l : List UInt8} {j : Nat} {a b q : UInt8} (h1 : l[j]? = some a) (h2 : l[j + 1]? = some b) (hq : l[j + 1 + 1]? = some q) : contains l [a, b, q] = true :=
  (contains_iff _ _ _).2 ⟨j, by simp only [occ_cons]; exact ⟨h1, h2, hq, occ_nil _ _⟩⟩
theorem has5 {l : List UInt8} {j : Nat} {a b c d q : UInt8} (h1 : l[j]? = some a) (h2 : l[j + 1]? = some b) (h3 : l[j + 1 + 1]? = some c) (h4 : l[j + 1 + 1 + 1]? = some d) (hq : l[j + 1 + 1 + 1 + 1]? = some q) : contains l [a, b, c, d, q] = true :=
  (contains_iff _ _ _).2 ⟨j, by simp only [occ_cons]; exact ⟨h1, h2, h3, h4, hq, occ_nil _ _⟩⟩

theorem hit_met {l : List UInt8} {i : Nat} (h : hit l i) : met l = true := by
  obtain ⟨hq, h⟩ := h
  unfold met
  rw [List.any_eq_true]
  have fin : ∀ e : List UInt8, e ∈ ends → (contains l (e ++ [39]) = true ∨ contains l (e ++ [34]) = true) → ∃ x, x ∈ ends ∧ (contains l (x ++ [39]) || contains l (x ++ [34])) = true := fun e he hc => ⟨e, he, by rw [Bool.or_eq_true]; exact hc⟩
  rcases h with ⟨h1, h2⟩ | ⟨h1, h2, h3⟩ | ⟨h1, h2, h3, h4, h5⟩
  · obtain ⟨j, rfl⟩ : ∃ j, i = j + 1 := ⟨i - 1, by omega⟩
    rw [Nat.add_sub_cancel] at h2
    rcases h2 with h2 | h2 | h2
    · exact fin [10] (by decide) (hq.elim (fun h => Or.inl (has2 h2 h)) (fun h => Or.inr (has2 h2 h)))
    · exact fin [13] (by decide) (hq.elim (fun h => Or.inl (has2 h2 h)) (fun h => Or.inr (has2 h2 h)))
    · exact fin [0] (by decide) (hq.elim (fun h => Or.inl (has2 h2 h)) (fun h => Or.inr (has2 h2 h)))
  · obtain ⟨j, rfl⟩ : ∃ j, i = j + 1 + 1 := ⟨i - 2, by omega⟩
    rw [show j + 1 + 1 - 2 = j from by omega] at h2
    rw [show j + 1 + 1 - 1 = j + 1 from by omega] at h3
    rcases h3 with h3 | h3
    · exact fin [92, 110] (by decide) (hq.elim (fun h => Or.inl (has3 h2 h3 h)) (fun h => Or.inr (has3 h2 h3 h)))
    · exact fin [92, 114] (by decide) (hq.elim (fun h => Or.inl (has3 h2 h3 h)) (fun h => Or.inr (has3 h2 h3 h)))
  · obtain ⟨j, rfl⟩ : ∃ j, i = j + 1 + 1 + 1 + 1 := ⟨i - 4, by omega⟩
    rw [show j + 1 + 1 + 1 + 1 - 4 = j from by omega] at h2
    rw [show j + 1 + 1 + 1 + 1 - 3 = j + 1 from by omega] at h3
    rw [show j + 1 + 1 + 1 + 1 - 2 = j + 1 + 1 from by omega] at h4
    rw [show j + 1 + 1 + 1 + 1 - 1 = j + 1 + 1 + 1 from by omega] at h5
    exact fin [92, 120, 48, 48] (by decide) (hq.elim (fun h => Or.inl (has5 h2 h3 h4 h5 h)) (fun h => Or.inr (has5 h2 h3 h4 h5 h)))

theorem met_hit {l : List UInt8} (h : met l = true) : ∃ i, i < l.length ∧ hit l i := by
  have lt : ∀ {i : Nat} {c : UInt8}, l[i]? = some c → i < l.length := fun h => (List.getElem?_eq_some_iff.1 h).1
  unfold met at h
  rw [List.any_eq_true] at h
  obtain ⟨e, he, h⟩ := h
  rw [Bool.or_eq_true] at h
  simp only [ends, List.mem_cons, List.not_mem_nil, or_false] at he
  rcases he with rfl | rfl | rfl | rfl | rfl | rfl
  all_goals simp only [List.cons_append, List.nil_append] at h
  · obtain ⟨q, hq, h⟩ : ∃ q, (q = 39 ∨ q = 34) ∧ contains l [10, q] = true := by rcases h with h | h <;> exact ⟨_, by simp, h⟩
    obtain ⟨p, hp⟩ := (contains_iff _ _ _).1 h
    simp only [occ_cons] at hp
    refine ⟨p + 1, lt hp.2.1, ?_, Or.inl ⟨by omega, Or.inl hp.1⟩⟩
    rcases hq with rfl | rfl
    · exact Or.inl hp.2.1
    · exact Or.inr hp.2.1
  · obtain ⟨q, hq, h⟩ : ∃ q, (q = 39 ∨ q = 34) ∧ contains l [13, q] = true := by rcases h with h | h <;> exact ⟨_, by simp, h⟩
    obtain ⟨p, hp⟩ := (contains_iff _ _ _).1 h
    simp only [occ_cons] at hp
    refine ⟨p + 1, lt hp.2.1, ?_, Or.inl ⟨by omega, Or.inr (Or.inl hp.1)⟩⟩
    rcases hq with rfl | rfl
    · exact Or.inl hp.2.1
    · exact Or.inr hp.2.1
  · obtain ⟨q, hq, h⟩ : ∃ q, (q = 39 ∨ q = 34) ∧ contains l [0, q] = true := by rcases h with h | h <;> exact ⟨_, by simp, h⟩
    obtain ⟨p, hp⟩ := (contains_iff _ _ _).1 h
    simp only [occ_cons] at hp
    refine ⟨p + 1, lt hp.2.1, ?_, Or.inl ⟨by omega, Or.inr (Or.inr hp.1)⟩⟩
    rcases hq with rfl | rfl
    · exact Or.inl hp.2.1
    · exact Or.inr hp.2.1
  · obtain ⟨q, hq, h⟩ : ∃ q, (q = 39 ∨ q = 34) ∧ contains l [92, 110, q] = true := by rcases h with h | h <;> exact ⟨_, by simp, h⟩
    obtain ⟨p, hp⟩ := (contains_iff _ _ _).1 h
    simp only [occ_cons] at hp
    refine ⟨p + 1 + 1, lt hp.2.2.1, ?_, Or.inr (Or.inl ⟨by omega, hp.1, Or.inl hp.2.1⟩)⟩
    rcases hq with rfl | rfl
    · exact Or.inl hp.2.2.1
    · exact Or.inr hp.2.2.1
  · obtain ⟨q, hq, h⟩ : ∃ q, (q = 39 ∨ q = 34) ∧ contains l [92, 114, q] = true := by rcases h with h | h <;> exact ⟨_, by simp, h⟩
    obtain ⟨p, hp⟩ := (contains_iff _ _ _).1 h
    simp only [occ_cons] at hp
    refine ⟨p + 1 + 1, lt hp.2.2.1, ?_, Or.inr (Or.inl ⟨by omega, hp.1, Or.inr hp.2.1⟩)⟩
    rcases hq with rfl | rfl
    · exact Or.inl hp.2.2.1
    · exact Or.inr hp.2.2.1
  · obtain ⟨q, hq, h⟩ : ∃ q, (q = 39 ∨ q = 34) ∧ contains l [92, 120, 48, 48, q] = true := by rcases h with h | h <;> exact ⟨_, by simp, h⟩
    obtain ⟨p, hp⟩ := (contains_iff _ _ _).1 h
    simp only [occ_cons] at hp
    refine ⟨p + 1 + 1 + 1 + 1, lt hp.2.2.2.2.1, ?_, Or.inr (Or.inr ⟨by omega, hp.1, hp.2.1, hp.2.2.1, hp.2.2.2.1⟩)⟩
    rcases hq with rfl | rfl
    · exact Or.inl hp.2.2.2.2.1
    · exact Or.inr hp.2.2.2.2.1

/-- No hit at any place: metLineEnd answers false. -/
theorem met_none {l : List UInt8} (h : ∀ i, i < l.length → ¬ hit l i) : met l = false := by
  cases hm : met l
  · rfl
  · obtain ⟨i, hi, hh⟩ := met_hit hm
    exact absurd hh (h i hi)

end Go.Proofs.Qxb6603769a.Plain
