/-
  THE PLAIN LAW of seat b6600542a: no Go in sight. Bytes are lists; 'IsCut l k' says where literalHead cuts.
-/
namespace Go.Proofs.Qxb6600542a.Plain

/-- The four bytes that path.Match reads otherwise than as themselves. -/
def isMeta (c : UInt8) : Bool := c == 42 || c == 63 || c == 91 || c == 92

/-- None of the first k bytes is a wildcard. -/
def NoMetaTo (l : List UInt8) (k : Nat) : Prop := ∀ (i : Nat) c, i < k → l[i]? = some c → isMeta c = false

/-- Byte m is the first wildcard. -/
def FirstMeta (l : List UInt8) (m : Nat) : Prop := NoMetaTo l m ∧ ∃ c, l[m]? = some c ∧ isMeta c = true

/-- The cut: at the end where no byte is a wildcard; else at the last slash past place 0 before the first wildcard, at 0 where there is none. -/
def IsCut (l : List UInt8) (k : Nat) : Prop :=
  (k = l.length ∧ NoMetaTo l l.length) ∨
  ∃ m, m < l.length ∧ FirstMeta l m ∧ k ≤ m ∧ (k = 0 ∨ l[k]? = some 47) ∧ ∀ j, k < j → j < m → l[j]? ≠ some 47

def hasMeta (l : List UInt8) : Bool := l.any isMeta

theorem meta_slash : isMeta 47 = false := by decide

theorem NoMetaTo.zero (l : List UInt8) : NoMetaTo l 0 := fun _ _ h => absurd h (Nat.not_lt_zero _)

theorem NoMetaTo.succ {l : List UInt8} {i : Nat} {x : UInt8} (h : NoMetaTo l i) (hx : l[i]? = some x) (hn : isMeta x = false) : NoMetaTo l (i + 1) := fun j b hj hb => by
  by_cases e : j = i
  · subst e; rw [hx] at hb; cases hb; exact hn
  · exact h j b (by omega) hb

theorem NoMetaTo.mono {l : List UInt8} {i j : Nat} (h : NoMetaTo l i) (hj : j ≤ i) : NoMetaTo l j := fun a b ha hb => h a b (by omega) hb

theorem IsCut.le {l : List UInt8} {k : Nat} (h : IsCut l k) : k ≤ l.length := by
  rcases h with ⟨h, _⟩ | ⟨m, h1, _, h2, _⟩ <;> omega

theorem firstMeta_unique {l : List UInt8} {a b : Nat} (ha : FirstMeta l a) (hb : FirstMeta l b) : a = b := by
  obtain ⟨na, ca, ha1, ha2⟩ := ha
  obtain ⟨nb, cb, hb1, hb2⟩ := hb
  rcases Nat.lt_trichotomy a b with h | h | h
  · have := nb a ca h ha1; rw [this] at ha2; cases ha2
  · exact h
  · have := na b cb h hb1; rw [this] at hb2; cases hb2

theorem IsCut.unique {l : List UInt8} {a b : Nat} (ha : IsCut l a) (hb : IsCut l b) : a = b := by
  rcases ha with ⟨ha, na⟩ | ⟨m, hm, fm, am, a0, aj⟩
  · rcases hb with ⟨hb, _⟩ | ⟨m', hm', fm', _⟩
    · omega
    · obtain ⟨c, h1, h2⟩ := fm'.2
      have := na m' c hm' h1
      rw [this] at h2; cases h2
  · rcases hb with ⟨hb, nb⟩ | ⟨m', hm', fm', bm, b0, bj⟩
    · obtain ⟨c, h1, h2⟩ := fm.2
      have := nb m c hm h1
      rw [this] at h2; cases h2
    · have e := firstMeta_unique fm fm'
      subst e
      have hslash : l[m]? ≠ some 47 := by
        obtain ⟨c, h1, h2⟩ := fm.2
        intro e; rw [e] at h1; cases h1; rw [meta_slash] at h2; cases h2
      rcases Nat.lt_trichotomy a b with h | h | h
      · rcases b0 with b0 | b0
        · omega
        · by_cases e : b = m
          · subst e; exact absurd b0 hslash
          · exact absurd b0 (aj b h (by omega))
      · exact h
      · rcases a0 with a0 | a0
        · omega
        · by_cases e : a = m
          · subst e; exact absurd a0 hslash
          · exact absurd a0 (bj a h (by omega))

/-- The head holds no wildcard. -/
theorem IsCut.head {l : List UInt8} {k : Nat} (h : IsCut l k) : NoMetaTo l k := by
  rcases h with ⟨rfl, h⟩ | ⟨m, _, fm, hk, _⟩
  · exact h
  · exact fm.1.mono hk

theorem IsCut.of_none {l : List UInt8} {k : Nat} (h : IsCut l k) (hn : NoMetaTo l l.length) : k = l.length :=
  h.unique (Or.inl ⟨rfl, hn⟩)

theorem take_get {l : List UInt8} {k i : Nat} {c : UInt8} (h : (l.take k)[i]? = some c) : i < k ∧ l[i]? = some c := by
  rw [List.getElem?_take] at h
  split at h
  · exact ⟨‹_›, h⟩
  · cases h

theorem noMeta_take {l : List UInt8} {k : Nat} (h : NoMetaTo l k) (n : Nat) : NoMetaTo (l.take k) n := fun i c _ hc => by
  obtain ⟨h1, h2⟩ := take_get hc
  exact h i c h1 h2

theorem hasMeta_false {l : List UInt8} (h : NoMetaTo l l.length) : hasMeta l = false := by
  unfold hasMeta
  rw [List.any_eq_false]
  intro x hx
  obtain ⟨i, hi, e⟩ := List.getElem_of_mem hx
  rw [h i x hi (by rw [List.getElem?_eq_getElem hi, e])]
  exact Bool.false_ne_true

theorem hasMeta_true {l : List UInt8} {i : Nat} {c : UInt8} (h : l[i]? = some c) (hc : isMeta c = true) : hasMeta l = true := by
  unfold hasMeta
  rw [List.any_eq_true]
  exact ⟨c, List.mem_of_getElem? h, hc⟩

theorem noMeta_of_false {l : List UInt8} (h : hasMeta l = false) : NoMetaTo l l.length := fun i c _ hc => by
  cases hm : isMeta c
  · rfl
  · rw [hasMeta_true hc hm] at h; cases h

/-- Where the first element ends: at the first slash past place 0, or at the end. -/
def ElemEnd (t : List UInt8) (j : Nat) : Prop := j ≤ t.length ∧ (j = t.length ∨ (1 ≤ j ∧ t[j]? = some 47)) ∧ ∀ i, 1 ≤ i → i < j → t[i]? ≠ some 47

theorem IsCut.elem {l : List UInt8} {k j : Nat} (h : IsCut l k) (hne : k < l.length) (hj : ElemEnd (l.drop k) j) : hasMeta ((l.drop k).take j) = true := by
  rcases h with ⟨h, _⟩ | ⟨m, hm, fm, hk, h0, hs⟩
  · omega
  · obtain ⟨c, h1, h2⟩ := fm.2
    have hslash : l[m]? ≠ some 47 := by
      intro e; rw [e] at h1; cases h1; rw [meta_slash] at h2; cases h2
    obtain ⟨hj1, hj2, hj3⟩ := hj
    have hmj : m - k < j := by
      rw [List.length_drop] at hj1 hj2
      rcases hj2 with e | ⟨e1, e2⟩
      · omega
      · rw [List.getElem?_drop] at e2
        by_cases hlt : m - k < j
        · exact hlt
        · by_cases e : k + j = m
          · rw [e] at e2; exact absurd e2 hslash
          · exact absurd e2 (hs (k + j) (by omega) (by omega))
    refine hasMeta_true (i := m - k) (c := c) ?_ h2
    rw [List.getElem?_take, if_pos hmj, List.getElem?_drop, show k + (m - k) = m from by omega, h1]

/-- The tail opens with a slash where the text does. -/
theorem IsCut.rooted {l : List UInt8} {k : Nat} (h : IsCut l k) (hne : k < l.length) (h0 : l[0]? = some 47) : (l.drop k)[0]? = some 47 := by
  rw [List.getElem?_drop, Nat.add_zero]
  rcases h with ⟨h, _⟩ | ⟨m, _, _, _, hk, _⟩
  · omega
  · rcases hk with rfl | hk
    · exact h0
    · exact hk

theorem append_left {l s : List UInt8} {i : Nat} (h : i < l.length) : (l ++ s)[i]? = l[i]? := List.getElem?_append_left h

/-- What is appended behind a wildcard moves no cut. -/
theorem IsCut.append {l : List UInt8} {k : Nat} (h : IsCut l k) (hm : hasMeta l = true) (s : List UInt8) : IsCut (l ++ s) k := by
  rcases h with ⟨_, h⟩ | ⟨m, hml, fm, hk, h0, hs⟩
  · rw [hasMeta_false h] at hm; cases hm
  · refine Or.inr ⟨m, by rw [List.length_append]; omega, ⟨fun i c hi hc => ?_, ?_⟩, hk, ?_, fun j hj1 hj2 => ?_⟩
    · rw [append_left (by omega)] at hc; exact fm.1 i c hi hc
    · obtain ⟨c, h1, h2⟩ := fm.2
      exact ⟨c, by rw [append_left hml]; exact h1, h2⟩
    · rcases h0 with h0 | h0
      · exact Or.inl h0
      · exact Or.inr (by rw [append_left (by omega)]; exact h0)
    · rw [append_left (by omega)]; exact hs j hj1 hj2

/-- A text without a wildcard, extended by one that opens with a slash, stays inside the head. -/
theorem IsCut.extend {l s : List UInt8} {k : Nat} (h : IsCut (l ++ s) k) (hn : hasMeta l = false) (h0 : s[0]? = some 47) : l.length ≤ k := by
  rcases h with ⟨h, _⟩ | ⟨m, hml, fm, hk, hk0, hs⟩
  · rw [List.length_append] at h; omega
  · obtain ⟨c, h1, h2⟩ := fm.2
    have hmid : (l ++ s)[l.length]? = some 47 := by
      rw [List.getElem?_append_right (Nat.le_refl _), Nat.sub_self]; exact h0
    have hm1 : ¬ m < l.length := fun hlt => by
      rw [append_left hlt] at h1
      have := noMeta_of_false hn m c hlt h1
      rw [this] at h2; cases h2
    have hm2 : m ≠ l.length := fun e => by
      rw [e, hmid] at h1; cases h1; rw [meta_slash] at h2; cases h2
    by_cases hlt : l.length ≤ k
    · exact hlt
    · exact absurd hmid (hs l.length (by omega) (by omega))

/-- The walk's two ways out, in the words of the loop: an element of the text that holds a wildcard .. -/
theorem IsCut.hit {l : List UInt8} {a b m : Nat} (hb : b ≤ l.length) (hno : NoMetaTo l a) (ha : a = 0 ∨ l[a]? = some 47)
    (hsl : ∀ j, a < j → j < b → l[j]? ≠ some 47) (ham : a ≤ m) (hmb : m < b) (hm : ∃ c, l[m]? = some c ∧ isMeta c = true) (hbef : ∀ i c, a ≤ i → i < m → l[i]? = some c → isMeta c = false) : IsCut l a := by
  refine Or.inr ⟨m, by omega, ⟨fun i c hi hc => ?_, hm⟩, ham, ha, fun j hj1 hj2 => hsl j hj1 (by omega)⟩
  by_cases h : i < a
  · exact hno i c h hc
  · exact hbef i c (by omega) hi hc

end Go.Proofs.Qxb6600542a.Plain
