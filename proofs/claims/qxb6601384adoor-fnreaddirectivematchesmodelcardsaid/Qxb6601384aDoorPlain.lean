/-
  THE PLAIN LAW of seat b6601384aD: no Go in sight. Bytes are lists.
-/
import Derived.Lib.AtoiAllCases
namespace Go.Proofs.Qxb6601384aDoor.Plain
open Go.Lib

def isFlag (c : UInt8) : Bool := c == 45 || c == 95 || c == 48 || c == 94 || c == 35
def isDigit (c : UInt8) : Bool := decide (48 ≤ c.toNat ∧ c.toNat ≤ 57)

/-- A run of bytes that pass a test. -/
def Run (p : UInt8 → Bool) (l : List UInt8) (a b : Nat) : Prop := ∀ (i : Nat) c, a ≤ i → i < b → l[i]? = some c → p c = true

theorem Run.empty (p : UInt8 → Bool) (l : List UInt8) (a : Nat) : Run p l a a := fun _ _ h1 h2 => absurd h2 (by omega)
theorem Run.succ {p : UInt8 → Bool} {l : List UInt8} {a b : Nat} {x : UInt8} (h : Run p l a b) (hx : l[b]? = some x) (hp : p x = true) : Run p l a (b + 1) := fun i c h1 h2 hc => by
  by_cases e : i = b
  · subst e; rw [hx] at hc; cases hc; exact hp
  · exact h i c h1 (by omega) hc

/-- The run ends here: at the text's end, or at a byte that fails the test. -/
def Ends (p : UInt8 → Bool) (l : List UInt8) (b : Nat) : Prop := b = l.length ∨ ∃ c, l[b]? = some c ∧ p c = false

theorem run_unique {p : UInt8 → Bool} {l : List UInt8} {a b c : Nat} (hb : Run p l a b) (hc : Run p l a c) (eb : Ends p l b) (ec : Ends p l c) (hab : a ≤ b) (hac : a ≤ c) (lb : b ≤ l.length) (lc : c ≤ l.length) : b = c := by
  rcases Nat.lt_trichotomy b c with h | h | h
  · rcases eb with eb | ⟨x, h1, h2⟩
    · omega
    · have := hc b x hab h h1; rw [this] at h2; cases h2
  · exact h
  · rcases ec with ec | ⟨x, h1, h2⟩
    · omega
    · have := hb c x hac h h1; rw [this] at h2; cases h2

def isColon (c : UInt8) : Bool := c == 58

/-- The parts of a directive: flags up to f, width digits up to d, colons up to p. -/
structure IsDir (l : List UInt8) (f d p : Nat) : Prop where
  fd : f ≤ d
  dp : d ≤ p
  pl : p ≤ l.length
  flags : Run isFlag l 0 f
  flagsEnd : Ends isFlag l f
  digits : Run isDigit l f d
  digitsEnd : Ends isDigit l d
  colons : Run isColon l d p
  colonsEnd : Ends isColon l p

theorem IsDir.unique {l : List UInt8} {f d p f' d' p' : Nat} (h : IsDir l f d p) (k : IsDir l f' d' p') : f = f' ∧ d = d' ∧ p = p' := by
  have h1 := h.fd; have h2 := h.dp; have h3 := h.pl; have k1 := k.fd; have k2 := k.dp; have k3 := k.pl
  have e1 := run_unique h.flags k.flags h.flagsEnd k.flagsEnd (by omega) (by omega) (by omega) (by omega)
  subst e1
  have e2 := run_unique h.digits k.digits h.digitsEnd k.digitsEnd (by omega) (by omega) (by omega) (by omega)
  subst e2
  exact ⟨rfl, rfl, run_unique h.colons k.colons h.colonsEnd k.colonsEnd (by omega) (by omega) (by omega) (by omega)⟩

/-- What the digits spell. -/
def val (acc : Nat) (l : List UInt8) : Nat := l.foldl (fun a c => a * 10 + (c.toNat - 48)) acc
theorem val_nil (acc : Nat) : val acc [] = acc := rfl
theorem val_cons (acc : Nat) (c : UInt8) (r : List UInt8) : val acc (c :: r) = val (acc * 10 + (c.toNat - 48)) r := by unfold val; rw [List.foldl_cons]

def top : Nat := 9223372036854775807

/-- The number, or the greatest int where it is greater. -/
def sat (l : List UInt8) : Int := if val 0 l ≤ top then (val 0 l : Int) else (top : Int)

def AllDigits (l : List UInt8) : Prop := ∀ c ∈ l, 48 ≤ c.toNat ∧ c.toNat ≤ 57

theorem val_ge : ∀ (l : List UInt8) (acc : Nat), acc * 10 ^ l.length ≤ val acc l
  | [], acc => by rw [val_nil]; simp
  | c :: r, acc => by
    have ih := val_ge r (acc * 10 + (c.toNat - 48))
    rw [val_cons, List.length_cons, Nat.pow_succ]
    refine Nat.le_trans ?_ ih
    have : acc * (10 ^ r.length * 10) = (acc * 10) * 10 ^ r.length := by
      rw [Nat.mul_comm (10 ^ r.length) 10, Nat.mul_assoc]
    rw [this]
    exact Nat.mul_le_mul_right _ (by omega)

theorem val_lt : ∀ (l : List UInt8) (acc : Nat), AllDigits l → val acc l < (acc + 1) * 10 ^ l.length
  | [], acc, _ => by rw [val_nil]; simp
  | c :: r, acc, h => by
    have hc := h c (List.mem_cons_self ..)
    have ih := val_lt r (acc * 10 + (c.toNat - 48)) fun x hx => h x (List.mem_cons_of_mem _ hx)
    rw [val_cons, List.length_cons, Nat.pow_succ]
    refine Nat.lt_of_lt_of_le ih ?_
    have : (acc + 1) * (10 ^ r.length * 10) = ((acc + 1) * 10) * 10 ^ r.length := by
      rw [Nat.mul_comm (10 ^ r.length) 10, Nat.mul_assoc]
    rw [this]
    exact Nat.mul_le_mul_right _ (by omega)

theorem val_append : ∀ (a b : List UInt8) (acc : Nat), val acc (a ++ b) = val (val acc a) b
  | [], _, _ => rfl
  | c :: r, b, acc => by rw [List.cons_append, val_cons, val_cons, val_append r b]

theorem val_take_le (l : List UInt8) (j : Nat) : val 0 (l.take j) ≤ val 0 l := by
  have e : val 0 l = val (val 0 (l.take j)) (l.drop j) := by rw [← val_append, List.take_append_drop]
  rw [e]
  refine Nat.le_trans ?_ (val_ge _ _)
  exact Nat.le_mul_of_pos_right _ (Nat.pow_pos (by decide))

theorem val_snoc (l : List UInt8) (x : UInt8) : val 0 (l ++ [x]) = val 0 l * 10 + (x.toNat - 48) := by
  rw [val_append, val_cons, val_nil]

/-- Two numerals of one length that part at a place: the greater digit tells. -/
theorem val_cmp {a b : List UInt8} {j : Nat} {x y : UInt8} (hl : a.length = b.length) (ha : AllDigits a) (he : a.take j = b.take j) (hx : a[j]? = some x) (hy : b[j]? = some y) (hxy : x.toNat < y.toNat) (hx0 : 48 ≤ x.toNat) : val 0 a < val 0 b := by
  obtain ⟨h1, e1⟩ := List.getElem?_eq_some_iff.1 hx
  obtain ⟨h2, e2⟩ := List.getElem?_eq_some_iff.1 hy
  have da : a = a.take j ++ x :: a.drop (j + 1) := by
    rw [← e1, ← List.drop_eq_getElem_cons h1, List.take_append_drop]
  have db : b = b.take j ++ y :: b.drop (j + 1) := by
    rw [← e2, ← List.drop_eq_getElem_cons h2, List.take_append_drop]
  have hd : AllDigits (a.drop (j + 1)) := fun c hc => ha c (List.mem_of_mem_drop hc)
  have h3 := val_lt (a.drop (j + 1)) (val 0 (a.take j) * 10 + (x.toNat - 48)) hd
  have h4 := val_ge (b.drop (j + 1)) (val 0 (b.take j) * 10 + (y.toNat - 48))
  have v1 : val 0 a = val (val 0 (a.take j) * 10 + (x.toNat - 48)) (a.drop (j + 1)) := by
    conv => lhs; rw [da]
    rw [val_append, val_cons]
  have v2 : val 0 b = val (val 0 (b.take j) * 10 + (y.toNat - 48)) (b.drop (j + 1)) := by
    conv => lhs; rw [db]
    rw [val_append, val_cons]
  rw [v1, v2]
  refine Nat.lt_of_lt_of_le h3 (Nat.le_trans ?_ h4)
  rw [List.length_drop, List.length_drop, hl, he]
  exact Nat.mul_le_mul_right _ (by omega)

def topDigits : List UInt8 := [57, 50, 50, 51, 51, 55, 50, 48, 51, 54, 56, 53, 52, 55, 55, 53, 56, 48, 55]
theorem val_top : val 0 topDigits = top := by decide +kernel
theorem top_all : AllDigits topDigits := by unfold AllDigits topDigits; decide

theorem sat_long {l : List UInt8} {x : UInt8} {r : List UInt8} (h : l = x :: r) (hx : 49 ≤ x.toNat) (hl : 19 < l.length) : sat l = (top : Int) := by
  subst h
  have h1 := val_ge r (0 * 10 + (x.toNat - 48))
  rw [List.length_cons] at hl
  have h2 : 10 ^ 19 ≤ 10 ^ r.length := Nat.pow_le_pow_right (by decide) (by omega)
  have h3 : 1 * 10 ^ r.length ≤ (0 * 10 + (x.toNat - 48)) * 10 ^ r.length := Nat.mul_le_mul_right _ (by omega)
  have h4 : (10 : Nat) ^ 19 = 10000000000000000000 := by decide
  have h5 : top < val 0 (x :: r) := by
    rw [val_cons]
    show 9223372036854775807 < _
    omega
  unfold sat
  rw [if_neg (by omega)]

theorem sat_fits {l : List UInt8} (h : val 0 l ≤ top) : sat l = (val 0 l : Int) := by unfold sat; rw [if_pos h]
theorem sat_over {l : List UInt8} (h : top < val 0 l) : sat l = (top : Int) := by unfold sat; rw [if_neg (by omega)]

theorem short_fits {l : List UInt8} (h : AllDigits l) (hl : l.length < 19) : val 0 l ≤ top := by
  have h1 := val_lt l 0 h
  have h2 : 10 ^ l.length ≤ 10 ^ 18 := Nat.pow_le_pow_right (by decide) (by omega)
  have h4 : (10 : Nat) ^ 18 = 1000000000000000000 := by decide
  show _ ≤ 9223372036854775807
  omega

/-! ### strconv.Atoi's own words at a row of digits -/

theorem parse_val : ∀ (l : List UInt8) (acc : Nat), acc < 18446744073709551616 → AllDigits l → (val acc l < 18446744073709551616 ∧ parseUint10 acc l = .ok (val acc l)) ∨ (18446744073709551616 ≤ val acc l ∧ parseUint10 acc l = .range)
  | [], acc, ha, _ => Or.inl ⟨ha, rfl⟩
  | c :: r, acc, ha, h => by
    have hc := h c (List.mem_cons_self ..)
    have hr : AllDigits r := fun x hx => h x (List.mem_cons_of_mem _ hx)
    rw [val_cons, parseUint10, if_pos hc]
    have hge : acc * 10 + (c.toNat - 48) ≤ val (acc * 10 + (c.toNat - 48)) r := Nat.le_trans (Nat.le_mul_of_pos_right _ (Nat.pow_pos (by decide))) (val_ge r _)
    by_cases h1 : 1844674407370955162 ≤ acc
    · rw [if_pos h1]
      exact Or.inr ⟨by omega, rfl⟩
    · rw [if_neg h1]
      by_cases h2 : 18446744073709551616 ≤ acc * 10 + (c.toNat - 48)
      · rw [if_pos h2]
        exact Or.inr ⟨by omega, rfl⟩
      · rw [if_neg h2]
        exact parse_val r _ (by omega) hr

/-- How Atoi ends at a row of digits. -/
theorem atoi_digits {l : List UInt8} (hne : l ≠ []) (h : AllDigits l) : (atoiAll l = .ok (sat l)) ∨ (atoiAll l = .range ∧ atoiSat l = sat l) := by
  obtain ⟨c, r, rfl⟩ : ∃ c r, l = c :: r := by
    cases l with
    | nil => exact absurd rfl hne
    | cons c r => exact ⟨c, r, rfl⟩
  have hc := h c (List.mem_cons_self ..)
  have hs : atoiSat (c :: r) = (top : Int) := by
    unfold atoiSat
    rw [if_neg (by
      simp only [List.head?_cons, Option.map_some, Option.some.injEq]
      omega)]
    rfl
  rw [atoiAll_plain c r (by omega) (by omega), hs]
  unfold parseMag
  rw [if_neg (by simp)]
  rcases parse_val (c :: r) 0 (by omega) h with ⟨h1, h2⟩ | ⟨h1, h2⟩
  · rw [h2]
    by_cases ht : val 0 (c :: r) ≤ top
    · refine Or.inl ?_
      rw [sat_fits ht]
      have ht' : ¬ 9223372036854775808 ≤ val 0 (c :: r) := by have : top = 9223372036854775807 := rfl; omega
      simp [signless, ht']
    · refine Or.inr ⟨?_, (sat_over (by omega)).symm⟩
      have ht' : 9223372036854775808 ≤ val 0 (c :: r) := by have : top = 9223372036854775807 := rfl; omega
      simp [signless, ht']
  · rw [h2]
    refine Or.inr ⟨rfl, (sat_over ?_).symm⟩
    show 9223372036854775807 < _
    omega

end Go.Proofs.Qxb6601384aDoor.Plain
