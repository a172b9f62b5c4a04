/-
  THE PLAIN LAW of seat b6600664aD: no Go in sight. Bytes are lists.
-/
namespace Go.Proofs.Qxb6600664aDoor.Plain

/-- strconv.ParseUint(s, 8, 8), s not empty: 'none': no row of octal digits; 'some none': beyond 255; else the number. -/
def parse8 : Nat → List UInt8 → Option (Option Nat)
  | acc, [] => some (some acc)
  | acc, c :: r => if 48 ≤ c.toNat ∧ c.toNat ≤ 55 then (if 255 < acc * 8 + (c.toNat - 48) then some none else parse8 (acc * 8 + (c.toNat - 48)) r) else none

/-- Does an escape (a backslash and three octal digits of a byte) open the text? Which byte is it? -/
def escAt : List UInt8 → Option Nat
  | x :: a :: b :: c :: _ => if x = 92 then (match parse8 0 [a, b, c] with | some (some u) => some u | _ => none) else none
  | _ => none

def unescN : Nat → List UInt8 → List UInt8
  | 0, _ => []
  | _ + 1, [] => []
  | n + 1, x :: r => match escAt (x :: r) with
    | some u => UInt8.ofNat u :: unescN n (r.drop 3)
    | none => x :: unescN n r

/-- What unescape hands back. -/
def unesc (l : List UInt8) : List UInt8 := unescN l.length l

theorem unescN_more : ∀ (n m : Nat) (l : List UInt8), l.length ≤ n → l.length ≤ m → unescN n l = unescN m l
  | 0, 0, _, _, _ => rfl
  | 0, m + 1, [], _, _ => rfl
  | 0, _ + 1, _ :: _, h, _ => by simp at h
  | n + 1, 0, [], _, _ => rfl
  | _ + 1, 0, _ :: _, _, h => by simp at h
  | n + 1, m + 1, [], _, _ => rfl
  | n + 1, m + 1, x :: r, h1, h2 => by
    simp only [List.length_cons] at h1 h2
    unfold unescN
    cases escAt (x :: r) with
    | some u =>
      show _ :: unescN n (r.drop 3) = _ :: unescN m (r.drop 3)
      rw [unescN_more n m (r.drop 3) (by rw [List.length_drop]; omega) (by rw [List.length_drop]; omega)]
    | none =>
      show _ :: unescN n r = _ :: unescN m r
      rw [unescN_more n m r (by omega) (by omega)]

theorem unesc_nil : unesc [] = [] := rfl

theorem unesc_plain {x : UInt8} {r : List UInt8} (h : escAt (x :: r) = none) : unesc (x :: r) = x :: unesc r := by
  unfold unesc
  rw [List.length_cons, unescN, h]

theorem unesc_esc {x : UInt8} {r : List UInt8} {u : Nat} (h : escAt (x :: r) = some u) : unesc (x :: r) = UInt8.ofNat u :: unesc (r.drop 3) := by
  unfold unesc
  rw [List.length_cons, unescN, h]
  show _ :: unescN r.length (r.drop 3) = _
  rw [unescN_more r.length (r.drop 3).length (r.drop 3) (by rw [List.length_drop]; omega) (Nat.le_refl _)]

theorem escAt_some {x : UInt8} {r : List UInt8} {u : Nat} (h : escAt (x :: r) = some u) : x = 92 ∧ 3 ≤ r.length := by
  match r, h with
  | [], h => simp [escAt] at h
  | [_], h => simp [escAt] at h
  | [_, _], h => simp [escAt] at h
  | a :: b :: c :: t, h =>
    by_cases e : x = 92
    · exact ⟨e, by simp⟩
    · have h' : (if x = 92 then (match parse8 0 [a, b, c] with | some (some u) => some u | _ => none) else none) = some u := h
      rw [if_neg e] at h'; cases h'

/-- It shortens by three for each escape; an escape wants a backslash of its own. -/
theorem shrink : ∀ (n : Nat) (l : List UInt8), l.length ≤ n → ∃ k, l.length = (unesc l).length + 3 * k ∧ k ≤ l.count 92
  | _, [], _ => ⟨0, rfl, Nat.zero_le _⟩
  | 0, _ :: _, h => by simp at h
  | n + 1, x :: r, h => by
    simp only [List.length_cons] at h
    cases e : escAt (x :: r) with
    | none =>
      obtain ⟨k, h1, h2⟩ := shrink n r (by omega)
      rw [unesc_plain e]
      refine ⟨k, by simp only [List.length_cons]; omega, ?_⟩
      rw [List.count_cons]
      omega
    | some u =>
      obtain ⟨hx, hr⟩ := escAt_some e
      obtain ⟨k, h1, h2⟩ := shrink n (r.drop 3) (by rw [List.length_drop]; omega)
      rw [unesc_esc e]
      rw [List.length_drop] at h1
      refine ⟨k + 1, by simp only [List.length_cons]; omega, ?_⟩
      have h3 : (r.drop 3).count 92 ≤ r.count 92 := (List.drop_sublist 3 r).count_le 92
      rw [hx, List.count_cons_self]
      omega

theorem no_slash : ∀ (l : List UInt8), l.count 92 = 0 → unesc l = l
  | [], _ => rfl
  | x :: r, h => by
    have hx : x ≠ 92 := fun e => by rw [e, List.count_cons_self] at h; omega
    have hr : r.count 92 = 0 := by rw [List.count_cons] at h; omega
    have e : escAt (x :: r) = none := by
      cases e : escAt (x :: r) with
      | none => rfl
      | some u => exact absurd (escAt_some e).1 hx
    rw [unesc_plain e, no_slash r hr]

/-- The kernel's escape of one byte. -/
def escByte (c : UInt8) : List UInt8 := [92, UInt8.ofNat (48 + c.toNat / 64), UInt8.ofNat (48 + c.toNat / 8 % 8), UInt8.ofNat (48 + c.toNat % 8)]

def wants (every : Bool) (c : UInt8) : Bool := every || c == 32 || c == 9 || c == 10 || c == 92

def escape (every : Bool) (l : List UInt8) : List UInt8 := l.flatMap fun c => if wants every c then escByte c else [c]

theorem parse_all : ∀ i : Fin 256, parse8 0 [UInt8.ofNat (48 + i.val / 64), UInt8.ofNat (48 + i.val / 8 % 8), UInt8.ofNat (48 + i.val % 8)] = some (some i.val) := by decide +kernel

theorem esc_back (c : UInt8) (r : List UInt8) : escAt (escByte c ++ r) = some c.toNat := by
  have h := parse_all ⟨c.toNat, c.toNat_lt⟩
  simp only at h
  unfold escByte
  show (if (92 : UInt8) = 92 then (match parse8 0 [UInt8.ofNat (48 + c.toNat / 64), UInt8.ofNat (48 + c.toNat / 8 % 8), UInt8.ofNat (48 + c.toNat % 8)] with | some (some u) => some u | _ => none) else none) = _
  rw [if_pos rfl, h]

theorem undo (every : Bool) : ∀ l : List UInt8, unesc (escape every l) = l
  | [] => rfl
  | c :: r => by
    have ih := undo every r
    unfold escape at ih ⊢
    rw [List.flatMap_cons]
    cases hw : wants every c with
    | true =>
      rw [if_pos rfl]
      have e := esc_back c (r.flatMap fun c => if wants every c then escByte c else [c])
      refine (unesc_esc e).trans ?_
      show UInt8.ofNat c.toNat :: unesc (r.flatMap fun c => if wants every c then escByte c else [c]) = _
      rw [ih, UInt8.ofNat_toNat]
    | false =>
      rw [if_neg Bool.false_ne_true]
      have hc : c ≠ 92 := fun e => by rw [e] at hw; revert hw; unfold wants; simp
      have e : escAt (c :: (r.flatMap fun c => if wants every c then escByte c else [c])) = none := by
        cases e : escAt (c :: (r.flatMap fun c => if wants every c then escByte c else [c])) with
        | none => rfl
        | some u => exact absurd (escAt_some e).1 hc
      show unesc (c :: (r.flatMap fun c => if wants every c then escByte c else [c])) = _
      rw [unesc_plain e, ih]

theorem escape_le (every : Bool) : ∀ l : List UInt8, (escape every l).length ≤ 4 * l.length
  | [] => Nat.zero_le _
  | c :: r => by
    have ih := escape_le every r
    unfold escape at ih ⊢
    rw [List.flatMap_cons, List.length_append, List.length_cons]
    have : (if wants every c then escByte c else [c]).length ≤ 4 := by
      split
      · exact Nat.le_refl 4
      · exact (by decide : 1 ≤ 4)
    omega

end Go.Proofs.Qxb6600664aDoor.Plain
