import Derived.Test.Qxb6603769aMet
namespace Go.Proofs.Qxb6603769a
open Go.Shelf Go.RowKit Go.Lib Plain
set_option linter.unusedSimpArgs false
set_option linter.unusedVariables false

/-- The model's test at one place, on the bytes it reads. -/
def hitB (i : Nat) (q p1 p2 p3 p4 : UInt8) : Bool :=
  (q == 39 || q == 34) &&
  ((decide (1 ≤ i) && (p1 == 10 || p1 == 13 || p1 == 0)) ||
   (decide (2 ≤ i) && (p2 == 92 && (p1 == 110 || p1 == 114))) ||
   (decide (4 ≤ i) && (p4 == 92 && (p3 == 120 && (p2 == 48 && p1 == 48)))))

theorem hit_iff {l : List UInt8} {i : Nat} {q p1 p2 p3 p4 : UInt8} (hq : l[i]? = some q) (h1 : 1 ≤ i → l[i - 1]? = some p1) (h2 : 2 ≤ i → l[i - 2]? = some p2) (h3 : 3 ≤ i → l[i - 3]? = some p3) (h4 : 4 ≤ i → l[i - 4]? = some p4) :
    Plain.hit l i ↔ hitB i q p1 p2 p3 p4 = true := by
  have e : ∀ {a b : UInt8}, (some a = some b) ↔ a = b := fun {a b} => ⟨Option.some.inj, fun h => by rw [h]⟩
  unfold Plain.hit hitB
  simp only [Bool.and_eq_true, Bool.or_eq_true, decide_eq_true_eq, beq_iff_eq]
  rw [hq, e, e]
  refine and_congr_right fun _ => ?_
  rw [or_assoc]
  refine or_congr (and_congr_right fun g => ?_) (or_congr (and_congr_right fun g => ?_) (and_congr_right fun g => ?_))
  · rw [h1 g, e, e, e, or_assoc]
  · rw [h1 (by omega), h2 g, e, e, e]
  · rw [h1 (by omega), h2 (by omega), h3 (by omega), h4 g, e, e, e, e]

theorem idx_fact (s : ByteArray) (i d : Nat) (x : UInt8) (hd : d ≤ i) (hi : i < s.size) (hs : s.size ≤ 1048576) (hx : s.data.toList[i - d]? = some x) (w : World) :
    (Instr.index 9 (.string s) (.int .i64 ((i : Int) - (d : Int)))).run Try.prog w = .ok (.int .u8 x.toNat) w := by
  have hlt : i - d < s.size := by omega
  have e : ((i : Int) - (d : Int)) = ((i - d : Nat) : Int) := by omega
  rw [Lib.data_getElem? s (i - d) hlt] at hx
  have hx := Option.some.inj hx
  rw [e]
  generalize i - d = k at *
  go_simp

theorem pre (s : ByteArray) (i d : Nat) (hi : i < s.size) : ∃ x : UInt8, d ≤ i → s.data.toList[i - d]? = some x := by
  by_cases h : d ≤ i
  · exact ⟨s[i - d]'(by omega), fun _ => Lib.data_getElem? s (i - d) (by omega)⟩
  · exact ⟨0, fun h' => absurd h' h⟩

theorem beq_of {x n : UInt8} (h : x = n) : ((x.toNat : Int) == (n.toNat : Int)) = true := by rw [h]; exact beq_self_eq_true _
theorem beq_not {x n : UInt8} (h : ¬ x = n) : ((x.toNat : Int) == (n.toNat : Int)) = false := by
  rw [beq_eq_false_iff_ne]
  intro e
  exact h (UInt8.toNat_inj.1 (by omega))
theorem bne_of {x n : UInt8} (h : x = n) : ((x.toNat : Int) != (n.toNat : Int)) = false := by rw [bne, beq_of h]; rfl
theorem bne_not {x n : UInt8} (h : ¬ x = n) : ((x.toNat : Int) != (n.toNat : Int)) = true := by rw [bne, beq_not h]; rfl

theorem step {l : List UInt8} {i : Nat} (h : ∀ k, k < i → ¬ Plain.hit l k) (hi : ¬ Plain.hit l i) : ∀ k, k < i + 1 → ¬ Plain.hit l k := fun k hk => by
  by_cases e : k = i
  · subst e; exact hi
  · exact h k (by omega)

set_option maxHeartbeats 4000000 in
set_option maxRecDepth 1000000 in
theorem quotes_any (s : ByteArray) (w : World) (hs : s.size ≤ 1048576) :
    Calls Try.prog 6 #[.string s] w fun e w' => e = .returned (.bool (met s.data.toList)) ∧ w' = w := by
  go_enter Try.func6, Try.ntmps6
  go_wp2
  go_loopg [3] s.size (fun g t3 wx => ∃ i : Nat, i ≤ s.size ∧ s.size ≤ i + g ∧ t3 = .int .i64 i ∧ (∀ k, k < i → ¬ Plain.hit s.data.toList k) ∧ wx = w)
  case atStart => exact ⟨0, by omega, by omega, rfl, fun k hk => absurd hk (Nat.not_lt_zero _), rfl⟩
  case round =>
    obtain ⟨i, hi, hig, rfl, hno, rfl⟩ := hrel
    have HN : Aside (∀ k, k < i → ¬ Plain.hit s.data.toList k) := hno
    clear hno
    by_cases hlt : i < s.size
    · obtain ⟨g, rfl⟩ : ∃ g, gk = g + 1 := ⟨gk - 1, by omega⟩
      obtain ⟨q, hq⟩ : ∃ q : UInt8, s[i]'hlt = q := ⟨_, rfl⟩
      have Hq : Aside (s.data.toList[i]? = some q) := by rw [← hq]; exact Lib.data_getElem? s i hlt
      obtain ⟨p1, hp1⟩ := pre s i 1 hlt
      obtain ⟨p2, hp2⟩ := pre s i 2 hlt
      obtain ⟨p3, hp3⟩ := pre s i 3 hlt
      obtain ⟨p4, hp4⟩ := pre s i 4 hlt
      have HI : Aside (Plain.hit s.data.toList i ↔ hitB i q p1 p2 p3 p4 = true) := hit_iff Hq.out hp1 hp2 hp3 hp4
      have D1 : Hid (1 ≤ i → ∀ w, (Instr.index 9 (.string s) (.int .i64 ((i : Int) - 1))).run Try.prog w = .ok (.int .u8 p1.toNat) w) := fun h w => idx_fact s i 1 p1 h hlt hs (hp1 h) w
      have D2 : Hid (2 ≤ i → ∀ w, (Instr.index 9 (.string s) (.int .i64 ((i : Int) - 2))).run Try.prog w = .ok (.int .u8 p2.toNat) w) := fun h w => idx_fact s i 2 p2 h hlt hs (hp2 h) w
      have D3 : Hid (3 ≤ i → ∀ w, (Instr.index 9 (.string s) (.int .i64 ((i : Int) - 3))).run Try.prog w = .ok (.int .u8 p3.toNat) w) := fun h w => idx_fact s i 3 p3 h hlt hs (hp3 h) w
      have D4 : Hid (4 ≤ i → ∀ w, (Instr.index 9 (.string s) (.int .i64 ((i : Int) - 4))).run Try.prog w = .ok (.int .u8 p4.toNat) w) := fun h w => idx_fact s i 4 p4 h hlt hs (hp4 h) w
      clear hp1 hp2 hp3 hp4 Hq
      by_cases h39 : q = 39
      · by_cases g1 : 1 ≤ i
        · by_cases h10 : p1 = 10
          · have hf : Aside (met s.data.toList = true) := hit_met (HI.out.2 (by simp [hitB, h39, h10, g1]))
            have bh39 : ((q.toNat : Int) != 39) = false := bne_of h39
            have bh10 : ((p1.toNat : Int) == 10) = true := beq_of h10
            have d1 := D1.out g1
            clear h39 h10
            clear HI D1 D2 D3 D4
            go_wp2
            go_ret
            exact ⟨by rw [hf.out]; rfl, rfl⟩
          · by_cases h13 : p1 = 13
            · have hf : Aside (met s.data.toList = true) := hit_met (HI.out.2 (by simp [hitB, h39, h10, h13, g1]))
              have bh39 : ((q.toNat : Int) != 39) = false := bne_of h39
              have bh10 : ((p1.toNat : Int) == 10) = false := beq_not h10
              have bh13 : ((p1.toNat : Int) == 13) = true := beq_of h13
              have d1 := D1.out g1
              clear h39 h10 h13
              clear HI D1 D2 D3 D4
              go_wp2
              go_ret
              exact ⟨by rw [hf.out]; rfl, rfl⟩
            · by_cases h0 : p1 = 0
              · have hf : Aside (met s.data.toList = true) := hit_met (HI.out.2 (by simp [hitB, h39, h10, h13, h0, g1]))
                have bh39 : ((q.toNat : Int) != 39) = false := bne_of h39
                have bh10 : ((p1.toNat : Int) == 10) = false := beq_not h10
                have bh13 : ((p1.toNat : Int) == 13) = false := beq_not h13
                have bh0 : ((p1.toNat : Int) == 0) = true := beq_of h0
                have d1 := D1.out g1
                clear h39 h10 h13 h0
                clear HI D1 D2 D3 D4
                go_wp2
                go_ret
                exact ⟨by rw [hf.out]; rfl, rfl⟩
              · by_cases g2 : 2 ≤ i
                · by_cases h92 : p2 = 92
                  · by_cases h110 : p1 = 110
                    · have hf : Aside (met s.data.toList = true) := hit_met (HI.out.2 (by simp [hitB, h39, h10, h13, h0, h92, h110, g1, g2]))
                      have bh39 : ((q.toNat : Int) != 39) = false := bne_of h39
                      have bh10 : ((p1.toNat : Int) == 10) = false := beq_not h10
                      have bh13 : ((p1.toNat : Int) == 13) = false := beq_not h13
                      have bh0 : ((p1.toNat : Int) == 0) = false := beq_not h0
                      have bh92 : ((p2.toNat : Int) == 92) = true := beq_of h92
                      have bh110 : ((p1.toNat : Int) == 110) = true := beq_of h110
                      have d1 := D1.out g1
                      have d2 := D2.out g2
                      clear h39 h10 h13 h0 h92 h110
                      clear HI D1 D2 D3 D4
                      go_wp2
                      go_ret
                      exact ⟨by rw [hf.out]; rfl, rfl⟩
                    · by_cases h114 : p1 = 114
                      · have hf : Aside (met s.data.toList = true) := hit_met (HI.out.2 (by simp [hitB, h39, h10, h13, h0, h92, h110, h114, g1, g2]))
                        have bh39 : ((q.toNat : Int) != 39) = false := bne_of h39
                        have bh10 : ((p1.toNat : Int) == 10) = false := beq_not h10
                        have bh13 : ((p1.toNat : Int) == 13) = false := beq_not h13
                        have bh0 : ((p1.toNat : Int) == 0) = false := beq_not h0
                        have bh92 : ((p2.toNat : Int) == 92) = true := beq_of h92
                        have bh110 : ((p1.toNat : Int) == 110) = false := beq_not h110
                        have bh114 : ((p1.toNat : Int) == 114) = true := beq_of h114
                        have d1 := D1.out g1
                        have d2 := D2.out g2
                        clear h39 h10 h13 h0 h92 h110 h114
                        clear HI D1 D2 D3 D4
                        go_wp2
                        go_ret
                        exact ⟨by rw [hf.out]; rfl, rfl⟩
                      · by_cases g4 : 4 ≤ i
                        · by_cases k92 : p4 = 92
                          · by_cases k120 : p3 = 120
                            · have k48 : ¬ p2 = 48 := by rw [h92]; decide
                              have HN2 : Aside (∀ k, k < i + 1 → ¬ Plain.hit s.data.toList k) := step HN.out fun hh => by have := HI.out.1 hh; revert this; simp [hitB, h39, h10, h13, h0, h92, h110, h114, k92, k120, k48, g1, g2, g4]
                              have bh39 : ((q.toNat : Int) != 39) = false := bne_of h39
                              have bh10 : ((p1.toNat : Int) == 10) = false := beq_not h10
                              have bh13 : ((p1.toNat : Int) == 13) = false := beq_not h13
                              have bh0 : ((p1.toNat : Int) == 0) = false := beq_not h0
                              have bh92 : ((p2.toNat : Int) == 92) = true := beq_of h92
                              have bh110 : ((p1.toNat : Int) == 110) = false := beq_not h110
                              have bh114 : ((p1.toNat : Int) == 114) = false := beq_not h114
                              have bk92 : ((p4.toNat : Int) == 92) = true := beq_of k92
                              have bk120 : ((p3.toNat : Int) == 120) = true := beq_of k120
                              have bk48 : ((p2.toNat : Int) == 48) = false := beq_not k48
                              have d1 := D1.out g1
                              have d2 := D2.out g2
                              have d3 := D3.out (by omega)
                              have d4 := D4.out g4
                              clear h39 h10 h13 h0 h92 h110 h114 k92 k120 k48
                              clear HI D1 D2 D3 D4
                              go_wp2
                              go_roundg g
                              case measure => omega
                              case rel => exact ⟨i + 1, by omega, by omega, by go_num, HN2.out, rfl⟩
                            · have HN2 : Aside (∀ k, k < i + 1 → ¬ Plain.hit s.data.toList k) := step HN.out fun hh => by have := HI.out.1 hh; revert this; simp [hitB, h39, h10, h13, h0, h92, h110, h114, k92, k120, g1, g2, g4]
                              have bh39 : ((q.toNat : Int) != 39) = false := bne_of h39
                              have bh10 : ((p1.toNat : Int) == 10) = false := beq_not h10
                              have bh13 : ((p1.toNat : Int) == 13) = false := beq_not h13
                              have bh0 : ((p1.toNat : Int) == 0) = false := beq_not h0
                              have bh92 : ((p2.toNat : Int) == 92) = true := beq_of h92
                              have bh110 : ((p1.toNat : Int) == 110) = false := beq_not h110
                              have bh114 : ((p1.toNat : Int) == 114) = false := beq_not h114
                              have bk92 : ((p4.toNat : Int) == 92) = true := beq_of k92
                              have bk120 : ((p3.toNat : Int) == 120) = false := beq_not k120
                              have d1 := D1.out g1
                              have d2 := D2.out g2
                              have d3 := D3.out (by omega)
                              have d4 := D4.out g4
                              clear h39 h10 h13 h0 h92 h110 h114 k92 k120
                              clear HI D1 D2 D3 D4
                              go_wp2
                              go_roundg g
                              case measure => omega
                              case rel => exact ⟨i + 1, by omega, by omega, by go_num, HN2.out, rfl⟩
                          · have HN2 : Aside (∀ k, k < i + 1 → ¬ Plain.hit s.data.toList k) := step HN.out fun hh => by have := HI.out.1 hh; revert this; simp [hitB, h39, h10, h13, h0, h92, h110, h114, k92, g1, g2, g4]
                            have bh39 : ((q.toNat : Int) != 39) = false := bne_of h39
                            have bh10 : ((p1.toNat : Int) == 10) = false := beq_not h10
                            have bh13 : ((p1.toNat : Int) == 13) = false := beq_not h13
                            have bh0 : ((p1.toNat : Int) == 0) = false := beq_not h0
                            have bh92 : ((p2.toNat : Int) == 92) = true := beq_of h92
                            have bh110 : ((p1.toNat : Int) == 110) = false := beq_not h110
                            have bh114 : ((p1.toNat : Int) == 114) = false := beq_not h114
                            have bk92 : ((p4.toNat : Int) == 92) = false := beq_not k92
                            have d1 := D1.out g1
                            have d2 := D2.out g2
                            have d3 := D3.out (by omega)
                            have d4 := D4.out g4
                            clear h39 h10 h13 h0 h92 h110 h114 k92
                            clear HI D1 D2 D3 D4
                            go_wp2
                            go_roundg g
                            case measure => omega
                            case rel => exact ⟨i + 1, by omega, by omega, by go_num, HN2.out, rfl⟩
                        · have HN2 : Aside (∀ k, k < i + 1 → ¬ Plain.hit s.data.toList k) := step HN.out fun hh => by have := HI.out.1 hh; revert this; simp [hitB, h39, h10, h13, h0, h92, h110, h114, g1, g2, g4]
                          have bh39 : ((q.toNat : Int) != 39) = false := bne_of h39
                          have bh10 : ((p1.toNat : Int) == 10) = false := beq_not h10
                          have bh13 : ((p1.toNat : Int) == 13) = false := beq_not h13
                          have bh0 : ((p1.toNat : Int) == 0) = false := beq_not h0
                          have bh92 : ((p2.toNat : Int) == 92) = true := beq_of h92
                          have bh110 : ((p1.toNat : Int) == 110) = false := beq_not h110
                          have bh114 : ((p1.toNat : Int) == 114) = false := beq_not h114
                          have d1 := D1.out g1
                          have d2 := D2.out g2
                          clear h39 h10 h13 h0 h92 h110 h114
                          clear HI D1 D2 D3 D4
                          go_wp2
                          go_roundg g
                          case measure => omega
                          case rel => exact ⟨i + 1, by omega, by omega, by go_num, HN2.out, rfl⟩
                  · by_cases g4 : 4 ≤ i
                    · by_cases k92 : p4 = 92
                      · by_cases k120 : p3 = 120
                        · by_cases k48 : p2 = 48
                          · by_cases k48b : p1 = 48
                            · have hf : Aside (met s.data.toList = true) := hit_met (HI.out.2 (by simp [hitB, h39, h10, h13, h0, h92, k92, k120, k48, k48b, g1, g2, g4]))
                              have bh39 : ((q.toNat : Int) != 39) = false := bne_of h39
                              have bh10 : ((p1.toNat : Int) == 10) = false := beq_not h10
                              have bh13 : ((p1.toNat : Int) == 13) = false := beq_not h13
                              have bh0 : ((p1.toNat : Int) == 0) = false := beq_not h0
                              have bh92 : ((p2.toNat : Int) == 92) = false := beq_not h92
                              have bk92 : ((p4.toNat : Int) == 92) = true := beq_of k92
                              have bk120 : ((p3.toNat : Int) == 120) = true := beq_of k120
                              have bk48 : ((p2.toNat : Int) == 48) = true := beq_of k48
                              have bk48b : ((p1.toNat : Int) == 48) = true := beq_of k48b
                              have d1 := D1.out g1
                              have d2 := D2.out g2
                              have d3 := D3.out (by omega)
                              have d4 := D4.out g4
                              clear h39 h10 h13 h0 h92 k92 k120 k48 k48b
                              clear HI D1 D2 D3 D4
                              go_wp2
                              go_ret
                              exact ⟨by rw [hf.out]; rfl, rfl⟩
                            · have HN2 : Aside (∀ k, k < i + 1 → ¬ Plain.hit s.data.toList k) := step HN.out fun hh => by have := HI.out.1 hh; revert this; simp [hitB, h39, h10, h13, h0, h92, k92, k120, k48, k48b, g1, g2, g4]
                              have bh39 : ((q.toNat : Int) != 39) = false := bne_of h39
                              have bh10 : ((p1.toNat : Int) == 10) = false := beq_not h10
                              have bh13 : ((p1.toNat : Int) == 13) = false := beq_not h13
                              have bh0 : ((p1.toNat : Int) == 0) = false := beq_not h0
                              have bh92 : ((p2.toNat : Int) == 92) = false := beq_not h92
                              have bk92 : ((p4.toNat : Int) == 92) = true := beq_of k92
                              have bk120 : ((p3.toNat : Int) == 120) = true := beq_of k120
                              have bk48 : ((p2.toNat : Int) == 48) = true := beq_of k48
                              have bk48b : ((p1.toNat : Int) == 48) = false := beq_not k48b
                              have d1 := D1.out g1
                              have d2 := D2.out g2
                              have d3 := D3.out (by omega)
                              have d4 := D4.out g4
                              clear h39 h10 h13 h0 h92 k92 k120 k48 k48b
                              clear HI D1 D2 D3 D4
                              go_wp2
                              go_roundg g
                              case measure => omega
                              case rel => exact ⟨i + 1, by omega, by omega, by go_num, HN2.out, rfl⟩
                          · have HN2 : Aside (∀ k, k < i + 1 → ¬ Plain.hit s.data.toList k) := step HN.out fun hh => by have := HI.out.1 hh; revert this; simp [hitB, h39, h10, h13, h0, h92, k92, k120, k48, g1, g2, g4]
                            have bh39 : ((q.toNat : Int) != 39) = false := bne_of h39
                            have bh10 : ((p1.toNat : Int) == 10) = false := beq_not h10
                            have bh13 : ((p1.toNat : Int) == 13) = false := beq_not h13
                            have bh0 : ((p1.toNat : Int) == 0) = false := beq_not h0
                            have bh92 : ((p2.toNat : Int) == 92) = false := beq_not h92
                            have bk92 : ((p4.toNat : Int) == 92) = true := beq_of k92
                            have bk120 : ((p3.toNat : Int) == 120) = true := beq_of k120
                            have bk48 : ((p2.toNat : Int) == 48) = false := beq_not k48
                            have d1 := D1.out g1
                            have d2 := D2.out g2
                            have d3 := D3.out (by omega)
                            have d4 := D4.out g4
                            clear h39 h10 h13 h0 h92 k92 k120 k48
                            clear HI D1 D2 D3 D4
                            go_wp2
                            go_roundg g
                            case measure => omega
                            case rel => exact ⟨i + 1, by omega, by omega, by go_num, HN2.out, rfl⟩
                        · have HN2 : Aside (∀ k, k < i + 1 → ¬ Plain.hit s.data.toList k) := step HN.out fun hh => by have := HI.out.1 hh; revert this; simp [hitB, h39, h10, h13, h0, h92, k92, k120, g1, g2, g4]
                          have bh39 : ((q.toNat : Int) != 39) = false := bne_of h39
                          have bh10 : ((p1.toNat : Int) == 10) = false := beq_not h10
                          have bh13 : ((p1.toNat : Int) == 13) = false := beq_not h13
                          have bh0 : ((p1.toNat : Int) == 0) = false := beq_not h0
                          have bh92 : ((p2.toNat : Int) == 92) = false := beq_not h92
                          have bk92 : ((p4.toNat : Int) == 92) = true := beq_of k92
                          have bk120 : ((p3.toNat : Int) == 120) = false := beq_not k120
                          have d1 := D1.out g1
                          have d2 := D2.out g2
                          have d3 := D3.out (by omega)
                          have d4 := D4.out g4
                          clear h39 h10 h13 h0 h92 k92 k120
                          clear HI D1 D2 D3 D4
                          go_wp2
                          go_roundg g
                          case measure => omega
                          case rel => exact ⟨i + 1, by omega, by omega, by go_num, HN2.out, rfl⟩
                      · have HN2 : Aside (∀ k, k < i + 1 → ¬ Plain.hit s.data.toList k) := step HN.out fun hh => by have := HI.out.1 hh; revert this; simp [hitB, h39, h10, h13, h0, h92, k92, g1, g2, g4]
                        have bh39 : ((q.toNat : Int) != 39) = false := bne_of h39
                        have bh10 : ((p1.toNat : Int) == 10) = false := beq_not h10
                        have bh13 : ((p1.toNat : Int) == 13) = false := beq_not h13
                        have bh0 : ((p1.toNat : Int) == 0) = false := beq_not h0
                        have bh92 : ((p2.toNat : Int) == 92) = false := beq_not h92
                        have bk92 : ((p4.toNat : Int) == 92) = false := beq_not k92
                        have d1 := D1.out g1
                        have d2 := D2.out g2
                        have d3 := D3.out (by omega)
                        have d4 := D4.out g4
                        clear h39 h10 h13 h0 h92 k92
                        clear HI D1 D2 D3 D4
                        go_wp2
                        go_roundg g
                        case measure => omega
                        case rel => exact ⟨i + 1, by omega, by omega, by go_num, HN2.out, rfl⟩
                    · have HN2 : Aside (∀ k, k < i + 1 → ¬ Plain.hit s.data.toList k) := step HN.out fun hh => by have := HI.out.1 hh; revert this; simp [hitB, h39, h10, h13, h0, h92, g1, g2, g4]
                      have bh39 : ((q.toNat : Int) != 39) = false := bne_of h39
                      have bh10 : ((p1.toNat : Int) == 10) = false := beq_not h10
                      have bh13 : ((p1.toNat : Int) == 13) = false := beq_not h13
                      have bh0 : ((p1.toNat : Int) == 0) = false := beq_not h0
                      have bh92 : ((p2.toNat : Int) == 92) = false := beq_not h92
                      have d1 := D1.out g1
                      have d2 := D2.out g2
                      clear h39 h10 h13 h0 h92
                      clear HI D1 D2 D3 D4
                      go_wp2
                      go_roundg g
                      case measure => omega
                      case rel => exact ⟨i + 1, by omega, by omega, by go_num, HN2.out, rfl⟩
                · have HN2 : Aside (∀ k, k < i + 1 → ¬ Plain.hit s.data.toList k) := step HN.out fun hh => by have := HI.out.1 hh; revert this; simp [hitB, h39, h10, h13, h0, g1, g2, show ¬ 4 ≤ i from by omega]
                  have bh39 : ((q.toNat : Int) != 39) = false := bne_of h39
                  have bh10 : ((p1.toNat : Int) == 10) = false := beq_not h10
                  have bh13 : ((p1.toNat : Int) == 13) = false := beq_not h13
                  have bh0 : ((p1.toNat : Int) == 0) = false := beq_not h0
                  have d1 := D1.out g1
                  clear h39 h10 h13 h0
                  clear HI D1 D2 D3 D4
                  go_wp2
                  go_roundg g
                  case measure => omega
                  case rel => exact ⟨i + 1, by omega, by omega, by go_num, HN2.out, rfl⟩
        · have HN2 : Aside (∀ k, k < i + 1 → ¬ Plain.hit s.data.toList k) := step HN.out fun hh => by have := HI.out.1 hh; revert this; simp [hitB, h39, g1, show ¬ 2 ≤ i from by omega, show ¬ 4 ≤ i from by omega]
          have bh39 : ((q.toNat : Int) != 39) = false := bne_of h39
          clear h39
          clear HI D1 D2 D3 D4
          go_wp2
          go_roundg g
          case measure => omega
          case rel => exact ⟨i + 1, by omega, by omega, by go_num, HN2.out, rfl⟩
      · by_cases h34 : q = 34
        · by_cases g1 : 1 ≤ i
          · by_cases h10 : p1 = 10
            · have hf : Aside (met s.data.toList = true) := hit_met (HI.out.2 (by simp [hitB, h39, h34, h10, g1]))
              have bh39 : ((q.toNat : Int) != 39) = true := bne_not h39
              have bh34 : ((q.toNat : Int) != 34) = false := bne_of h34
              have bh10 : ((p1.toNat : Int) == 10) = true := beq_of h10
              have d1 := D1.out g1
              clear h39 h34 h10
              clear HI D1 D2 D3 D4
              go_wp2
              go_ret
              exact ⟨by rw [hf.out]; rfl, rfl⟩
            · by_cases h13 : p1 = 13
              · have hf : Aside (met s.data.toList = true) := hit_met (HI.out.2 (by simp [hitB, h39, h34, h10, h13, g1]))
                have bh39 : ((q.toNat : Int) != 39) = true := bne_not h39
                have bh34 : ((q.toNat : Int) != 34) = false := bne_of h34
                have bh10 : ((p1.toNat : Int) == 10) = false := beq_not h10
                have bh13 : ((p1.toNat : Int) == 13) = true := beq_of h13
                have d1 := D1.out g1
                clear h39 h34 h10 h13
                clear HI D1 D2 D3 D4
                go_wp2
                go_ret
                exact ⟨by rw [hf.out]; rfl, rfl⟩
              · by_cases h0 : p1 = 0
                · have hf : Aside (met s.data.toList = true) := hit_met (HI.out.2 (by simp [hitB, h39, h34, h10, h13, h0, g1]))
                  have bh39 : ((q.toNat : Int) != 39) = true := bne_not h39
                  have bh34 : ((q.toNat : Int) != 34) = false := bne_of h34
                  have bh10 : ((p1.toNat : Int) == 10) = false := beq_not h10
                  have bh13 : ((p1.toNat : Int) == 13) = false := beq_not h13
                  have bh0 : ((p1.toNat : Int) == 0) = true := beq_of h0
                  have d1 := D1.out g1
                  clear h39 h34 h10 h13 h0
                  clear HI D1 D2 D3 D4
                  go_wp2
                  go_ret
                  exact ⟨by rw [hf.out]; rfl, rfl⟩
                · by_cases g2 : 2 ≤ i
                  · by_cases h92 : p2 = 92
                    · by_cases h110 : p1 = 110
                      · have hf : Aside (met s.data.toList = true) := hit_met (HI.out.2 (by simp [hitB, h39, h34, h10, h13, h0, h92, h110, g1, g2]))
                        have bh39 : ((q.toNat : Int) != 39) = true := bne_not h39
                        have bh34 : ((q.toNat : Int) != 34) = false := bne_of h34
                        have bh10 : ((p1.toNat : Int) == 10) = false := beq_not h10
                        have bh13 : ((p1.toNat : Int) == 13) = false := beq_not h13
                        have bh0 : ((p1.toNat : Int) == 0) = false := beq_not h0
                        have bh92 : ((p2.toNat : Int) == 92) = true := beq_of h92
                        have bh110 : ((p1.toNat : Int) == 110) = true := beq_of h110
                        have d1 := D1.out g1
                        have d2 := D2.out g2
                        clear h39 h34 h10 h13 h0 h92 h110
                        clear HI D1 D2 D3 D4
                        go_wp2
                        go_ret
                        exact ⟨by rw [hf.out]; rfl, rfl⟩
                      · by_cases h114 : p1 = 114
                        · have hf : Aside (met s.data.toList = true) := hit_met (HI.out.2 (by simp [hitB, h39, h34, h10, h13, h0, h92, h110, h114, g1, g2]))
                          have bh39 : ((q.toNat : Int) != 39) = true := bne_not h39
                          have bh34 : ((q.toNat : Int) != 34) = false := bne_of h34
                          have bh10 : ((p1.toNat : Int) == 10) = false := beq_not h10
                          have bh13 : ((p1.toNat : Int) == 13) = false := beq_not h13
                          have bh0 : ((p1.toNat : Int) == 0) = false := beq_not h0
                          have bh92 : ((p2.toNat : Int) == 92) = true := beq_of h92
                          have bh110 : ((p1.toNat : Int) == 110) = false := beq_not h110
                          have bh114 : ((p1.toNat : Int) == 114) = true := beq_of h114
                          have d1 := D1.out g1
                          have d2 := D2.out g2
                          clear h39 h34 h10 h13 h0 h92 h110 h114
                          clear HI D1 D2 D3 D4
                          go_wp2
                          go_ret
                          exact ⟨by rw [hf.out]; rfl, rfl⟩
                        · by_cases g4 : 4 ≤ i
                          · by_cases k92 : p4 = 92
                            · by_cases k120 : p3 = 120
                              · have k48 : ¬ p2 = 48 := by rw [h92]; decide
                                have HN2 : Aside (∀ k, k < i + 1 → ¬ Plain.hit s.data.toList k) := step HN.out fun hh => by have := HI.out.1 hh; revert this; simp [hitB, h39, h34, h10, h13, h0, h92, h110, h114, k92, k120, k48, g1, g2, g4]
                                have bh39 : ((q.toNat : Int) != 39) = true := bne_not h39
                                have bh34 : ((q.toNat : Int) != 34) = false := bne_of h34
                                have bh10 : ((p1.toNat : Int) == 10) = false := beq_not h10
                                have bh13 : ((p1.toNat : Int) == 13) = false := beq_not h13
                                have bh0 : ((p1.toNat : Int) == 0) = false := beq_not h0
                                have bh92 : ((p2.toNat : Int) == 92) = true := beq_of h92
                                have bh110 : ((p1.toNat : Int) == 110) = false := beq_not h110
                                have bh114 : ((p1.toNat : Int) == 114) = false := beq_not h114
                                have bk92 : ((p4.toNat : Int) == 92) = true := beq_of k92
                                have bk120 : ((p3.toNat : Int) == 120) = true := beq_of k120
                                have bk48 : ((p2.toNat : Int) == 48) = false := beq_not k48
                                have d1 := D1.out g1
                                have d2 := D2.out g2
                                have d3 := D3.out (by omega)
                                have d4 := D4.out g4
                                clear h39 h34 h10 h13 h0 h92 h110 h114 k92 k120 k48
                                clear HI D1 D2 D3 D4
                                go_wp2
                                go_roundg g
                                case measure => omega
                                case rel => exact ⟨i + 1, by omega, by omega, by go_num, HN2.out, rfl⟩
                              · have HN2 : Aside (∀ k, k < i + 1 → ¬ Plain.hit s.data.toList k) := step HN.out fun hh => by have := HI.out.1 hh; revert this; simp [hitB, h39, h34, h10, h13, h0, h92, h110, h114, k92, k120, g1, g2, g4]
                                have bh39 : ((q.toNat : Int) != 39) = true := bne_not h39
                                have bh34 : ((q.toNat : Int) != 34) = false := bne_of h34
                                have bh10 : ((p1.toNat : Int) == 10) = false := beq_not h10
                                have bh13 : ((p1.toNat : Int) == 13) = false := beq_not h13
                                have bh0 : ((p1.toNat : Int) == 0) = false := beq_not h0
                                have bh92 : ((p2.toNat : Int) == 92) = true := beq_of h92
                                have bh110 : ((p1.toNat : Int) == 110) = false := beq_not h110
                                have bh114 : ((p1.toNat : Int) == 114) = false := beq_not h114
                                have bk92 : ((p4.toNat : Int) == 92) = true := beq_of k92
                                have bk120 : ((p3.toNat : Int) == 120) = false := beq_not k120
                                have d1 := D1.out g1
                                have d2 := D2.out g2
                                have d3 := D3.out (by omega)
                                have d4 := D4.out g4
                                clear h39 h34 h10 h13 h0 h92 h110 h114 k92 k120
                                clear HI D1 D2 D3 D4
                                go_wp2
                                go_roundg g
                                case measure => omega
                                case rel => exact ⟨i + 1, by omega, by omega, by go_num, HN2.out, rfl⟩
                            · have HN2 : Aside (∀ k, k < i + 1 → ¬ Plain.hit s.data.toList k) := step HN.out fun hh => by have := HI.out.1 hh; revert this; simp [hitB, h39, h34, h10, h13, h0, h92, h110, h114, k92, g1, g2, g4]
                              have bh39 : ((q.toNat : Int) != 39) = true := bne_not h39
                              have bh34 : ((q.toNat : Int) != 34) = false := bne_of h34
                              have bh10 : ((p1.toNat : Int) == 10) = false := beq_not h10
                              have bh13 : ((p1.toNat : Int) == 13) = false := beq_not h13
                              have bh0 : ((p1.toNat : Int) == 0) = false := beq_not h0
                              have bh92 : ((p2.toNat : Int) == 92) = true := beq_of h92
                              have bh110 : ((p1.toNat : Int) == 110) = false := beq_not h110
                              have bh114 : ((p1.toNat : Int) == 114) = false := beq_not h114
                              have bk92 : ((p4.toNat : Int) == 92) = false := beq_not k92
                              have d1 := D1.out g1
                              have d2 := D2.out g2
                              have d3 := D3.out (by omega)
                              have d4 := D4.out g4
                              clear h39 h34 h10 h13 h0 h92 h110 h114 k92
                              clear HI D1 D2 D3 D4
                              go_wp2
                              go_roundg g
                              case measure => omega
                              case rel => exact ⟨i + 1, by omega, by omega, by go_num, HN2.out, rfl⟩
                          · have HN2 : Aside (∀ k, k < i + 1 → ¬ Plain.hit s.data.toList k) := step HN.out fun hh => by have := HI.out.1 hh; revert this; simp [hitB, h39, h34, h10, h13, h0, h92, h110, h114, g1, g2, g4]
                            have bh39 : ((q.toNat : Int) != 39) = true := bne_not h39
                            have bh34 : ((q.toNat : Int) != 34) = false := bne_of h34
                            have bh10 : ((p1.toNat : Int) == 10) = false := beq_not h10
                            have bh13 : ((p1.toNat : Int) == 13) = false := beq_not h13
                            have bh0 : ((p1.toNat : Int) == 0) = false := beq_not h0
                            have bh92 : ((p2.toNat : Int) == 92) = true := beq_of h92
                            have bh110 : ((p1.toNat : Int) == 110) = false := beq_not h110
                            have bh114 : ((p1.toNat : Int) == 114) = false := beq_not h114
                            have d1 := D1.out g1
                            have d2 := D2.out g2
                            clear h39 h34 h10 h13 h0 h92 h110 h114
                            clear HI D1 D2 D3 D4
                            go_wp2
                            go_roundg g
                            case measure => omega
                            case rel => exact ⟨i + 1, by omega, by omega, by go_num, HN2.out, rfl⟩
                    · by_cases g4 : 4 ≤ i
                      · by_cases k92 : p4 = 92
                        · by_cases k120 : p3 = 120
                          · by_cases k48 : p2 = 48
                            · by_cases k48b : p1 = 48
                              · have hf : Aside (met s.data.toList = true) := hit_met (HI.out.2 (by simp [hitB, h39, h34, h10, h13, h0, h92, k92, k120, k48, k48b, g1, g2, g4]))
                                have bh39 : ((q.toNat : Int) != 39) = true := bne_not h39
                                have bh34 : ((q.toNat : Int) != 34) = false := bne_of h34
                                have bh10 : ((p1.toNat : Int) == 10) = false := beq_not h10
                                have bh13 : ((p1.toNat : Int) == 13) = false := beq_not h13
                                have bh0 : ((p1.toNat : Int) == 0) = false := beq_not h0
                                have bh92 : ((p2.toNat : Int) == 92) = false := beq_not h92
                                have bk92 : ((p4.toNat : Int) == 92) = true := beq_of k92
                                have bk120 : ((p3.toNat : Int) == 120) = true := beq_of k120
                                have bk48 : ((p2.toNat : Int) == 48) = true := beq_of k48
                                have bk48b : ((p1.toNat : Int) == 48) = true := beq_of k48b
                                have d1 := D1.out g1
                                have d2 := D2.out g2
                                have d3 := D3.out (by omega)
                                have d4 := D4.out g4
                                clear h39 h34 h10 h13 h0 h92 k92 k120 k48 k48b
                                clear HI D1 D2 D3 D4
                                go_wp2
                                go_ret
                                exact ⟨by rw [hf.out]; rfl, rfl⟩
                              · have HN2 : Aside (∀ k, k < i + 1 → ¬ Plain.hit s.data.toList k) := step HN.out fun hh => by have := HI.out.1 hh; revert this; simp [hitB, h39, h34, h10, h13, h0, h92, k92, k120, k48, k48b, g1, g2, g4]
                                have bh39 : ((q.toNat : Int) != 39) = true := bne_not h39
                                have bh34 : ((q.toNat : Int) != 34) = false := bne_of h34
                                have bh10 : ((p1.toNat : Int) == 10) = false := beq_not h10
                                have bh13 : ((p1.toNat : Int) == 13) = false := beq_not h13
                                have bh0 : ((p1.toNat : Int) == 0) = false := beq_not h0
                                have bh92 : ((p2.toNat : Int) == 92) = false := beq_not h92
                                have bk92 : ((p4.toNat : Int) == 92) = true := beq_of k92
                                have bk120 : ((p3.toNat : Int) == 120) = true := beq_of k120
                                have bk48 : ((p2.toNat : Int) == 48) = true := beq_of k48
                                have bk48b : ((p1.toNat : Int) == 48) = false := beq_not k48b
                                have d1 := D1.out g1
                                have d2 := D2.out g2
                                have d3 := D3.out (by omega)
                                have d4 := D4.out g4
                                clear h39 h34 h10 h13 h0 h92 k92 k120 k48 k48b
                                clear HI D1 D2 D3 D4
                                go_wp2
                                go_roundg g
                                case measure => omega
                                case rel => exact ⟨i + 1, by omega, by omega, by go_num, HN2.out, rfl⟩
                            · have HN2 : Aside (∀ k, k < i + 1 → ¬ Plain.hit s.data.toList k) := step HN.out fun hh => by have := HI.out.1 hh; revert this; simp [hitB, h39, h34, h10, h13, h0, h92, k92, k120, k48, g1, g2, g4]
                              have bh39 : ((q.toNat : Int) != 39) = true := bne_not h39
                              have bh34 : ((q.toNat : Int) != 34) = false := bne_of h34
                              have bh10 : ((p1.toNat : Int) == 10) = false := beq_not h10
                              have bh13 : ((p1.toNat : Int) == 13) = false := beq_not h13
                              have bh0 : ((p1.toNat : Int) == 0) = false := beq_not h0
                              have bh92 : ((p2.toNat : Int) == 92) = false := beq_not h92
                              have bk92 : ((p4.toNat : Int) == 92) = true := beq_of k92
                              have bk120 : ((p3.toNat : Int) == 120) = true := beq_of k120
                              have bk48 : ((p2.toNat : Int) == 48) = false := beq_not k48
                              have d1 := D1.out g1
                              have d2 := D2.out g2
                              have d3 := D3.out (by omega)
                              have d4 := D4.out g4
                              clear h39 h34 h10 h13 h0 h92 k92 k120 k48
                              clear HI D1 D2 D3 D4
                              go_wp2
                              go_roundg g
                              case measure => omega
                              case rel => exact ⟨i + 1, by omega, by omega, by go_num, HN2.out, rfl⟩
                          · have HN2 : Aside (∀ k, k < i + 1 → ¬ Plain.hit s.data.toList k) := step HN.out fun hh => by have := HI.out.1 hh; revert this; simp [hitB, h39, h34, h10, h13, h0, h92, k92, k120, g1, g2, g4]
                            have bh39 : ((q.toNat : Int) != 39) = true := bne_not h39
                            have bh34 : ((q.toNat : Int) != 34) = false := bne_of h34
                            have bh10 : ((p1.toNat : Int) == 10) = false := beq_not h10
                            have bh13 : ((p1.toNat : Int) == 13) = false := beq_not h13
                            have bh0 : ((p1.toNat : Int) == 0) = false := beq_not h0
                            have bh92 : ((p2.toNat : Int) == 92) = false := beq_not h92
                            have bk92 : ((p4.toNat : Int) == 92) = true := beq_of k92
                            have bk120 : ((p3.toNat : Int) == 120) = false := beq_not k120
                            have d1 := D1.out g1
                            have d2 := D2.out g2
                            have d3 := D3.out (by omega)
                            have d4 := D4.out g4
                            clear h39 h34 h10 h13 h0 h92 k92 k120
                            clear HI D1 D2 D3 D4
                            go_wp2
                            go_roundg g
                            case measure => omega
                            case rel => exact ⟨i + 1, by omega, by omega, by go_num, HN2.out, rfl⟩
                        · have HN2 : Aside (∀ k, k < i + 1 → ¬ Plain.hit s.data.toList k) := step HN.out fun hh => by have := HI.out.1 hh; revert this; simp [hitB, h39, h34, h10, h13, h0, h92, k92, g1, g2, g4]
                          have bh39 : ((q.toNat : Int) != 39) = true := bne_not h39
                          have bh34 : ((q.toNat : Int) != 34) = false := bne_of h34
                          have bh10 : ((p1.toNat : Int) == 10) = false := beq_not h10
                          have bh13 : ((p1.toNat : Int) == 13) = false := beq_not h13
                          have bh0 : ((p1.toNat : Int) == 0) = false := beq_not h0
                          have bh92 : ((p2.toNat : Int) == 92) = false := beq_not h92
                          have bk92 : ((p4.toNat : Int) == 92) = false := beq_not k92
                          have d1 := D1.out g1
                          have d2 := D2.out g2
                          have d3 := D3.out (by omega)
                          have d4 := D4.out g4
                          clear h39 h34 h10 h13 h0 h92 k92
                          clear HI D1 D2 D3 D4
                          go_wp2
                          go_roundg g
                          case measure => omega
                          case rel => exact ⟨i + 1, by omega, by omega, by go_num, HN2.out, rfl⟩
                      · have HN2 : Aside (∀ k, k < i + 1 → ¬ Plain.hit s.data.toList k) := step HN.out fun hh => by have := HI.out.1 hh; revert this; simp [hitB, h39, h34, h10, h13, h0, h92, g1, g2, g4]
                        have bh39 : ((q.toNat : Int) != 39) = true := bne_not h39
                        have bh34 : ((q.toNat : Int) != 34) = false := bne_of h34
                        have bh10 : ((p1.toNat : Int) == 10) = false := beq_not h10
                        have bh13 : ((p1.toNat : Int) == 13) = false := beq_not h13
                        have bh0 : ((p1.toNat : Int) == 0) = false := beq_not h0
                        have bh92 : ((p2.toNat : Int) == 92) = false := beq_not h92
                        have d1 := D1.out g1
                        have d2 := D2.out g2
                        clear h39 h34 h10 h13 h0 h92
                        clear HI D1 D2 D3 D4
                        go_wp2
                        go_roundg g
                        case measure => omega
                        case rel => exact ⟨i + 1, by omega, by omega, by go_num, HN2.out, rfl⟩
                  · have HN2 : Aside (∀ k, k < i + 1 → ¬ Plain.hit s.data.toList k) := step HN.out fun hh => by have := HI.out.1 hh; revert this; simp [hitB, h39, h34, h10, h13, h0, g1, g2, show ¬ 4 ≤ i from by omega]
                    have bh39 : ((q.toNat : Int) != 39) = true := bne_not h39
                    have bh34 : ((q.toNat : Int) != 34) = false := bne_of h34
                    have bh10 : ((p1.toNat : Int) == 10) = false := beq_not h10
                    have bh13 : ((p1.toNat : Int) == 13) = false := beq_not h13
                    have bh0 : ((p1.toNat : Int) == 0) = false := beq_not h0
                    have d1 := D1.out g1
                    clear h39 h34 h10 h13 h0
                    clear HI D1 D2 D3 D4
                    go_wp2
                    go_roundg g
                    case measure => omega
                    case rel => exact ⟨i + 1, by omega, by omega, by go_num, HN2.out, rfl⟩
          · have HN2 : Aside (∀ k, k < i + 1 → ¬ Plain.hit s.data.toList k) := step HN.out fun hh => by have := HI.out.1 hh; revert this; simp [hitB, h39, h34, g1, show ¬ 2 ≤ i from by omega, show ¬ 4 ≤ i from by omega]
            have bh39 : ((q.toNat : Int) != 39) = true := bne_not h39
            have bh34 : ((q.toNat : Int) != 34) = false := bne_of h34
            clear h39 h34
            clear HI D1 D2 D3 D4
            go_wp2
            go_roundg g
            case measure => omega
            case rel => exact ⟨i + 1, by omega, by omega, by go_num, HN2.out, rfl⟩
        · have HN2 : Aside (∀ k, k < i + 1 → ¬ Plain.hit s.data.toList k) := step HN.out fun hh => by have := HI.out.1 hh; revert this; simp [hitB, h39, h34]
          have bh39 : ((q.toNat : Int) != 39) = true := bne_not h39
          have bh34 : ((q.toNat : Int) != 34) = true := bne_not h34
          clear h39 h34
          clear HI D1 D2 D3 D4
          go_wp2
          go_roundg g
          case measure => omega
          case rel => exact ⟨i + 1, by omega, by omega, by go_num, HN2.out, rfl⟩
    · have hf : Aside (met s.data.toList = false) := met_none fun k hk => HN.out k (by rw [← Lib.size_eq] at hk; omega)
      go_wp2
      go_ret
      exact ⟨by rw [hf.out]; rfl, rfl⟩
end Go.Proofs.Qxb6603769a
