/-
  dtb1IsFlagByte and dtb1ModelDirective, walked.
-/
import Derived.Test.Qxb6601384aDoorRead
namespace Go.Proofs.Qxb6601384aDoor
open Go.Shelf Go.RowKit Plain
set_option linter.unusedVariables false

set_option maxHeartbeats 2000000 in
theorem flagByte_any (x : UInt8) (w : World) :
    Calls Tryd.prog 13 #[.int .u8 x.toNat] w fun e w' => e = .returned (.bool (isFlag x)) ∧ w' = w := by
  have e : ∀ n : UInt8, ((x.toNat : Int) == (n.toNat : Int)) = (x == n) := fun n => by
    rw [Bool.eq_iff_iff, beq_iff_eq, beq_iff_eq, ← UInt8.toNat_inj]; omega
  have e1 := e 45; have e2 := e 95; have e3 := e 48; have e4 := e 94; have e5 := e 35
  have f : isFlag x = (((x.toNat : Int) == 45) || ((x.toNat : Int) == 95) || ((x.toNat : Int) == 48) || ((x.toNat : Int) == 94) || ((x.toNat : Int) == 35)) := by
    unfold isFlag
    rw [← e1, ← e2, ← e3, ← e4, ← e5]; rfl
  rw [f]
  clear e e1 e2 e3 e4 e5 f
  generalize (x.toNat : Int) = n
  cases h1 : (n == 45) <;> cases h2 : (n == 95) <;> cases h3 : (n == 48) <;> cases h4 : (n == 94) <;> cases h5 : (n == 35)
  all_goals
    go_enter Tryd.func13, Tryd.ntmps13
    go_wp2
    go_ret
    exact ⟨rfl, rfl⟩

theorem sat_piece (s : ByteArray) (f d : Nat) (hfd : f < d) (hd : d ≤ s.size) (hs : s.size ≤ 1048576) (he : Plain.Ends isFlag s.data.toList f) (hr : Run isDigit s.data.toList f d) (w : World) :
    Calls Tryd.prog 14 #[.string (s.extract f d)] w fun e w' => e = .returned (.int .i64 (wdOf s.data.toList f d)) ∧ Below w.heap.size w w' := by
  have hz := Lib.size_eq s
  have hl : ((s.data.toList.drop f).take (d - f)).length = d - f := by rw [List.length_take, List.length_drop]; omega
  have hsz : (s.extract f d).size ≤ 1048576 := by rw [Lib.size_eq, list_piece, hl]; omega
  obtain ⟨x, hx⟩ : ∃ x, s.data.toList[f]? = some x := ⟨_, List.getElem?_eq_getElem (show f < s.data.toList.length by omega)⟩
  have hd1 : 48 ≤ x.toNat ∧ x.toNat ≤ 57 := of_decide_eq_true (hr f x (Nat.le_refl _) hfd hx)
  have hnf : isFlag x = false := by
    rcases he with h | ⟨c, h1, h2⟩
    · omega
    · rw [hx] at h1; cases h1; exact h2
  have hx49 : 49 ≤ x.toNat := by
    by_cases e : x = 48
    · rw [e] at hnf; exact absurd hnf (by decide)
    · have : x.toNat ≠ 48 := fun h => e (UInt8.toNat_inj.1 h)
      omega
  obtain ⟨y, r, hyr⟩ : ∃ y r, (s.data.toList.drop f).take (d - f) = y :: r := by
    cases h : (s.data.toList.drop f).take (d - f) with
    | nil => rw [h] at hl; simp at hl; omega
    | cons y r => exact ⟨y, r, rfl⟩
  have hy : y = x := by
    have h1 : ((s.data.toList.drop f).take (d - f))[0]? = some x := by rw [piece_at (by omega)]; exact hx
    rw [hyr] at h1
    simpa using h1
  have c := sat_any (s.extract f d) y r (by rw [list_piece]; exact hyr) (by rw [list_piece]; exact piece_digits hr (by omega)) (by rw [hy]; exact hx49) hsz w
  rw [list_piece] at c
  rw [wdOf, if_pos hfd]
  exact c

theorem not_digit {x : UInt8} (h : isDigit x = false) : (¬ 48 ≤ x.toNat) ∨ (48 ≤ x.toNat ∧ ¬ x.toNat ≤ 57) := by
  have := of_decide_eq_false h
  omega

theorem byte_at (s : ByteArray) (p : Nat) (h : p < s.size) : ∃ x : UInt8, s[p]'h = x ∧ s.data.toList[p]? = some x := ⟨_, rfl, Lib.data_getElem? s p h⟩

def Three (s : ByteArray) (w : World) (g : Nat) (t7 t8 t9 t10 t11 : Value) (wx : World) : Prop :=
  (∃ f : Nat, f ≤ s.size ∧ s.size ≤ f + g ∧ t7 = .int .i64 0 ∧ t8 = .int .i64 f ∧ t9 = .int .i64 f ∧ t10 = .int .i64 0 ∧ t11 = .int .i64 f ∧ Run isFlag s.data.toList 0 f ∧ wx = w) ∨
  (∃ f d : Nat, f < d ∧ d ≤ s.size ∧ s.size ≤ d + g ∧ t7 = .int .i64 1 ∧ t8 = .int .i64 f ∧ t9 = .int .i64 d ∧ t10 = .int .i64 0 ∧ t11 = .int .i64 d ∧ (Run isFlag s.data.toList 0 f ∧ Plain.Ends isFlag s.data.toList f ∧ Run isDigit s.data.toList f d) ∧ wx = w) ∨
  (∃ f d p co : Nat, f ≤ d ∧ p = d + co ∧ p ≤ s.size ∧ s.size ≤ p + g ∧ t7 = .int .i64 2 ∧ t8 = .int .i64 f ∧ t9 = .int .i64 d ∧ t10 = .int .i64 co ∧ t11 = .int .i64 p ∧ (Run isFlag s.data.toList 0 f ∧ Plain.Ends isFlag s.data.toList f ∧ Run isDigit s.data.toList f d ∧ Plain.Ends isDigit s.data.toList d ∧ Run isColon s.data.toList d p) ∧ wx = w)

set_option maxHeartbeats 16000000 in
set_option maxRecDepth 100000 in
theorem model_any (s : ByteArray) (hs : s.size ≤ 1048576) (w : World) :
    Calls Tryd.prog 8 #[.string s] w fun e w' => ∃ fl wd c cv n, Ans s fl wd c cv n ∧ e = .returned (.tuple #[.string fl, .int .i64 wd, .int .i64 c, .int .u8 cv, .int .i64 n]) ∧ Below w.heap.size w w' := by
  go_enter Tryd.func8, Tryd.ntmps8
  go_wp2
  go_loopg [7, 8, 9, 10, 11] s.size (Three s w)
  case atStart => exact Or.inl ⟨0, by omega, by omega, rfl, rfl, rfl, rfl, rfl, Run.empty _ _ _, rfl⟩
  case round =>
    rcases hrel with ⟨f, hf, hg, rfl, rfl, rfl, rfl, rfl, hrun, rfl⟩ | ⟨f, d, hfd, hd, hg, rfl, rfl, rfl, rfl, rfl, hp, rfl⟩ | ⟨f, d, p, co, hfd, hpc, hps, hg, rfl, rfl, rfl, rfl, rfl, hp, rfl⟩
    · have HRF : Aside (Run isFlag s.data.toList 0 f) := hrun
      clear hrun
      by_cases hlt : f < s.size
      · obtain ⟨x, hx, hxl⟩ := byte_at s f hlt
        have HX : Aside (s.data.toList[f]? = some x) := hxl
        clear hxl
        cases hfl : isFlag x
        · have HEF : Aside (Plain.Ends isFlag s.data.toList f) := Or.inr ⟨x, HX.out, hfl⟩
          cases hdg : isDigit x
          · have HED : Aside (Plain.Ends isDigit s.data.toList f) := Or.inr ⟨x, HX.out, hdg⟩
            cases hco : isColon x
            · have HDIR : Aside (IsDir s.data.toList f f f) := ⟨Nat.le_refl _, Nat.le_refl _, by rw [← Lib.size_eq]; exact hf, HRF.out, HEF.out, Run.empty _ _ _, HED.out, Run.empty _ _ _, Or.inr ⟨x, HX.out, hco⟩⟩
              have hbz : ((x.toNat : Int) == 58) = false := beq_not (n := 58) (by simpa [isColon] using hco)
              rcases not_digit hdg with h0 | ⟨h0, h1⟩
              all_goals
                go_wp2_with (go_at_call 13; refine (flagByte_any _ _).mono ?_; rintro e w' ⟨rfl, hw⟩; rw [hw]; rw [hfl])
                refine bodyPost_ret (v := .tuple #[.string (s.extract 0 f), .int .i64 (-1), .int .i64 0, .int .u8 x.toNat, .int .i64 ((f : Int) + 1)]) (by simp [results, Tryd.results8, go_sem]) rfl ?_
                exact ⟨_, _, _, _, _, ⟨f, f, f, HDIR.out, rfl, by rw [wdOf, if_neg (by omega)], by omega, Or.inr ⟨x, HX.out, rfl, rfl⟩⟩, rfl, Below.refl _ _⟩
            · obtain ⟨g, rfl⟩ : ∃ g, gk = g + 1 := ⟨gk - 1, by omega⟩
              have hbz : ((x.toNat : Int) == 58) = true := beq_of (n := 58) (by simpa [isColon] using hco)
              have HN : Aside (Run isColon s.data.toList f (f + 1)) := (Run.empty _ _ _).succ HX.out hco
              rcases not_digit hdg with h0 | ⟨h0, h1⟩
              all_goals
                go_wp2_with (go_at_call 13; refine (flagByte_any _ _).mono ?_; rintro e w' ⟨rfl, hw⟩; rw [hw]; rw [hfl])
                go_roundg g
                case measure => omega
                case rel => exact  Or.inr (Or.inr ⟨f, f, f + 1, 1, by omega, by omega, by omega, by omega, rfl, rfl, rfl, by go_num, by go_num, ⟨HRF.out, HEF.out, Run.empty _ _ _, HED.out, HN.out⟩, rfl⟩)
          · obtain ⟨g, rfl⟩ : ∃ g, gk = g + 1 := ⟨gk - 1, by omega⟩
            obtain ⟨h0, h1⟩ : 48 ≤ x.toNat ∧ x.toNat ≤ 57 := of_decide_eq_true hdg
            have HN : Aside (Run isDigit s.data.toList f (f + 1)) := (Run.empty _ _ _).succ HX.out hdg
            go_wp2_with (go_at_call 13; refine (flagByte_any _ _).mono ?_; rintro e w' ⟨rfl, hw⟩; rw [hw]; rw [hfl])
            go_roundg g
            case measure => omega
            case rel => exact  Or.inr (Or.inl ⟨f, f + 1, by omega, by omega, by omega, rfl, rfl, by go_num, rfl, by go_num, ⟨HRF.out, HEF.out, HN.out⟩, rfl⟩)
        · obtain ⟨g, rfl⟩ : ∃ g, gk = g + 1 := ⟨gk - 1, by omega⟩
          have HN : Aside (Run isFlag s.data.toList 0 (f + 1)) := HRF.out.succ HX.out hfl
          go_wp2_with (go_at_call 13; refine (flagByte_any _ _).mono ?_; rintro e w' ⟨rfl, hw⟩; rw [hw]; rw [hfl])
          go_roundg g
          case measure => omega
          case rel => exact  Or.inl ⟨f + 1, by omega, by omega, rfl, by go_num, by go_num, rfl, by go_num, HN.out, rfl⟩
      · have HEND : Aside (f = s.data.toList.length) := by rw [← Lib.size_eq]; show f = s.size; omega
        have HDIR : Aside (IsDir s.data.toList f f f) := ⟨Nat.le_refl _, Nat.le_refl _, by rw [← Lib.size_eq]; exact hf, HRF.out, Or.inl HEND.out, Run.empty _ _ _, Or.inl HEND.out, Run.empty _ _ _, Or.inl HEND.out⟩
        go_wp2
        refine bodyPost_ret (v := .tuple #[.string (s.extract 0 f), .int .i64 (-1), .int .i64 0, .int .u8 0, .int .i64 (f : Int)]) (by simp [results, Tryd.results8, go_sem]) rfl ?_
        exact ⟨_, _, _, _, _, ⟨f, f, f, HDIR.out, rfl, by rw [wdOf, if_neg (by omega)], by omega, Or.inl ⟨by omega, rfl, rfl⟩⟩, rfl, Below.refl _ _⟩
    · have HP : Aside (Run isFlag s.data.toList 0 f ∧ Plain.Ends isFlag s.data.toList f ∧ Run isDigit s.data.toList f d) := hp
      clear hp
      by_cases hlt : d < s.size
      · obtain ⟨x, hx, hxl⟩ := byte_at s d hlt
        have HX : Aside (s.data.toList[d]? = some x) := hxl
        clear hxl
        cases hdg : isDigit x
        · have HED : Aside (Plain.Ends isDigit s.data.toList d) := Or.inr ⟨x, HX.out, hdg⟩
          cases hco : isColon x
          · have HDIR : Aside (IsDir s.data.toList f d d) := ⟨by omega, Nat.le_refl _, by rw [← Lib.size_eq]; exact hd, HP.out.1, HP.out.2.1, HP.out.2.2, HED.out, Run.empty _ _ _, Or.inr ⟨x, HX.out, hco⟩⟩
            have hbz : ((x.toNat : Int) == 58) = false := beq_not (n := 58) (by simpa [isColon] using hco)
            rcases not_digit hdg with h0 | ⟨h0, h1⟩
            all_goals
              obtain ⟨wd, hwd⟩ : ∃ wd, wd = wdOf s.data.toList f d := ⟨_, rfl⟩
              have HWD : Hid (wd = wdOf s.data.toList f d) := hwd
              have HSAT : Hid (∀ w, Calls Tryd.prog 14 #[.string (s.extract f d)] w fun e w' => e = .returned (.int .i64 wd) ∧ Below w.heap.size w w') := fun w => by rw [hwd]; exact sat_piece s f d (by omega) (by omega) hs HP.out.2.1 HP.out.2.2 w
              clear hwd
              go_wp2_with fail
              refine (HSAT.out _).mono ?_
              rintro e v ⟨rfl, hv⟩
              go_wp2
              refine bodyPost_ret (v := .tuple #[.string (s.extract 0 f), .int .i64 wd, .int .i64 0, .int .u8 x.toNat, .int .i64 ((d : Int) + 1)]) (by simp [results, Tryd.results8, go_sem]) rfl ?_
              exact ⟨_, _, _, _, _, ⟨f, d, d, HDIR.out, rfl, HWD.out, by omega, Or.inr ⟨x, HX.out, rfl, rfl⟩⟩, rfl, hv⟩
          · obtain ⟨g, rfl⟩ : ∃ g, gk = g + 1 := ⟨gk - 1, by omega⟩
            have hbz : ((x.toNat : Int) == 58) = true := beq_of (n := 58) (by simpa [isColon] using hco)
            have HN : Aside (Run isColon s.data.toList d (d + 1)) := (Run.empty _ _ _).succ HX.out hco
            rcases not_digit hdg with h0 | ⟨h0, h1⟩
            all_goals
              go_wp2
              go_roundg g
              case measure => omega
              case rel => exact  Or.inr (Or.inr ⟨f, d, d + 1, 1, by omega, by omega, by omega, by omega, rfl, rfl, rfl, by go_num, by go_num, ⟨HP.out.1, HP.out.2.1, HP.out.2.2, HED.out, HN.out⟩, rfl⟩)
        · obtain ⟨g, rfl⟩ : ∃ g, gk = g + 1 := ⟨gk - 1, by omega⟩
          obtain ⟨h0, h1⟩ : 48 ≤ x.toNat ∧ x.toNat ≤ 57 := of_decide_eq_true hdg
          have HN : Aside (Run isDigit s.data.toList f (d + 1)) := HP.out.2.2.succ HX.out hdg
          go_wp2
          go_roundg g
          case measure => omega
          case rel => exact  Or.inr (Or.inl ⟨f, d + 1, by omega, by omega, by omega, rfl, rfl, by go_num, rfl, by go_num, ⟨HP.out.1, HP.out.2.1, HN.out⟩, rfl⟩)
      · have HEND : Aside (d = s.data.toList.length) := by rw [← Lib.size_eq]; show d = s.size; omega
        have HDIR : Aside (IsDir s.data.toList f d d) := ⟨by omega, Nat.le_refl _, by rw [← Lib.size_eq]; exact hd, HP.out.1, HP.out.2.1, HP.out.2.2, Or.inl HEND.out, Run.empty _ _ _, Or.inl HEND.out⟩
        obtain ⟨wd, hwd⟩ : ∃ wd, wd = wdOf s.data.toList f d := ⟨_, rfl⟩
        have HWD : Hid (wd = wdOf s.data.toList f d) := hwd
        have HSAT : Hid (∀ w, Calls Tryd.prog 14 #[.string (s.extract f d)] w fun e w' => e = .returned (.int .i64 wd) ∧ Below w.heap.size w w') := fun w => by rw [hwd]; exact sat_piece s f d (by omega) (by omega) hs HP.out.2.1 HP.out.2.2 w
        clear hwd
        go_wp2_with fail
        refine (HSAT.out _).mono ?_
        rintro e v ⟨rfl, hv⟩
        go_wp2
        refine bodyPost_ret (v := .tuple #[.string (s.extract 0 f), .int .i64 wd, .int .i64 0, .int .u8 0, .int .i64 (d : Int)]) (by simp [results, Tryd.results8, go_sem]) rfl ?_
        exact ⟨_, _, _, _, _, ⟨f, d, d, HDIR.out, rfl, HWD.out, by omega, Or.inl ⟨by omega, rfl, rfl⟩⟩, rfl, hv⟩
    · have HP : Aside (Run isFlag s.data.toList 0 f ∧ Plain.Ends isFlag s.data.toList f ∧ Run isDigit s.data.toList f d ∧ Plain.Ends isDigit s.data.toList d ∧ Run isColon s.data.toList d p) := hp
      have HPC : Aside (p = d + co) := hpc
      have hdp : d ≤ p := by omega
      have hcb : co ≤ 1048576 := by omega
      clear hp hpc
      by_cases hlt : p < s.size
      · obtain ⟨x, hx, hxl⟩ := byte_at s p hlt
        have HX : Aside (s.data.toList[p]? = some x) := hxl
        clear hxl
        cases hco : isColon x
        · have HDIR : Aside (IsDir s.data.toList f d p) := ⟨hfd, hdp, by rw [← Lib.size_eq]; exact hps, HP.out.1, HP.out.2.1, HP.out.2.2.1, HP.out.2.2.2.1, HP.out.2.2.2.2, Or.inr ⟨x, HX.out, hco⟩⟩
          have hbz : ((x.toNat : Int) == 58) = false := beq_not (n := 58) (by simpa [isColon] using hco)
          by_cases hfd2 : f < d
          · obtain ⟨wd, hwd⟩ : ∃ wd, wd = wdOf s.data.toList f d := ⟨_, rfl⟩
            have HWD : Hid (wd = wdOf s.data.toList f d) := hwd
            have HSAT : Hid (∀ w, Calls Tryd.prog 14 #[.string (s.extract f d)] w fun e w' => e = .returned (.int .i64 wd) ∧ Below w.heap.size w w') := fun w => by rw [hwd]; exact sat_piece s f d (by omega) (by omega) hs HP.out.2.1 HP.out.2.2.1 w
            clear hwd
            go_wp2_with fail
            refine (HSAT.out _).mono ?_
            rintro e v ⟨rfl, hv⟩
            go_wp2
            refine bodyPost_ret (v := .tuple #[.string (s.extract 0 f), .int .i64 wd, .int .i64 co, .int .u8 x.toNat, .int .i64 ((p : Int) + 1)]) (by simp [results, Tryd.results8, go_sem]) rfl ?_
            exact ⟨_, _, _, _, _, ⟨f, d, p, HDIR.out, rfl, HWD.out, by have := HPC.out; omega, Or.inr ⟨x, HX.out, rfl, rfl⟩⟩, rfl, hv⟩
          · go_wp2
            refine bodyPost_ret (v := .tuple #[.string (s.extract 0 f), .int .i64 (-1), .int .i64 co, .int .u8 x.toNat, .int .i64 ((p : Int) + 1)]) (by simp [results, Tryd.results8, go_sem]) rfl ?_
            exact ⟨_, _, _, _, _, ⟨f, d, p, HDIR.out, rfl, by rw [wdOf, if_neg (by omega)], by have := HPC.out; omega, Or.inr ⟨x, HX.out, rfl, rfl⟩⟩, rfl, Below.refl _ _⟩
        · obtain ⟨g, rfl⟩ : ∃ g, gk = g + 1 := ⟨gk - 1, by omega⟩
          have hbz : ((x.toNat : Int) == 58) = true := beq_of (n := 58) (by simpa [isColon] using hco)
          have HN : Aside (Run isColon s.data.toList d (p + 1)) := HP.out.2.2.2.2.succ HX.out hco
          go_wp2
          go_roundg g
          case measure => omega
          case rel => exact  Or.inr (Or.inr ⟨f, d, p + 1, co + 1, by omega, by have := HPC.out; omega, by omega, by omega, rfl, rfl, rfl, by go_num, by go_num, ⟨HP.out.1, HP.out.2.1, HP.out.2.2.1, HP.out.2.2.2.1, HN.out⟩, rfl⟩)
      · have HEND : Aside (p = s.data.toList.length) := by rw [← Lib.size_eq]; show p = s.size; omega
        have HDIR : Aside (IsDir s.data.toList f d p) := ⟨hfd, hdp, by rw [← Lib.size_eq]; exact hps, HP.out.1, HP.out.2.1, HP.out.2.2.1, HP.out.2.2.2.1, HP.out.2.2.2.2, Or.inl HEND.out⟩
        by_cases hfd2 : f < d
        · obtain ⟨wd, hwd⟩ : ∃ wd, wd = wdOf s.data.toList f d := ⟨_, rfl⟩
          have HWD : Hid (wd = wdOf s.data.toList f d) := hwd
          have HSAT : Hid (∀ w, Calls Tryd.prog 14 #[.string (s.extract f d)] w fun e w' => e = .returned (.int .i64 wd) ∧ Below w.heap.size w w') := fun w => by rw [hwd]; exact sat_piece s f d (by omega) (by omega) hs HP.out.2.1 HP.out.2.2.1 w
          clear hwd
          go_wp2_with fail
          refine (HSAT.out _).mono ?_
          rintro e v ⟨rfl, hv⟩
          go_wp2
          refine bodyPost_ret (v := .tuple #[.string (s.extract 0 f), .int .i64 wd, .int .i64 co, .int .u8 0, .int .i64 (p : Int)]) (by simp [results, Tryd.results8, go_sem]) rfl ?_
          exact ⟨_, _, _, _, _, ⟨f, d, p, HDIR.out, rfl, HWD.out, by have := HPC.out; omega, Or.inl ⟨by omega, rfl, rfl⟩⟩, rfl, hv⟩
        · go_wp2
          refine bodyPost_ret (v := .tuple #[.string (s.extract 0 f), .int .i64 (-1), .int .i64 co, .int .u8 0, .int .i64 (p : Int)]) (by simp [results, Tryd.results8, go_sem]) rfl ?_
          exact ⟨_, _, _, _, _, ⟨f, d, p, HDIR.out, rfl, by rw [wdOf, if_neg (by omega)], by have := HPC.out; omega, Or.inl ⟨by omega, rfl, rfl⟩⟩, rfl, Below.refl _ _⟩

end Go.Proofs.Qxb6601384aDoor
