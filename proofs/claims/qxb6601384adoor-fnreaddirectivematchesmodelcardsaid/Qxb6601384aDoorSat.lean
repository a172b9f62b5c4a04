/-
  dtb1DecimalSaturated at a row of digits that opens with no zero, walked.
-/
import Derived.Test.Qxb6601384aDoorText
import Derived.Test.Qxb6601384aDoorPlain
import Derived.Deep.QuietTactic
import Derived.BigQuiet
import Derived.Lib.IndexBytes
namespace Go.Proofs.Qxb6601384aDoor
open Go.Shelf Go.RowKit Plain
set_option linter.unusedVariables false

theorem below_drewN (w : World) (n : Nat) : Below w.heap.size w (w.drewN n) := ⟨rfl, rfl, rfl, Nat.le_refl _, fun _ _ => rfl⟩

theorem beq_of {x n : UInt8} (h : x = n) : ((x.toNat : Int) == (n.toNat : Int)) = true := by rw [h]; exact beq_self_eq_true _
theorem beq_not {x n : UInt8} (h : ¬ x = n) : ((x.toNat : Int) == (n.toNat : Int)) = false := by
  rw [beq_eq_false_iff_ne]
  intro e
  exact h (UInt8.toNat_inj.1 (by omega))

theorem take_snoc (l : List UInt8) (i : Nat) (x : UInt8) (h : l[i]? = some x) : l.take (i + 1) = l.take i ++ [x] := by
  obtain ⟨hi, e⟩ := List.getElem?_eq_some_iff.1 h
  rw [List.take_succ_eq_append_getElem hi, e]

theorem topText_list : topText.data.toList = topDigits := rfl
theorem topText_size : topText.size = 19 := rfl
theorem top_int : (top : Int) = 9223372036854775807 := rfl

theorem idx_at (s : ByteArray) (j : Nat) (hj : j < s.size) (w : World) : (Instr.index 9 (.string s) (.int .i64 (j : Int))).run Tryd.prog w = .ok (.int .u8 ((s[j]'hj).toNat : Int)) w := by
  go_simp

set_option maxHeartbeats 4000000 in
set_option maxRecDepth 100000 in
theorem sat_any (t : ByteArray) (x : UInt8) (r : List UInt8) (ht : t.data.toList = x :: r) (hd : AllDigits t.data.toList) (hx : 49 ≤ x.toNat) (hs : t.size ≤ 1048576) (w : World) :
    Calls Tryd.prog 14 #[.string t] w fun e w' => e = .returned (.int .i64 (sat t.data.toList)) ∧ Below w.heap.size w w' := by
  have HD : Aside (AllDigits t.data.toList) := hd
  have HT : Aside (t.data.toList = x :: r) := ht
  have hn0 : 0 < t.size := by rw [Lib.size_eq, ht]; simp
  have hx0 : t[0]'hn0 = x := by
    have := Lib.data_getElem? t 0 hn0
    rw [ht] at this
    exact (Option.some.inj this).symm
  have hb48 : ((x.toNat : Int) == 48) = false := beq_eq_false_iff_ne.2 (by omega)
  have HZ : Aside (t.size = t.data.toList.length) := Lib.size_eq t
  obtain ⟨m, hm, hmz⟩ : ∃ m, m = topText ∧ m.size = 19 := ⟨topText, rfl, rfl⟩
  have HX : Hid (∀ w, Calls Tryd.prog 11 #[.int .i64 9223372036854775807] w fun e w' => e = .returned (.string m) ∧ Below w.heap.size w w') := fun w => by rw [hm]; exact text_any w
  have HM : Hid (m = topText) := hm
  clear hd ht hm
  by_cases h1 : t.size = 1
  · have e1 : ¬ ((0 : Int) < (t.size : Int) - 1) := by omega
    have e2 : ¬ ((19 : Int) < (t.size : Int)) := by omega
    have e3 : ((t.size : Int) == 19) = false := beq_eq_false_iff_ne.2 (by omega)
    have HF : Aside (val 0 t.data.toList ≤ top) := short_fits HD.out (by rw [← Lib.size_eq]; omega)
    clear h1
    go_enter Tryd.func14, Tryd.ntmps14
    go_wp2
    refine wp_loop_rounds 1 ?_
    rw [rounds_succ]
    go_wp2_with (go_at_call 11; refine (HX.out _).mono ?_; rintro e w1 ⟨rfl, hb1⟩)
    go_loopg [6, 7] t.size (fun g t6 t7 wx => ∃ (j n : Nat), j ≤ t.size ∧ t.size ≤ j + g ∧ t6 = .int .i64 n ∧ t7 = .int .i64 j ∧ (n : Int) ≤ 9223372036854775807 ∧ n = val 0 (t.data.toList.take j) ∧ wx = w1)
    case atStart => exact ⟨0, 0, by omega, by omega, rfl, rfl, by omega, rfl, rfl⟩
    case round =>
      obtain ⟨j, n, hj, hjg, rfl, rfl, hn, hv, rfl⟩ := hrel
      have HV : Hid (n = val 0 (t.data.toList.take j)) := hv
      clear hv
      by_cases hlt : j < t.size
      · obtain ⟨y, hy⟩ : ∃ y : UInt8, t[j]'hlt = y := ⟨_, rfl⟩
        have Hy : Aside (t.data.toList[j]? = some y) := by rw [← hy]; exact Lib.data_getElem? t j hlt
        obtain ⟨hy0, hy1⟩ := HD.out y (List.mem_of_getElem? Hy.out)
        obtain ⟨g, rfl⟩ : ∃ g, gk = g + 1 := ⟨gk - 1, by omega⟩
        have hstep : val 0 (t.data.toList.take (j + 1)) = n * 10 + (y.toNat - 48) := by rw [take_snoc _ j y Hy.out, val_snoc, HV.out]
        have hle : n * 10 + (y.toNat - 48) ≤ top := by rw [← hstep]; exact Nat.le_trans (val_take_le _ _) HF.out
        have hle2 : (n : Int) * 10 + ((y.toNat : Int) - 48) ≤ 9223372036854775807 := by rw [← top_int]; omega
        have HS : Hid (n * 10 + (y.toNat - 48) = val 0 (t.data.toList.take (j + 1))) := hstep.symm
        clear hstep hle
        go_wp2
        go_roundg g
        case measure => omega
        case rel => exact ⟨j + 1, n * 10 + (y.toNat - 48), by omega, by omega, by first | go_num | (congr 1; omega), by go_num, by omega, HS.out, rfl⟩
      · have HE : Hid (sat t.data.toList = (n : Int)) := by
          show sat t.data.toList = (n : Int)
          rw [sat_fits HF.out, HV.out, List.take_of_length_le (by rw [← Lib.size_eq]; omega)]
        go_wp2
        go_ret
        exact ⟨by rw [HE.out]; rfl, hb1⟩
  · have e1 : (0 : Int) < (t.size : Int) - 1 := by omega
    clear h1
    rcases Nat.lt_trichotomy t.size 19 with h19 | h19 | h19
    · have e2 : ¬ ((19 : Int) < (t.size : Int)) := by omega
      have e3 : ((t.size : Int) == 19) = false := beq_eq_false_iff_ne.2 (by omega)
      have HF : Aside (val 0 t.data.toList ≤ top) := short_fits HD.out (by rw [← Lib.size_eq]; omega)
      go_enter Tryd.func14, Tryd.ntmps14
      go_wp2
      refine wp_loop_rounds 1 ?_
      rw [rounds_succ]
      go_wp2_with (go_at_call 11; refine (HX.out _).mono ?_; rintro e w1 ⟨rfl, hb1⟩)
      go_loopg [6, 7] t.size (fun g t6 t7 wx => ∃ (j n : Nat), j ≤ t.size ∧ t.size ≤ j + g ∧ t6 = .int .i64 n ∧ t7 = .int .i64 j ∧ (n : Int) ≤ 9223372036854775807 ∧ n = val 0 (t.data.toList.take j) ∧ wx = w1)
      case atStart => exact ⟨0, 0, by omega, by omega, rfl, rfl, by omega, rfl, rfl⟩
      case round =>
        obtain ⟨j, n, hj, hjg, rfl, rfl, hn, hv, rfl⟩ := hrel
        have HV : Hid (n = val 0 (t.data.toList.take j)) := hv
        clear hv
        by_cases hlt : j < t.size
        · obtain ⟨y, hy⟩ : ∃ y : UInt8, t[j]'hlt = y := ⟨_, rfl⟩
          have Hy : Aside (t.data.toList[j]? = some y) := by rw [← hy]; exact Lib.data_getElem? t j hlt
          obtain ⟨hy0, hy1⟩ := HD.out y (List.mem_of_getElem? Hy.out)
          obtain ⟨g, rfl⟩ : ∃ g, gk = g + 1 := ⟨gk - 1, by omega⟩
          have hstep : val 0 (t.data.toList.take (j + 1)) = n * 10 + (y.toNat - 48) := by rw [take_snoc _ j y Hy.out, val_snoc, HV.out]
          have hle : n * 10 + (y.toNat - 48) ≤ top := by rw [← hstep]; exact Nat.le_trans (val_take_le _ _) HF.out
          have hle2 : (n : Int) * 10 + ((y.toNat : Int) - 48) ≤ 9223372036854775807 := by rw [← top_int]; omega
          have HS : Hid (n * 10 + (y.toNat - 48) = val 0 (t.data.toList.take (j + 1))) := hstep.symm
          clear hstep hle
          go_wp2
          go_roundg g
          case measure => omega
          case rel => exact ⟨j + 1, n * 10 + (y.toNat - 48), by omega, by omega, by first | go_num | (congr 1; omega), by go_num, by omega, HS.out, rfl⟩
        · have HE : Hid (sat t.data.toList = (n : Int)) := by
            show sat t.data.toList = (n : Int)
            rw [sat_fits HF.out, HV.out, List.take_of_length_le (by rw [← Lib.size_eq]; omega)]
          go_wp2
          go_ret
          exact ⟨by rw [HE.out]; rfl, hb1⟩
    · have e2 : ¬ ((19 : Int) < (t.size : Int)) := by omega
      have e3 : ((t.size : Int) == 19) = true := beq_iff_eq.2 (by omega)
      have H19 : Hid (t.size = 19) := h19
      have h19a : t.size ≤ 19 := by omega
      have h19b : 19 ≤ t.size := by omega
      clear h19
      go_enter Tryd.func14, Tryd.ntmps14
      go_wp2
      refine wp_loop_rounds 1 ?_
      rw [rounds_succ]
      go_wp2_with (go_at_call 11; refine (HX.out _).mono ?_; rintro e w1 ⟨rfl, hb1⟩)
      go_loopg [5] 19 (fun g t5 wx => ∃ j : Nat, j + g = 19 ∧ t5 = .int .i64 j ∧ t.data.toList.take j = topDigits.take j ∧ Below w.heap.size w wx)
      case atStart => exact ⟨0, by omega, rfl, rfl, hb1⟩
      case round =>
        obtain ⟨j, hjg, rfl, heq, hbel⟩ := hrel
        have HQ : Aside (t.data.toList.take j = topDigits.take j) := heq
        have HB : Aside (Below w.heap.size w wr) := hbel
        clear heq hbel
        cases gk with
        | zero =>
          have HF : Aside (val 0 t.data.toList ≤ top) := by
            have h := HQ.out
            rw [List.take_of_length_le (by rw [← Lib.size_eq]; omega), List.take_of_length_le (by show 19 ≤ j; omega)] at h
            rw [h, val_top]
            exact Nat.le_refl _
          obtain rfl : j = 19 := by omega
          go_wp2
          go_loopg [6, 7] t.size (fun g t6 t7 wx => ∃ (j n : Nat), j ≤ t.size ∧ t.size ≤ j + g ∧ t6 = .int .i64 n ∧ t7 = .int .i64 j ∧ (n : Int) ≤ 9223372036854775807 ∧ n = val 0 (t.data.toList.take j) ∧ wx = wr)
          case atStart => exact ⟨0, 0, by omega, by omega, rfl, rfl, by omega, rfl, rfl⟩
          case round =>
            obtain ⟨j, n, hj, hjg, rfl, rfl, hn, hv, rfl⟩ := hrel
            have HV : Hid (n = val 0 (t.data.toList.take j)) := hv
            clear hv
            by_cases hlt : j < t.size
            · obtain ⟨y, hy⟩ : ∃ y : UInt8, t[j]'hlt = y := ⟨_, rfl⟩
              have Hy : Aside (t.data.toList[j]? = some y) := by rw [← hy]; exact Lib.data_getElem? t j hlt
              obtain ⟨hy0, hy1⟩ := HD.out y (List.mem_of_getElem? Hy.out)
              obtain ⟨g, rfl⟩ : ∃ g, gk = g + 1 := ⟨gk - 1, by omega⟩
              have hstep : val 0 (t.data.toList.take (j + 1)) = n * 10 + (y.toNat - 48) := by rw [take_snoc _ j y Hy.out, val_snoc, HV.out]
              have hle : n * 10 + (y.toNat - 48) ≤ top := by rw [← hstep]; exact Nat.le_trans (val_take_le _ _) HF.out
              have hle2 : (n : Int) * 10 + ((y.toNat : Int) - 48) ≤ 9223372036854775807 := by rw [← top_int]; omega
              have HS : Hid (n * 10 + (y.toNat - 48) = val 0 (t.data.toList.take (j + 1))) := hstep.symm
              clear hstep hle
              go_wp2
              go_roundg g
              case measure => omega
              case rel => exact ⟨j + 1, n * 10 + (y.toNat - 48), by omega, by omega, by first | go_num | (congr 1; omega), by go_num, by omega, HS.out, rfl⟩
            · have HE : Hid (sat t.data.toList = (n : Int)) := by
                show sat t.data.toList = (n : Int)
                rw [sat_fits HF.out, HV.out, List.take_of_length_le (by rw [← Lib.size_eq]; omega)]
              go_wp2
              go_ret
              exact ⟨by rw [HE.out]; rfl, HB.out⟩
        | succ g =>
          have hlt : j < t.size := by omega
          have hltm : j < m.size := by rw [hmz]; omega
          have hit := idx_at t j hlt
          have him := idx_at m j hltm
          obtain ⟨a, ha⟩ : ∃ a : UInt8, t[j]'hlt = a := ⟨_, rfl⟩
          obtain ⟨b, hb⟩ : ∃ b : UInt8, m[j]'hltm = b := ⟨_, rfl⟩
          rw [ha] at hit
          rw [hb] at him
          have Ha : Aside (t.data.toList[j]? = some a) := by rw [← ha]; exact Lib.data_getElem? t j hlt
          have Hb : Aside (topDigits[j]? = some b) := by
            have h := Lib.data_getElem? m j hltm
            rw [hb, HM.out, topText_list] at h
            exact h
          clear ha hb
          obtain ⟨ha0, ha1⟩ := HD.out a (List.mem_of_getElem? Ha.out)
          obtain ⟨hb0, hb1'⟩ := top_all b (List.mem_of_getElem? Hb.out)
          by_cases hab : a = b
          · have hne : ((a.toNat : Int) != (b.toNat : Int)) = false := by rw [bne, beq_of hab]; rfl
            have HQ2 : Aside (t.data.toList.take (j + 1) = topDigits.take (j + 1)) := by
              show t.data.toList.take (j + 1) = topDigits.take (j + 1)
              rw [take_snoc _ j a Ha.out, take_snoc _ j b Hb.out, HQ.out, hab]
            clear hab
            go_wp2
            go_quiet (fail)
            have hb2 := HB.out.trans ((below_drewN wr nq).mono HB.out.size)
            generalize wr.drewN nq = w2 at *
            go_wp2
            go_roundg g
            case measure => omega
            case rel => exact ⟨j + 1, by omega, by go_num, HQ2.out, hb2⟩
          · have hne : ((a.toNat : Int) != (b.toNat : Int)) = true := by rw [bne, beq_not hab]; rfl
            have hll : t.data.toList.length = topDigits.length := by rw [← Lib.size_eq, H19.out]; rfl
            by_cases hgt : b.toNat < a.toNat
            · have HE : Hid (sat t.data.toList = (top : Int)) := sat_over (by rw [← val_top]; exact val_cmp hll.symm top_all HQ.out.symm Hb.out Ha.out hgt hb0)
              have hgt' : (b.toNat : Int) < (a.toNat : Int) := by omega
              clear hab hgt hll
              go_wp2
              go_quiet (fail)
              have hb2 := HB.out.trans ((below_drewN wr nq).mono HB.out.size)
              generalize wr.drewN nq = w2 at *
              go_wp2
              go_quiet (fail)
              have hb3 := hb2.trans ((below_drewN w2 nq).mono hb2.size)
              generalize w2.drewN nq = w3 at *
              go_wp2
              go_ret
              exact ⟨by rw [HE.out, top_int]; rfl, hb3⟩
            · have hlt' : a.toNat < b.toNat := by
                have : a.toNat ≠ b.toNat := fun e => hab (UInt8.toNat_inj.1 e)
                omega
              have HF : Aside (val 0 t.data.toList ≤ top) := by
                have h := val_cmp hll HD.out HQ.out Ha.out Hb.out hlt' ha0
                rw [val_top] at h
                exact Nat.le_of_lt h
              have hgt' : ¬ ((b.toNat : Int) < (a.toNat : Int)) := by omega
              clear hab hgt hll hlt'
              go_wp2
              go_quiet (fail)
              have hb2 := HB.out.trans ((below_drewN wr nq).mono HB.out.size)
              generalize wr.drewN nq = w2 at *
              go_wp2
              go_quiet (fail)
              have hb3 := hb2.trans ((below_drewN w2 nq).mono hb2.size)
              generalize w2.drewN nq = w3 at *
              go_wp2
              go_loopg [6, 7] t.size (fun g t6 t7 wx => ∃ (j n : Nat), j ≤ t.size ∧ t.size ≤ j + g ∧ t6 = .int .i64 n ∧ t7 = .int .i64 j ∧ (n : Int) ≤ 9223372036854775807 ∧ n = val 0 (t.data.toList.take j) ∧ wx = w3)
              case atStart => exact ⟨0, 0, by omega, by omega, rfl, rfl, by omega, rfl, rfl⟩
              case round =>
                obtain ⟨j, n, hj, hjg, rfl, rfl, hn, hv, rfl⟩ := hrel
                have HV : Hid (n = val 0 (t.data.toList.take j)) := hv
                clear hv
                by_cases hlt : j < t.size
                · obtain ⟨y, hy⟩ : ∃ y : UInt8, t[j]'hlt = y := ⟨_, rfl⟩
                  have Hy : Aside (t.data.toList[j]? = some y) := by rw [← hy]; exact Lib.data_getElem? t j hlt
                  obtain ⟨hy0, hy1⟩ := HD.out y (List.mem_of_getElem? Hy.out)
                  obtain ⟨g, rfl⟩ : ∃ g, gk = g + 1 := ⟨gk - 1, by omega⟩
                  have hstep : val 0 (t.data.toList.take (j + 1)) = n * 10 + (y.toNat - 48) := by rw [take_snoc _ j y Hy.out, val_snoc, HV.out]
                  have hle : n * 10 + (y.toNat - 48) ≤ top := by rw [← hstep]; exact Nat.le_trans (val_take_le _ _) HF.out
                  have hle2 : (n : Int) * 10 + ((y.toNat : Int) - 48) ≤ 9223372036854775807 := by rw [← top_int]; omega
                  have HS : Hid (n * 10 + (y.toNat - 48) = val 0 (t.data.toList.take (j + 1))) := hstep.symm
                  clear hstep hle
                  go_wp2
                  go_roundg g
                  case measure => omega
                  case rel => exact ⟨j + 1, n * 10 + (y.toNat - 48), by omega, by omega, by first | go_num | (congr 1; omega), by go_num, by omega, HS.out, rfl⟩
                · have HE : Hid (sat t.data.toList = (n : Int)) := by
                    show sat t.data.toList = (n : Int)
                    rw [sat_fits HF.out, HV.out, List.take_of_length_le (by rw [← Lib.size_eq]; omega)]
                  go_wp2
                  go_ret
                  exact ⟨by rw [HE.out]; rfl, hb3⟩
    · have HE : Hid (sat t.data.toList = (top : Int)) := sat_long HT.out hx (by rw [← Lib.size_eq]; omega)
      have e2 : (19 : Int) < (t.size : Int) := by omega
      go_enter Tryd.func14, Tryd.ntmps14
      go_wp2
      refine wp_loop_rounds 1 ?_
      rw [rounds_succ]
      go_wp2_with (go_at_call 11; refine (HX.out _).mono ?_; rintro e w1 ⟨rfl, hb1⟩)
      go_ret
      exact ⟨by rw [HE.out, top_int]; rfl, hb1⟩
end Go.Proofs.Qxb6601384aDoor
