import Derived.Test.Qxb6604680aErtL
namespace Go.Proofs.Qxb6604680a
open Go.RowKit Fl

theorem bytes14_any (a : Option Addr) (n cap : Nat) (w : World) (hn : n ≤ 9223372036854775807) :
    Calls Try.prog 14 #[.slice a n cap] w fun e w' => e = .returned (.bool (decide (n ≤ 1048576))) ∧ w' = w := by
  by_cases h : n ≤ 1048576
  · have e : decide (n ≤ 1048576) = true := decide_eq_true h
    rw [e]
    go_enter Try.func14, Try.ntmps14
    go_wp2
    go_ret
    exact ⟨rfl, rfl⟩
  · have e : decide (n ≤ 1048576) = false := decide_eq_false h
    rw [e]
    clear e
    go_enter Try.func14, Try.ntmps14
    go_wp2
    go_ret
    exact ⟨rfl, rfl⟩

set_option maxHeartbeats 400000 in
theorem walk5_other (a0 : Option Addr) (n cap : Nat) (w : World) (hn : n ≤ 9223372036854775807) (h : n ≠ 8192) :
    Calls Try.prog 5 #[.slice a0 n cap] w fun e w' => e = .returned (.bool true) ∧ Below w.heap.size w w' := by
  have h' : ((n : Int) == 8192) = false := by simp; omega
  by_cases hb : n ≤ 1048576
  · have e1 : decide (n ≤ 1048576) = true := decide_eq_true hb
    go_enter Try.func5, Try.ntmps5
    go_wp2_with (go_at_call 14; refine (bytes14_any _ _ _ _ hn).mono ?_; rintro e w' ⟨rfl, rfl⟩)
    go_ret
    exact ⟨rfl, Below.refl _ _⟩
  · have e1 : decide (n ≤ 1048576) = false := decide_eq_false hb
    go_enter Try.func5, Try.ntmps5
    go_wp2_with (go_at_call 14; refine (bytes14_any _ _ _ _ hn).mono ?_; rintro e w' ⟨rfl, rfl⟩)
    go_ret
    exact ⟨rfl, Below.refl _ _⟩

theorem hist_at {zs : List Int} {q r : Nat} (h : q < zs.length) (hr : zs.getD q 0 = (r : Int)) (k : Nat) : hist zs (q + 1) k = hist zs q k + if r = k then 1 else 0 := by
  rw [hist_succ zs q k h, hr]
  by_cases e : r = k
  · subst e; simp
  · rw [if_neg e, if_neg (by omega)]

theorem pow_51 (w : World) : Calls Try.prog 18 #[.int .i64 51] w fun e w' => e = .returned (.float .f64 (pw 51)) ∧ w' = w := pow_any 51 (by omega) w
theorem inf_add {z : Nat} (hz : z < inf) : Ieee.double.add inf z = some inf := by
  obtain ⟨m, i, h1, _⟩ := read_pos hz
  unfold Ieee.Format.add
  rw [h1, read_inf]
  rfl

section
attribute [local go_sem] fw_add fw_mul fw_sub lit_one lit_half lit_em lit_three lit_cln floatOfInt_nat fw_em fw_one fw_half fw_cln fw_pw

set_option maxHeartbeats 1000000 in
theorem walk5_main (b off n cap : Nat) (zs : List Int) (w : World) (hn1 : (n : Int) ≤ 8192) (hn2 : (8192 : Int) ≤ n) (hc : Row w b off n zs) (hz0 : ∀ i, i < n → 0 ≤ zs.getD i 0) (hl : zs.length = n) :
    Calls Try.prog 5 #[.slice (some ⟨b, off, none⟩) n cap] w fun e w' => e = .returned (.bool true) ∧ Below w.heap.size w w' := by
  have e1 : decide (n ≤ 1048576) = true := decide_eq_true (by omega)
  have hne := neq_false 3 .i64 (show (n : Int) = 8192 by omega)
  have HL : Hid (zs.length = n) := hl
  clear hl
  go_enter Try.func5, Try.ntmps5
  go_wp2_with (go_at_call 14; refine (bytes14_any _ _ _ _ (by omega)).mono ?_; rintro e w' ⟨rfl, hw⟩; have hw := hw.symm; subst hw)
  go_loopg [3] n (fun k j wr => ∃ q : Nat, q + k = n ∧ j = .int .i64 q ∧ (∀ i, i < q → zs.getD i 0 ≤ 52) ∧ wr = w)
  case atStart => exact ⟨0, by omega, rfl, fun i h => by omega, rfl⟩
  case round =>
    obtain ⟨q, hq, rfl, hle, hwr⟩ := hrel
    have hwr := hwr.symm
    subst hwr
    by_cases hlt : q < n
    · have hcell := hc q hlt
      generalize hzq : zs.getD q 0 = z at hcell
      have HZ : Hid (zs.getD q 0 = z) := hzq
      clear hzq
      have hd := lss_true 3 .i64 (show (q : Int) < 8192 by omega)
      by_cases h52 : z ≤ 52
      · have A : Aside (∀ i, i < q + 1 → zs.getD i 0 ≤ 52) := by
          intro i hi
          by_cases e : i = q
          · subst e; rw [HZ.out]; exact h52
          · exact hle i (by omega)
        clear hle
        go_wp2
        go_roundg (gk - 1)
        case measure => omega
        case rel => exact ⟨q + 1, by omega, by go_num, A.out, rfl⟩
      · clear hle
        go_wp2
        go_ret
        exact ⟨rfl, Below.refl _ _⟩
    · have A : Aside (∀ i, 0 ≤ zs.getD i 0 ∧ zs.getD i 0 ≤ 52) := by
        intro i
        by_cases hi : i < n
        · exact ⟨hz0 i hi, hle i (by omega)⟩
        · have hh := HL.out
          simp [List.getD, List.getElem?_eq_none (show zs.length ≤ i by omega)]
      clear hle hz0
      have hd := lss_false 3 .i64 (show (8192 : Int) ≤ (q : Int) by omega)
      have hbl : b < w.heap.size := lt_of_cell (hc 0 (by omega))
      go_wp2_with fail
      refine (copy_any b off n cap zs w (by omega) (by omega) hc).mono ?_
      rintro e w1 ⟨rfl, hB1, hR1⟩
      have hN1 : w.heap.size < w1.heap.size := lt_of_cell (hR1 0 (by omega))
      go_wp2_with fail
      refine (copy_any w.heap.size 0 n n zs w1 (by omega) (by omega) hR1).mono ?_
      rintro e w3 ⟨rfl, hB3, hR3⟩
      have hN3 : w1.heap.size < w3.heap.size := lt_of_cell (hR3 0 (by omega))
      go_wp2_with fail
      refine (newReg_any w1.heap.size 0 n n w3).mono ?_
      rintro e w4 ⟨rfl, hw4⟩
      have hB4 : Below w3.heap.size w3 w4 := by rw [hw4]; exact (Below.refl _ _).alloc (Nat.le_refl _) _
      have hc4 : w4.cell? ⟨w3.heap.size, 1, none⟩ = some (.slice (some ⟨w1.heap.size, 0, none⟩) n n) := by
        rw [hw4, World.cell?_alloc_new]; rfl
      have hN4 : w3.heap.size < w4.heap.size := lt_of_cell hc4
      have hR4 := hR3.below hB4 hN3
      clear hw4
      go_wp2_with fail
      refine (est16_any w3.heap.size w1.heap.size 0 n n zs w4 hc4 hR4 (fun i _ => A.out i) (Nat.le_of_eq HL.out.symm) (by omega) (by omega)).mono ?_
      rintro e w5 ⟨rfl, hB5⟩
      have hBf : Below w.heap.size w w5 := ((hB1.trans (hB3.mono (by omega))).trans (hB4.mono (by omega))).trans (hB5.mono (by omega))
      have hR5 : Row w5 w.heap.size 0 n zs := ((hR1.below hB3 (by omega)).below hB4 (by omega)).below hB5 (by omega)
      clear hB1 hB3 hB4 hB5 hR1 hR3 hR4 hc4 hN1 hN3 hN4 hc hbl
      go_wp2
      go_loopg [5, 6, 7, 8] n (fun k z f m j wx => ∃ q : Nat, q + k = n ∧ j = .int .i64 q ∧ z = .int .i64 (hist zs q 0 : Int) ∧ f = .int .i64 (hist zs q 52 : Int) ∧ m = .float .f64 (midw zs q) ∧ wx = w5)
      case atStart => exact ⟨0, by omega, rfl, by rw [hist_zero]; rfl, by rw [hist_zero]; rfl, by rw [midw_zero], rfl⟩
      case round =>
        obtain ⟨t, ht, rfl, rfl, rfl, rfl, hwx⟩ := hrel
        have hwx := hwx.symm
        subst hwx
        have hb0 := hist_le zs t 0
        have hb52 := hist_le zs t 52
        by_cases hlt2 : t < n
        · have hd2 := lss_true 3 .i64 (show (t : Int) < 8192 by omega)
          have hcell := hR5 t hlt2
          rw [Nat.zero_add] at hcell
          obtain ⟨r, hr⟩ : ∃ r : Nat, zs.getD t 0 = (r : Int) := ⟨(zs.getD t 0).toNat, by have := (A.out t).1; omega⟩
          have hr2 : r ≤ 52 := by have := (A.out t).2; omega
          rw [hr] at hcell
          have HR : Aside (zs.getD t 0 = (r : Int)) := hr
          clear hr hR5
          by_cases hr0 : r = 0
          · subst hr0
            go_wp2
            go_roundg (gk - 1)
            case measure => omega
            case rel =>
              have hT : t < zs.length := by rw [HL.out]; exact hlt2
              refine ⟨t + 1, by omega, by go_num, ?_, ?_, ?_, rfl⟩
              · rw [hist_at hT HR.out]; go_num
              · rw [hist_at hT HR.out]; go_num
              · rw [midw_skip (.inl (by rw [HR.out]; rfl))]
          · by_cases hr5 : r = 52
            · subst hr5
              clear hr0
              go_wp2
              go_roundg (gk - 1)
              case measure => omega
              case rel =>
                have hT : t < zs.length := by rw [HL.out]; exact hlt2
                refine ⟨t + 1, by omega, by go_num, ?_, ?_, ?_, rfl⟩
                · rw [hist_at hT HR.out]; go_num
                · rw [hist_at hT HR.out]; go_num
                · rw [midw_skip (.inr (by rw [HR.out]; rfl))]
            · have hmf : Fw (midw zs t) := ⟨Nat.lt_of_le_of_lt (midw_em (by omega)) em_lt⟩
              have t0 : ((r : Int) == 0) = false := by simp; omega
              have t5 : ((r : Int) == 52) = false := by simp; omega
              have HF : Aside (r ≠ 0 ∧ r ≠ 52) := ⟨hr0, hr5⟩
              clear hr0 hr5
              go_wp2_with (go_at_call 18; refine (pow_any r (by omega) _).mono ?_; rintro e w' ⟨rfl, hw⟩; have hw := hw.symm; subst hw)
              go_roundg (gk - 1)
              case measure => omega
              case rel =>
                have hT : t < zs.length := by rw [HL.out]; exact hlt2
                obtain ⟨f0, f5⟩ := HF.out
                refine ⟨t + 1, by omega, by go_num, ?_, ?_, ?_, rfl⟩
                · rw [hist_at hT HR.out, if_neg f0]; go_num
                · rw [hist_at hT HR.out, if_neg f5]; go_num
                · rw [midw_add (by rw [HR.out]; simp; omega), HR.out]; rfl
        · have hd2 := lss_false 3 .i64 (show (8192 : Int) ≤ (t : Int) by omega)
          have htn : t = n := by omega
          have hn8 : n = 8192 := by omega
          subst htn
          have hcl := fun h => close_final zs t hn8 HL.out A.out h
          have hmf : Fw (midw zs t) := ⟨Nat.lt_of_le_of_lt (midw_em (by omega)) em_lt⟩
          have h00 : hist zs t 0 ≤ 8192 := by omega
          have h52 : hist zs t 52 ≤ 8192 := by omega
          have q0 := bin_quo 37 (div_em h00)
          have q52 := bin_quo 37 (div_em h52)
          have hs1 : Sw (qw (hist zs t 52)) one := by have h := qw_mono h52; rw [qw_top] at h; exact ⟨h⟩
          have hsub := sub_qw h52
          have htu := tu_le (j := 8192 - hist zs t 52)
          have f1 : Fw (tu (8192 - hist zs t 52)) := ⟨Nat.lt_of_le_of_lt htu one_lt⟩
          have f2 : Fw (fmul em (tu (8192 - hist zs t 52))) := ⟨Nat.lt_of_le_of_lt (emtu_le _) em_lt⟩
          have f3 : Fw (fmul (fmul em (tu (8192 - hist zs t 52))) (pw 51)) := ⟨Nat.lt_of_le_of_lt (tpw_le _) em_lt⟩
          have o2 := ord_ge (Nat.le_of_lt f1.lt) (Nat.zero_le _)
          have hestE : Hid (hist zs t 0 = 8192 → est (hist zs t) = 0) := by
            intro h; unfold est; rw [if_pos h]
          clear htu hn8
          by_cases hc8 : hist zs t 0 < 8192
          · have hcl := hcl hc8
            have sb1 := (sg_bounds hc8)
            have o1 := ord_ge (Nat.le_of_lt (Nat.lt_of_le_of_lt sb1.2 sb_lt)) sb1.1
            have g1 : Fw (sg (hist zs t 0)) := ⟨Nat.lt_of_le_of_lt sb1.2 sb_lt⟩
            have g2 : Fw (fmul em (sg (hist zs t 0))) := ⟨Nat.lt_of_le_of_lt (emsg_le hc8) em2_lt'⟩
            have hm : midw zs t ≤ em := midw_em (by omega)
            have g3 : Fw (fadd (fmul em (sg (hist zs t 0))) (midw zs t)) := ⟨Nat.lt_of_le_of_lt (zw_in hc8 hm) em2em_lt⟩
            have g4 : Fw (fadd (fadd (fmul em (sg (hist zs t 0))) (midw zs t)) (fmul (fmul em (tu (8192 - hist zs t 52))) (pw 51))) := ⟨Nat.lt_of_le_of_lt (zw_le hc8 hm) zb2_lt⟩
            have g5 := bin_quo 37 (div_em2 (Nat.lt_of_le_of_lt (fmul_mono (Nat.le_refl cln) (zw_le hc8 hm)) czb2_lt))
            have HZW : Hid (zw (hist zs t) (midw zs t) = fadd (fadd (fmul em (sg (hist zs t 0))) (midw zs t)) (fmul (fmul em (tu (8192 - hist zs t 52))) (pw 51))) := by unfold Hid zw; rfl
            rw [HZW.out] at g5
            have HCL : Aside (∀ w, Calls Try.prog 21 #[.float .f64 (est (hist zs t)), .float .f64 (fdiv (fmul em em) (fmul cln (fadd (fadd (fmul em (sg (hist zs t 0))) (midw zs t)) (fmul (fmul em (tu (8192 - hist zs t 52))) (pw 51)))))] w fun e w' => e = .returned (.bool true) ∧ w' = w) := by
              intro w
              have := hcl w
              rw [HZW.out] at this
              exact this
            unfold em2 at g5
            clear sb1 hm hcl hestE
            generalize est (hist zs t) = ee at *
            go_wp2_with (first
              | (go_at_call 19; refine (zzsigma_any _ hc8 _).mono ?_; rintro e w' ⟨rfl, hw⟩; have hw := hw.symm; subst hw)
              | (go_at_call 20; refine (zztau_any _ (by omega) _).mono ?_; rintro e w' ⟨rfl, hw⟩; have hw := hw.symm; subst hw)
              | (go_at_call 18; refine (pow_51 _).mono ?_; rintro e w' ⟨rfl, hw⟩; have hw := hw.symm; subst hw)
              | (go_at_call 21; refine (HCL.out _).mono ?_; rintro e w' ⟨rfl, hw⟩; have hw := hw.symm; subst hw))
            go_ret
            exact ⟨rfl, hBf⟩
          · have hc9 : hist zs t 0 = 8192 := by omega
            have he := hestE.out hc9
            have q1 : binOp .quo 37 (.float .f64 (fint (hist zs t 0))) (.float .f64 em) = pure (.float .f64 one) := by rw [q0, hc9, qw_top]
            have o1 := ord_ge (Nat.le_refl inf) (Nat.le_of_lt one_lt)
            have g2 := arith_mul 37 mul_em_inf
            have g3 := arith_add 37 (inf_add hmf.lt)
            have g4 := arith_add 37 (inf_add f3.lt)
            have g5 := arith_mul 37 mul_cln_inf
            have g6 := bin_quo 37 div_em2_inf
            unfold em2 at g6
            rw [he]
            clear q0 hc9 he hestE hcl hc8
            go_wp2_with (first
              | (go_at_call 19; refine (zzsigma_one _).mono ?_; rintro e w' ⟨rfl, hw⟩; have hw := hw.symm; subst hw)
              | (go_at_call 20; refine (zztau_any _ (by omega) _).mono ?_; rintro e w' ⟨rfl, hw⟩; have hw := hw.symm; subst hw)
              | (go_at_call 18; refine (pow_51 _).mono ?_; rintro e w' ⟨rfl, hw⟩; have hw := hw.symm; subst hw)
              | (go_at_call 21; refine (close_same 0 (Nat.zero_le _) _).mono ?_; rintro e w' ⟨rfl, hw⟩; have hw := hw.symm; subst hw))
            go_ret
            exact ⟨rfl, hBf⟩
end
end Go.Proofs.Qxb6604680a
