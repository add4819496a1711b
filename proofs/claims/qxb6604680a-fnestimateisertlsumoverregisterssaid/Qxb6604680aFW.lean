import Derived.Test.Qxb6604680aEst
import Derived.Test.Qxb6604680aRows
import Derived.WalkKit
import Derived.WalkSpells
import Derived.WalkLawsBesides
import Derived.Deep.LoopGhost
namespace Go.Proofs.Qxb6604680a
open Go.RowKit Fl

theorem bin_add (t : TypeId) {x y : Nat} (hx : x < inf) (hy : y < inf) : binOp .add t (.float .f64 x) (.float .f64 y) = pure (.float .f64 (fadd x y)) := by
  have h : FloatKind.f64.format.add x y = some (fadd x y) := add_pos hx hy
  simp [binOp, Op.floatArith, h]
theorem bin_mul (t : TypeId) {x y : Nat} (hx : x < inf) (hy : y < inf) : binOp .mul t (.float .f64 x) (.float .f64 y) = pure (.float .f64 (fmul x y)) := by
  have h : FloatKind.f64.format.mul x y = some (fmul x y) := mul_pos hx hy
  simp [binOp, Op.floatArith, h]
theorem bin_sub (t : TypeId) {x y : Nat} (hx : x < inf) (hy : y ≤ x) : binOp .sub t (.float .f64 x) (.float .f64 y) = pure (.float .f64 (fsub x y)) := by
  have h : FloatKind.f64.format.sub x y = some (fsub x y) := sub_pos hx hy
  simp [binOp, Op.floatArith, h]
theorem bin_quo (t : TypeId) {x y r : Nat} (h : Ieee.double.div x y = some r) : binOp .quo t (.float .f64 x) (.float .f64 y) = pure (.float .f64 r) := by
  have h' : FloatKind.f64.format.div x y = some r := h
  simp [binOp, Op.floatArith, h']
theorem ord_eq {x y : Nat} (hx : x ≤ inf) (hy : y ≤ inf) : (FloatKind.f64.format.order x y == some .eq) = (x == y) := by
  have h : FloatKind.f64.format.order x y = some (compare x y) := order_pos hx hy
  rw [h]
  rcases Nat.lt_trichotomy x y with h | h | h
  · rw [Nat.compare_eq_lt.2 h]; have : (x == y) = false := by simp; omega
    rw [this]; rfl
  · subst h; simp
  · rw [Nat.compare_eq_gt.2 h]; have : (x == y) = false := by simp; omega
    rw [this]; rfl

theorem lit_one : (Value.float .f64 4607182418800017408) = .float .f64 one := rfl
theorem lit_half : (Value.float .f64 4602678819172646912) = .float .f64 half := rfl
theorem lit_em : (Value.float .f64 4665729213955833856) = .float .f64 em := rfl
theorem lit_three : (Value.float .f64 4613937818241073152) = .float .f64 three := rfl
theorem lit_cln : (Value.float .f64 4608922133940812271) = .float .f64 cln := rfl

section
attribute [local go_sem] bin_add bin_mul bin_sub lit_one lit_half lit_em lit_three lit_cln

theorem ord_eq_t {x y : Nat} (hx : x ≤ inf) (h : x = y) : (FloatKind.f64.format.order x y == some .eq) = true := by
  subst h; rw [ord_eq hx hx]; simp
theorem ord_eq_f {x y : Nat} (hx : x ≤ inf) (hy : y ≤ inf) (h : x ≠ y) : (FloatKind.f64.format.order x y == some .eq) = false := by
  rw [ord_eq hx hy]; simpa using h

theorem qw_lt_one {c : Nat} (h : c < 8192) : qw c < one := by
  have h1 := qw_mono (show c ≤ 8192 by omega)
  rw [qw_top] at h1
  have h2 := (val_qw (c := c) (by omega)).1
  have h3 := val_one8
  by_cases e : qw c = one
  · rw [e, h3] at h2
    have : 0 < U := by decide +kernel
    have := Nat.eq_of_mul_eq_mul_right this h2
    omega
  · omega

set_option maxHeartbeats 400000 in
theorem sigma_any (c : Nat) (h : c < 8192) (w : World) :
    Calls Try.prog 28 #[.float .f64 (qw c)] w fun e w' => e = .returned (.float .f64 (sg c)) ∧ w' = w := by
  have hq := (val_qw (c := c) (by omega)).2
  have h1 := one_lt
  have hlt := qw_lt_one h
  have hne : (FloatKind.f64.format.order (qw c) one == some .eq) = false := ord_eq_f (by omega) (by omega) (by omega)
  go_enter Try.func28, Try.ntmps28
  go_wp2
  go_loopg [0, 3, 4] 30 (fun k x s y wr => ∃ xx ss X Y S : Nat, x = .float .f64 xx ∧ s = .float .f64 ss ∧ y = .float .f64 Y ∧ sigC k X Y S = true ∧ xx ≤ X ∧ ss ≤ S ∧ qw c ≤ ss ∧ sigL k xx Y ss = sg c ∧ xx < inf ∧ wr = w)
  case atStart => exact ⟨qw c, qw c, qw 8191, one, qw 8191, rfl, rfl, rfl, sigC_top, qw_mono (by omega), qw_mono (by omega), Nat.le_refl _, rfl, hq, rfl⟩
  case round =>
    obtain ⟨x, s, X, Y, S, rfl, rfl, rfl, hC, hx, hs, h0, hR, hxi, rfl⟩ := hrel
    obtain ⟨g, hg, b1, b2, b3, b4, b5, k1, k2⟩ := sig_round hC hx hs h0
    subst hg
    have hi := fadd_le_inf s (fmul (fmul x x) Y)
    by_cases e : fadd s (fmul (fmul x x) Y) = s
    · have ht := ord_eq_t hi e
      have A : Aside (sigL (g + 1) x Y s = s ∧ sigL (g + 1) x Y s = sg c) := ⟨k1 e, hR⟩
      clear e k1 k2 hR hC
      go_wp2
      go_ret
      obtain ⟨q1, q2⟩ := A.out
      rw [← q2, q1]
      exact ⟨rfl, rfl⟩
    · have ht := ord_eq_f hi (by omega) e
      obtain ⟨c1, c2, c3, c4, c5, c6⟩ := k2 e
      have A : Aside (sigL g (fmul x x) (fadd Y Y) (fadd s (fmul (fmul x x) Y)) = sg c ∧ sigC g (fmul X X) (fadd Y Y) (fadd S (fmul (fmul X X) Y)) = true ∧ fmul x x ≤ fmul X X ∧ fadd s (fmul (fmul x x) Y) ≤ fadd S (fmul (fmul X X) Y) ∧ qw c ≤ fadd s (fmul (fmul x x) Y)) := ⟨by rw [← c2]; exact hR, c3, c4, c5, c6⟩
      clear e k1 k2 hR hC c2 c3 c4 c5 c6
      go_wp2
      go_roundg g
      case measure => omega
      case rel =>
        obtain ⟨q1, q2, q3, q4, q5⟩ := A.out
        exact ⟨_, _, _, _, _, rfl, rfl, rfl, q2, q3, q4, q5, q1, b1, rfl⟩

theorem call_frombits (n : Int) (w : World) : (callFunc 34 #[.int .u64 n]).run Try.prog w = .ok (.value (.float .f64 n.toNat)) w := by
  rw [run_callFunc_extern Try.func34 (by kernel_rfl) (by kernel_rfl) (by kernel_rfl) (e := Extern.MathFloatBits.float64frombits) (by kernel_rfl)]
  rfl
theorem call_sqrt {x : Nat} (h0 : x ≠ 0) (hx : x < inf) (w : World) : (callFunc 35 #[.float .f64 x]).run Try.prog w = .ok (.value (.float .f64 (fsqrt x))) w := by
  rw [run_callFunc_extern Try.func35 (by kernel_rfl) (by kernel_rfl) (by kernel_rfl) (e := Extern.MathSqrt.sqrt) (by kernel_rfl)]
  have h : FloatKind.f64.format.sqrt x = some (fsqrt x) := sqrt_some h0 hx
  show (Sem.run Try.prog (match FloatKind.f64.format.sqrt x with | some r => pure (Value.float .f64 r) | none => do pure (Value.float .f64 (← choose (.nanBits .f64 x x)))) w).andThen _ = _
  rw [h]
  rfl

theorem inf_bits : (9218868437227405312 : Int).toNat = inf := by decide +kernel

set_option maxHeartbeats 400000 in
theorem sigma_one (w : World) :
    Calls Try.prog 28 #[.float .f64 one] w fun e w' => e = .returned (.float .f64 inf) ∧ w' = w := by
  have hne : (FloatKind.f64.format.order one one == some .eq) = true := ord_eq_t (Nat.le_of_lt one_lt) rfl
  have hb : ∀ w, (callFunc 34 #[.int .u64 9218868437227405312]).run Try.prog w = .ok (.value (.float .f64 inf)) w := by
    intro w; rw [call_frombits, inf_bits]
  go_enter Try.func28, Try.ntmps28
  go_wp2
  go_ret
  exact ⟨rfl, rfl⟩

set_option maxHeartbeats 400000 in
theorem sqrt_any {x : Nat} (h0 : x ≠ 0) (hx : x < inf) (w : World) :
    Calls Try.prog 32 #[.float .f64 x] w fun e w' => e = .returned (.float .f64 (fsqrt x)) ∧ w' = w := by
  have hb := @call_sqrt x h0 hx
  go_enter Try.func32, Try.ntmps32
  go_wp2
  go_ret
  exact ⟨rfl, rfl⟩

theorem one_one : fmul one one = one := by decide +kernel
theorem half_le_one : half ≤ one := by decide +kernel
/-- what tau's round computes lies below 1 -/
theorem tau_small {x y : Nat} (hy : y ≤ one) : fsub one (fsqrt x) < inf ∧ fmul (fsub one (fsqrt x)) (fsub one (fsqrt x)) < inf ∧ fmul y half ≤ one ∧ tauT x y ≤ one := by
  have h1 := one_lt
  have h2 := fsub_one_lt (fsqrt x)
  have h3 := fmul_mono h2 h2
  rw [one_one] at h3
  have h4 := fmul_mono hy half_le_one
  rw [one_one] at h4
  have h5 := fmul_mono h3 h4
  rw [one_one] at h5
  exact ⟨by omega, by omega, h4, h5⟩

set_option maxHeartbeats 400000 in
theorem tau_zero (w : World) : Calls Try.prog 29 #[.float .f64 0] w fun e w' => e = .returned (.float .f64 0) ∧ w' = w := by
  have hne : (FloatKind.f64.format.order 0 0 == some .eq) = true := ord_eq_t (Nat.zero_le _) rfl
  go_enter Try.func29, Try.ntmps29
  go_wp2
  go_ret
  exact ⟨rfl, rfl⟩

set_option maxHeartbeats 400000 in
theorem tau_one (w : World) : Calls Try.prog 29 #[.float .f64 one] w fun e w' => e = .returned (.float .f64 0) ∧ w' = w := by
  have h1 := one_lt
  have h0 : one ≠ 0 := by decide
  have hne : (FloatKind.f64.format.order one 0 == some .eq) = false := ord_eq_f (by omega) (Nat.zero_le _) h0
  have hne2 : (FloatKind.f64.format.order one one == some .eq) = true := ord_eq_t (by omega) rfl
  clear h0
  go_enter Try.func29, Try.ntmps29
  go_wp2
  go_ret
  exact ⟨rfl, rfl⟩

theorem qw_pos {c : Nat} (h : 1 ≤ c) : qw c ≠ 0 := by
  have h1 := qw_mono h
  have h2 : qw 1 ≠ 0 := by decide +kernel
  omega

set_option maxHeartbeats 800000 in
theorem tau_any (j : Nat) (hj1 : 1 ≤ j) (hj2 : j ≤ 8191) (w : World) :
    Calls Try.prog 29 #[.float .f64 (qw j)] w fun e w' => e = .returned (.float .f64 (tu j)) ∧ w' = w := by
  have h1 := one_lt
  have hhf := half_lt
  have hlt := qw_lt_one (c := j) (by omega)
  have hq1 : qw j ≤ one := by omega
  have hne : (FloatKind.f64.format.order (qw j) one == some .eq) = false := ord_eq_f (by omega) (by omega) (by omega)
  have hne2 : (FloatKind.f64.format.order (qw j) 0 == some .eq) = false := ord_eq_f (by omega) (Nat.zero_le _) (qw_pos hj1)
  have hsub := sub_qw (c := j) (by omega)
  have hR : Aside (fdiv (tw j) three = tu j) := by
    show fdiv (tw j) three = tu j
    unfold tu; rw [if_neg (by omega)]
  obtain ⟨X0, L0, hG0, hX0, hL0⟩ := tau_start hj1 hj2
  have hS0 := qw_lt_one (c := 8192 - j) (by omega)
  have A0 : Aside (X0 ≤ qw j ∧ L0 ≤ qw (8192 - j) ∧ TauGood X0 one L0) := ⟨hX0, hL0, hG0⟩
  clear hX0 hL0 hG0
  go_enter Try.func29, Try.ntmps29
  go_wp2
  go_loopg [0, 3, 4] (one + 1) (fun k x s y wr => ∃ xx ss yy X Y L : Nat, x = .float .f64 xx ∧ s = .float .f64 ss ∧ y = .float .f64 yy ∧ TauGood X Y L ∧ X ≤ xx ∧ xx ≤ one ∧ yy ≤ Y ∧ L ≤ ss ∧ ss ≤ one ∧ yy ≤ one ∧ yy < k ∧ tauL k xx yy ss = tw j ∧ wr = w)
  case atStart =>
    obtain ⟨a1, a2, a3⟩ := A0.out
    exact ⟨_, _, one, X0, one, L0, rfl, rfl, rfl, a3, a1, hq1, Nat.le_refl _, a2, by omega, Nat.le_refl _, by omega, rfl, rfl⟩
  case round =>
    obtain ⟨x, s, y, X, Y, L, rfl, rfl, rfl, hG, hx, hx1, hy, hs, hs1, hy1, hk, hL, rfl⟩ := hrel
    obtain ⟨g, hg⟩ : ∃ g, gk = g + 1 := ⟨gk - 1, by omega⟩
    subst hg
    obtain ⟨hx0, hsq, hts, hN⟩ := tau_round hG hx hx1 hy hs
    obtain ⟨b1, b2, b3, b4⟩ := tau_small (x := x) hy1
    have hxi : x < inf := by omega
    have hyi : y < inf := by omega
    have hsi : s < inf := by omega
    have hy' : fmul y half < inf := by omega
    have hti : tauT x y < inf := by omega
    have hn := fsub_le_inf s (tauT x y)
    have hn1 : fsub s (tauT x y) ≤ s := fsub_le (by omega)
    have hT : fmul (fmul (fsub one (fsqrt x)) (fsub one (fsqrt x))) (fmul y half) = tauT x y := by unfold tauT; rfl
    by_cases e : fsub s (tauT x y) = s
    · have ht := ord_eq_t hn e
      have hq := bin_quo 37 (div_some hsi (show three ≠ 0 by decide) three_lt)
      have A : Aside (tauL (g + 1) x y s = s ∧ tauL (g + 1) x y s = tw j) := ⟨tauL_stop e, hL⟩
      clear e hL hG hN A0 hsub
      go_wp2_with (go_at_call 32; refine (sqrt_any hx0 hxi _).mono ?_; rintro e w' ⟨rfl, rfl⟩)
      go_ret
      obtain ⟨q1, q2⟩ := A.out
      rw [← hR.out, ← q2, q1]
      exact ⟨rfl, rfl⟩
    · have ht := ord_eq_f hn (by omega) e
      have hyl := tau_y (by omega) e
      have A : Aside (tauL g (fsqrt x) (fmul y half) (fsub s (tauT x y)) = tw j ∧ (∃ X' Y' L', TauGood X' Y' L' ∧ X' ≤ fsqrt x ∧ fmul y half ≤ Y' ∧ L' ≤ fsub s (tauT x y))) := ⟨by rw [← tauL_go e]; exact hL, hN⟩
      clear e hL hG hN A0 hsub
      go_wp2_with (go_at_call 32; refine (sqrt_any hx0 hxi _).mono ?_; rintro e w' ⟨rfl, rfl⟩)
      go_roundg g
      case measure => omega
      case rel =>
        obtain ⟨q1, X', Y', L', q2, q3, q4, q5⟩ := A.out
        exact ⟨_, _, _, X', Y', L', rfl, rfl, rfl, q2, q3, hsq, q4, q5, by omega, b3, by omega, q1, rfl⟩
end
end Go.Proofs.Qxb6604680a
