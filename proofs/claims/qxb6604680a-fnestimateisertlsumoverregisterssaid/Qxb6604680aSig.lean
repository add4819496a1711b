import Derived.Test.Qxb6604680aFl2
namespace Go.Proofs.Qxb6604680a.Fl
open Ieee

/-! ### the words that the Go text names -/
def one : Nat := 4607182418800017408
def half : Nat := 4602678819172646912
def em : Nat := 4665729213955833856
def three : Nat := 4613937818241073152
def cln : Nat := 4608922133940812271

theorem one_lt : one < inf := by decide +kernel
theorem half_lt : half < inf := by decide +kernel
theorem em_lt : em < inf := by decide +kernel
theorem three_lt : three < inf := by decide +kernel
theorem cln_lt : cln < inf := by decide +kernel
theorem val_one : val one = 1 * 2 ^ 1074 := by decide +kernel

/-! ### the word of c / 8192 -/
def U : Nat := 2 ^ 1061
def qw (c : Nat) : Nat := rnd (c * U) 0

theorem val_qw {c : Nat} (h : c ≤ 8192) : val (qw c) = c * U ∧ qw c < inf := by
  have := val_rnd_rep (L := 1061) (k := c) (s := 0) (by unfold B; omega) (by decide)
  unfold qw U
  rw [Nat.pow_zero, Nat.mul_one] at this
  exact this
theorem qw_mono {a b : Nat} (h : a ≤ b) : qw a ≤ qw b := by
  unfold qw
  exact rnd_mono0 (Nat.mul_le_mul_right _ h)
theorem qw_zero : qw 0 = 0 := by decide +kernel
theorem qw_top : qw 8192 = one := by decide +kernel

/-- division by a power of two -/
theorem div_pow {x y j : Nat} (hy : double.read y = .number false (2 ^ 52) ((j : Int) - 52)) (hx : x < inf) : double.div x y = some (rnd (val x) j) := by
  obtain ⟨m, i, h1, h2, h3, h4, h5⟩ := read_pos hx
  unfold Format.div
  rw [h1, hy]
  have hn : (2 ^ 52 : Nat) ≠ 0 := by decide
  simp only [Datum.quotient, if_neg hn, Option.map_some, Format.write, Bool.xor_self]
  have ef : double.fractionBits = 52 := rfl
  rw [ef, nearest_eq]
  have hlg : Nat.log2 (2 ^ 52) = 52 := by decide +kernel
  rw [hlg]
  have hl : m.log2 < 53 := by
    by_cases hm : m = 0
    · subst hm; rw [Nat.log2_zero]; decide
    · exact (Nat.log2_lt hm).2 (by unfold B at h5; omega)
  obtain ⟨more, hmore⟩ : ∃ k : Nat, k + 52 = 52 + 2 + 52 - m.log2 := ⟨52 + 2 + 52 - m.log2 - 52, by omega⟩
  rw [← hmore, Nat.shiftLeft_eq, Nat.pow_add, ← Nat.mul_assoc, Nat.mul_div_cancel _ (Nat.two_pow_pos 52), Nat.mul_mod_left]
  refine congrArg some ?_
  apply rnd_eq
  have e0 : (((0 : Nat) != 0) : Bool).toNat = 0 := rfl
  rw [e0, Nat.add_zero, ← h3]
  have : 2 * (m * 2 ^ more) = m * 2 ^ (more + 1) := by rw [Nat.pow_succ, ← Nat.mul_assoc m, Nat.mul_comm 2]
  rw [this, Nat.mul_assoc, Nat.mul_assoc, ← Nat.pow_add, ← Nat.pow_add, Nat.mul_assoc, ← Nat.pow_add]
  refine congrArg (fun t => m * 2 ^ t) ?_
  omega

theorem read_em : double.read em = .number false (2 ^ 52) (((13 : Nat) : Int) - 52) := by decide +kernel

theorem scale13 (c a : Nat) : rnd (c * 2 ^ (a + 13)) 13 = rnd (c * 2 ^ a) 0 := by
  apply rnd_eq
  rw [Nat.pow_zero, Nat.mul_one, Nat.pow_add, Nat.mul_assoc]
theorem val_one8 : val one = 8192 * U := by decide +kernel

theorem div_em {c : Nat} (h : c ≤ 8192) : double.div (fint c) em = some (qw c) := by
  obtain ⟨h1, h2⟩ := val_fint (n := c) (by unfold B; omega)
  rw [div_pow read_em h2, h1]
  refine congrArg some ?_
  unfold qw U pT
  have e : (1074 : Nat) = 1061 + 13 := rfl
  rewrite [e]
  exact scale13 c 1061

theorem sub_gen (c u : Nat) : rnd (8192 * u - c * u) 0 = rnd ((8192 - c) * u) 0 := by rw [Nat.sub_mul]
theorem sub_qw {c : Nat} (h : c ≤ 8192) : fsub one (qw c) = qw (8192 - c) := by
  unfold fsub
  rewrite [(val_qw h).1, val_one8]
  unfold qw
  exact sub_gen c U

/-! ### sigma -/
/-- the loop of sigma -/
def sigL : Nat → Nat → Nat → Nat → Nat
  | 0, _, _, s => s
  | f + 1, x, y, s => if fadd s (fmul (fmul x x) y) = s then s else sigL f (fmul x x) (fadd y y) (fadd s (fmul (fmul x x) y))

/-- a bound for sigma below 1 -/
def sb : Nat := fint 8192

/-- the loop at the greatest argument: no number is too great, and the argument comes to 0 in time -/
def sigC : Nat → Nat → Nat → Nat → Bool
  | 0, _, _, _ => false
  | f + 1, X, Y, S => decide (fmul X X < inf) && decide (fmul (fmul X X) Y < inf) && decide (S ≤ sb) && decide (Y < inf) &&
      (decide (fmul X X = 0) || sigC f (fmul X X) (fadd Y Y) (fadd S (fmul (fmul X X) Y)))

theorem sigC_top : sigC 30 (qw 8191) one (qw 8191) = true := by decide +kernel
theorem sb_lt : sb < inf := by decide +kernel

theorem sigC_zero (X Y S : Nat) : sigC 0 X Y S = false := rfl
theorem sigC_succ {f X Y S : Nat} (h : sigC (f + 1) X Y S = true) :
    fmul X X < inf ∧ fmul (fmul X X) Y < inf ∧ S ≤ sb ∧ Y < inf ∧ (fmul X X = 0 ∨ sigC f (fmul X X) (fadd Y Y) (fadd S (fmul (fmul X X) Y)) = true) := by
  unfold sigC at h
  simp only [Bool.and_eq_true, decide_eq_true_eq, Bool.or_eq_true] at h
  exact ⟨h.1.1.1.1, h.1.1.1.2, h.1.1.2, h.1.2, h.2⟩

/-- what a round of sigma's loop finds -/
theorem sig_round {f X Y S x s x0 : Nat} (hC : sigC f X Y S = true) (hx : x ≤ X) (hs : s ≤ S) (h0 : x0 ≤ s) :
    ∃ g, f = g + 1 ∧ fmul x x < inf ∧ Y < inf ∧ fmul (fmul x x) Y < inf ∧ s < inf ∧ s ≤ sb ∧
      (fadd s (fmul (fmul x x) Y) = s → sigL f x Y s = s) ∧
      (fadd s (fmul (fmul x x) Y) ≠ s → fadd s (fmul (fmul x x) Y) < inf ∧ sigL f x Y s = sigL g (fmul x x) (fadd Y Y) (fadd s (fmul (fmul x x) Y)) ∧
        sigC g (fmul X X) (fadd Y Y) (fadd S (fmul (fmul X X) Y)) = true ∧ fmul x x ≤ fmul X X ∧ fadd s (fmul (fmul x x) Y) ≤ fadd S (fmul (fmul X X) Y) ∧ x0 ≤ fadd s (fmul (fmul x x) Y)) := by
  cases f with
  | zero => rw [sigC_zero] at hC; exact absurd hC (by decide)
  | succ g =>
    obtain ⟨a1, a2, a3, a4, a5⟩ := sigC_succ hC
    have m1 : fmul x x ≤ fmul X X := fmul_mono hx hx
    have m2 : fmul (fmul x x) Y ≤ fmul (fmul X X) Y := fmul_mono m1 (Nat.le_refl _)
    have m3 := fadd_mono hs m2
    have hsb := sb_lt
    refine ⟨g, rfl, by omega, a4, by omega, by omega, by omega, ?_, ?_⟩
    · intro h; unfold sigL; rw [if_pos h]
    · intro h
      have hz : fmul X X ≠ 0 := by
        intro e
        apply h
        have : fmul x x = 0 := by omega
        rw [this, zero_fmul, fadd_zero (by omega)]
      have hC' := a5.resolve_left hz
      have hS : fadd S (fmul (fmul X X) Y) ≤ sb := by
        cases g with
        | zero => rw [sigC_zero] at hC'; exact absurd hC' (by decide)
        | succ g => exact (sigC_succ hC').2.2.1
      refine ⟨by omega, ?_, hC', m1, m3, ?_⟩
      · conv => lhs; unfold sigL
        rw [if_neg h]
      · have := le_fadd (a := s) (b := fmul (fmul x x) Y) (by omega); omega

/-- sigma at c / 8192, c below 8192 -/
def sg (c : Nat) : Nat := sigL 30 (qw c) one (qw c)

theorem sigL_bounds : ∀ f X Y S x s x0, sigC f X Y S = true → x ≤ X → s ≤ S → x0 ≤ s → x0 ≤ sigL f x Y s ∧ sigL f x Y s ≤ sb := by
  intro f
  induction f with
  | zero => intro X Y S x s x0 h; rw [sigC_zero] at h; exact absurd h (by decide)
  | succ f ih =>
    intro X Y S x s x0 hC hx hs h0
    obtain ⟨g, e, _, _, _, _, hsb, k1, k2⟩ := sig_round hC hx hs h0
    have e : f = g := by omega
    subst e
    by_cases h : fadd s (fmul (fmul x x) Y) = s
    · rw [k1 h]; exact ⟨h0, hsb⟩
    · obtain ⟨_, e1, c1, c2, c3, c4⟩ := k2 h
      rw [e1]
      exact ih _ _ _ _ _ _ c1 c2 c3 c4

theorem sg_bounds {c : Nat} (h : c < 8192) : qw c ≤ sg c ∧ sg c ≤ sb :=
  sigL_bounds 30 _ _ _ _ _ _ sigC_top (qw_mono (by omega)) (qw_mono (by omega)) (Nat.le_refl _)

/-! ### tau -/
def tauT (x y : Nat) : Nat := fmul (fmul (fsub one (fsqrt x)) (fsub one (fsqrt x))) (fmul y half)
def tauL : Nat → Nat → Nat → Nat → Nat
  | 0, _, _, s => s
  | f + 1, x, y, s => if fsub s (tauT x y) = s then s else tauL f (fsqrt x) (fmul y half) (fsub s (tauT x y))

theorem val_half : val half = 2 ^ 1073 := by decide +kernel
theorem half_rnd (a : Nat) (M : Nat) : rnd (M * 2 ^ a) (a + 1) = rnd M 1 := by
  rw [Nat.add_comm, rnd_scale]
theorem fmul_half (y : Nat) : fmul y half = rnd (val y) 1 := by
  unfold fmul
  rewrite [val_half]
  have e : (1074 : Nat) = 1073 + 1 := rfl
  rewrite [e]
  exact half_rnd 1073 (val y)
theorem rn_1_1 : rn (val 1) 1 = 0 := by decide +kernel
/-- halving comes down -/
theorem fmul_half_lt {y : Nat} (h : y ≠ 0) : fmul y half < y := by
  rw [fmul_half]
  have : rn (val y) 1 < y := by
    by_cases h1 : y = 1
    · subst h1; rw [rn_1_1]; decide
    · obtain ⟨r, hr⟩ : ∃ r, y = r + 1 := ⟨y - 1, by omega⟩
      subst hr
      have hv : val (r + 1) ≤ val r * 2 ^ 1 := by
        rw [val_succ]
        obtain ⟨k, _, h2, _, h4⟩ := rung_form r
        have hk : k ≠ 0 := by
          intro e; subst e
          rw [Nat.zero_mul] at h4
          have := val_lt (show 0 < r by omega)
          omega
        have : 2 ^ ex r ≤ k * 2 ^ ex r := Nat.le_mul_of_pos_left _ (Nat.pos_of_ne_zero hk)
        omega
      have := rn_le hv
      omega
  unfold rnd
  omega

/-- the loop of tau at the least argument and the least sum of a range -/
def tauC : Nat → Nat → Nat → Nat → Bool
  | 0, _, _, _ => false
  | g + 1, X, Y, L => decide (X ≠ 0) && decide (tauT X Y ≤ L) && ((decide (fsub L (tauT X Y) = L) && decide (X ≤ fsqrt X) && decide (fmul Y half ≤ Y)) || tauC g (fsqrt X) (fmul Y half) (fsub L (tauT X Y)))

theorem tauC_1 : tauC 30 (qw 7955) one (qw (8192 - 8191)) = true := by decide +kernel
theorem tauC_2 : tauC 30 (qw 4939) one (qw (8192 - 7954)) = true := by decide +kernel
theorem tauC_3 : tauC 30 (qw 372) one (qw (8192 - 4938)) = true := by decide +kernel
theorem tauC_4 : tauC 30 (qw 1) one (qw (8192 - 371)) = true := by decide +kernel
theorem sqrt_one : fsqrt one = one := by decide +kernel
end Go.Proofs.Qxb6604680a.Fl
