import Derived.Test.Qxb6604680aSig
namespace Go.Proofs.Qxb6604680a.Fl
open Ieee

def TauGood (X Y L : Nat) : Prop := ∃ g, tauC g X Y L = true

theorem fsub_one_lt (x : Nat) : fsub one x ≤ one := fsub_le (Nat.le_of_lt one_lt)

theorem tauT_anti {x y X Y : Nat} (hX : X ≠ 0) (hx : X ≤ x) (hx1 : x ≤ one) (hy : y ≤ Y) : tauT x y ≤ tauT X Y := by
  have h1 := fsqrt_mono hX hx (Nat.lt_of_le_of_lt hx1 one_lt)
  have h2 := fsub_mono (a := one) (b := fsqrt x) (c := one) (d := fsqrt X) (Nat.le_refl _) h1
  exact fmul_mono (fmul_mono h2 h2) (fmul_mono hy (Nat.le_refl _))

/-- what a round of tau's loop finds -/
theorem tau_round {X Y L x y s : Nat} (hG : TauGood X Y L) (hx : X ≤ x) (hx1 : x ≤ one) (hy : y ≤ Y) (hs : L ≤ s) :
    x ≠ 0 ∧ fsqrt x ≤ one ∧ tauT x y ≤ s ∧ ∃ X' Y' L', TauGood X' Y' L' ∧ X' ≤ fsqrt x ∧ fmul y half ≤ Y' ∧ L' ≤ fsub s (tauT x y) := by
  obtain ⟨g, hg⟩ := hG
  cases g with
  | zero => exact absurd hg (by simp [tauC])
  | succ g =>
    have hg0 := hg
    unfold tauC at hg
    simp only [Bool.and_eq_true, decide_eq_true_eq, Bool.or_eq_true] at hg
    obtain ⟨⟨hX, hT⟩, hor⟩ := hg
    have hx0 : x ≠ 0 := by omega
    have hl : x < inf := Nat.lt_of_le_of_lt hx1 one_lt
    have h1 := fsqrt_mono hX hx hl
    have h2 := fsqrt_mono hx0 hx1 one_lt
    rw [sqrt_one] at h2
    have h3 := tauT_anti hX hx hx1 hy
    have h4 : fmul y half ≤ fmul Y half := fmul_mono hy (Nat.le_refl _)
    refine ⟨hx0, h2, by omega, ?_⟩
    rcases hor with hor | hor
    · refine ⟨X, Y, L, ⟨g + 1, hg0⟩, by omega, by omega, ?_⟩
      have := fsub_mono (a := L) (b := tauT X Y) (c := s) (d := tauT x y) hs h3
      omega
    · exact ⟨_, _, _, ⟨g, hor⟩, h1, h4, fsub_mono hs h3⟩

/-- the start of tau's loop, at j / 8192 -/
theorem tau_start {j : Nat} (h1 : 1 ≤ j) (h2 : j ≤ 8191) : ∃ X L, TauGood X one L ∧ X ≤ qw j ∧ L ≤ qw (8192 - j) := by
  by_cases a : 7955 ≤ j
  · exact ⟨_, _, ⟨_, tauC_1⟩, qw_mono a, qw_mono (by omega)⟩
  by_cases b : 4939 ≤ j
  · exact ⟨_, _, ⟨_, tauC_2⟩, qw_mono b, qw_mono (by omega)⟩
  by_cases c : 372 ≤ j
  · exact ⟨_, _, ⟨_, tauC_3⟩, qw_mono c, qw_mono (by omega)⟩
  · exact ⟨_, _, ⟨_, tauC_4⟩, qw_mono h1, qw_mono (by omega)⟩

theorem tauL_le : ∀ f x y s, s ≤ inf → tauL f x y s ≤ s := by
  intro f
  induction f with
  | zero => intro x y s _; exact Nat.le_refl _
  | succ f ih =>
    intro x y s hs
    unfold tauL
    split
    · exact Nat.le_refl _
    · have := fsub_le (b := tauT x y) hs
      have := ih (fsqrt x) (fmul y half) (fsub s (tauT x y)) (by omega)
      omega

/-- tau's loop, one round of 'tauL' -/
theorem tauL_stop {f x y s : Nat} (h : fsub s (tauT x y) = s) : tauL (f + 1) x y s = s := by
  unfold tauL; rw [if_pos h]
theorem tauL_go {f x y s : Nat} (h : fsub s (tauT x y) ≠ s) : tauL (f + 1) x y s = tauL f (fsqrt x) (fmul y half) (fsub s (tauT x y)) := by
  conv => lhs; unfold tauL
  rw [if_neg h]
theorem tau_y {y x s : Nat} (hs : s ≤ inf) (h : fsub s (tauT x y) ≠ s) : fmul y half < y := by
  apply fmul_half_lt
  intro e
  apply h
  subst e
  unfold tauT
  rw [zero_fmul, fmul_zero, fsub_zero hs]

/-- tau at j / 8192, before its division by 3 -/
def tw (j : Nat) : Nat := tauL (one + 1) (qw j) one (qw (8192 - j))
theorem tw_le {j : Nat} : tw j ≤ one := by
  have h := qw_mono (show 8192 - j ≤ 8192 by omega)
  rw [qw_top] at h
  have := one_lt
  have := tauL_le (one + 1) (qw j) one (qw (8192 - j)) (by omega)
  unfold tw
  omega

/-! ### rough bounds on a quotient -/
theorem mul_shift (a b c d : Nat) : a * b * c * d = a * c * (b * d) := by
  rw [Nat.mul_right_comm a b c, Nat.mul_assoc]
theorem quo_le {T vy c vx Q vr P W : Nat} (hvy : 0 < vy) (hc : 0 < c) (hQ : Q = P * W) (a1 : T * vy * c ≤ vx * Q * (c + 1)) (h : vx * P * 2 ≤ vr * vy) : T ≤ vr * W := by
  subst hQ
  have h1 : vx * (P * W) * (c + 1) ≤ vx * (P * W) * (2 * c) := Nat.mul_le_mul_left _ (by omega)
  have h2 : vx * (P * W) * (2 * c) = vx * P * 2 * (W * c) := by
    rw [← Nat.mul_assoc vx P W, ← Nat.mul_assoc, Nat.mul_right_comm (vx * P) W 2, Nat.mul_assoc]
  have h3 : vx * P * 2 * (W * c) ≤ vr * vy * (W * c) := Nat.mul_le_mul_right _ h
  have h4 : vr * vy * (W * c) = vr * W * (vy * c) := by
    rw [Nat.mul_mul_mul_comm]
  have h5 : T * (vy * c) ≤ vr * W * (vy * c) := by rw [← Nat.mul_assoc]; omega
  exact Nat.le_of_mul_le_mul_right h5 (Nat.mul_pos hvy hc)
theorem le_quo {T vy c vx Q vr P W : Nat} (hvy : 0 < vy) (hc : 0 < c) (hQ : Q = P * W) (a2 : vx * Q * c ≤ T * vy * (c + 1)) (h : vr * vy * 2 ≤ vx * P) : vr * W ≤ T := by
  subst hQ
  have h1 : T * vy * (c + 1) ≤ T * vy * (2 * c) := Nat.mul_le_mul_left _ (by omega)
  have h2 : vr * vy * 2 * (W * c) ≤ vx * P * (W * c) := Nat.mul_le_mul_right _ h
  have h3 : vx * P * (W * c) = vx * (P * W) * c := by rw [← Nat.mul_assoc, Nat.mul_assoc vx]
  have h4 : vr * vy * 2 * (W * c) = vr * W * (vy * (2 * c)) := by
    rw [Nat.mul_assoc (vr * vy), Nat.mul_left_comm 2, Nat.mul_mul_mul_comm]
  have h5 : T * vy * (2 * c) = T * (vy * (2 * c)) := Nat.mul_assoc ..
  have h6 : vr * W * (vy * (2 * c)) ≤ T * (vy * (2 * c)) := by omega
  exact Nat.le_of_mul_le_mul_right h6 (Nat.mul_pos hvy (by omega))

theorem val_pos {y : Nat} (h : y ≠ 0) : 0 < val y := by
  have := val_lt (Nat.pos_of_ne_zero h); omega

theorem div_some {x y : Nat} (hx : x < inf) (hy0 : y ≠ 0) (hy : y < inf) : double.div x y = some (fdiv x y) := by
  obtain ⟨T, t, e, _⟩ := div_near rfl hx hy0 hy
  unfold fdiv; rw [e, Option.getD_some]
theorem fdiv_le {x y r : Nat} (hx : x < inf) (hy0 : y ≠ 0) (hy : y < inf) (h : val x * val one * 2 ≤ val r * val y) : fdiv x y ≤ r := by
  obtain ⟨p, hp⟩ : ∃ p : Nat, p = 1074 := ⟨_, rfl⟩
  obtain ⟨T, t, e, a1, _⟩ := div_near hp hx hy0 hy
  have hv := val_one
  rw [← hp, Nat.one_mul] at hv
  rw [hv] at h
  unfold fdiv
  rw [e, Option.getD_some]
  exact rnd_le (quo_le (val_pos hy0) (by decide) (Nat.pow_add 2 p t) a1 h)
theorem le_fdiv {x y r : Nat} (hr : r ≤ inf) (hx : x < inf) (hy0 : y ≠ 0) (hy : y < inf) (h : val r * val y * 2 ≤ val x * val one) : r ≤ fdiv x y := by
  obtain ⟨p, hp⟩ : ∃ p : Nat, p = 1074 := ⟨_, rfl⟩
  obtain ⟨T, t, e, _, a2⟩ := div_near hp hx hy0 hy
  have hv := val_one
  rw [← hp, Nat.one_mul] at hv
  rw [hv] at h
  unfold fdiv
  rw [e, Option.getD_some]
  exact le_rnd hr (le_quo (val_pos hy0) (by decide) (Nat.pow_add 2 p t) a2 h)

theorem val_three : val three = 3 * val one := by decide +kernel
theorem div_three {s : Nat} (h : s ≤ one) : fdiv s three ≤ one := by
  have h1 := one_lt
  apply fdiv_le (by omega) (by decide) three_lt
  rw [val_three, Nat.mul_left_comm]
  have hv := Nat.mul_le_mul_right (val one) (val_le h)
  generalize val s * val one = a at *
  generalize val one * val one = b at *
  omega

/-- the whole of tau, at j / 8192 -/
def tu (j : Nat) : Nat := if j = 0 ∨ j = 8192 then 0 else fdiv (tw j) three

theorem tu_le {j : Nat} : tu j ≤ one := by
  unfold tu
  split
  · exact Nat.zero_le _
  · exact div_three tw_le

/-! ### the whole estimate, of a histogram c of the ranks 0 .. 52 -/
/-- the loop: n rounds, the last of rank 1 -/
def hor (c : Nat → Nat) : Nat → (Nat → Nat)
  | 0 => fun z => z
  | k + 1 => fun z => hor c k (fmul half (fadd z (fint (c (k + 1)))))

theorem em_em : fmul half (fadd em em) = em := by decide +kernel
theorem em_one : fmul em one = em := by decide +kernel
theorem fint_em : fint 8192 = em := by decide +kernel
theorem em2_lt : fadd em em < inf := by decide +kernel

theorem hor_step {c : Nat → Nat} {k z : Nat} (hc : c k ≤ 8192) (hz : z ≤ em) : fint (c k) < inf ∧ fadd z (fint (c k)) < inf ∧ fmul half (fadd z (fint (c k))) ≤ em := by
  have h1 := fint_mono hc
  rw [fint_em] at h1
  have h2 := fadd_mono hz h1
  have h3 := fmul_mono (Nat.le_refl half) h2
  rw [em_em] at h3
  have := em_lt
  have := em2_lt
  exact ⟨by omega, by omega, h3⟩

theorem hor_zero (c : Nat → Nat) (z : Nat) : hor c 0 z = z := by rw [hor]
theorem hor_succ (c : Nat → Nat) (k z : Nat) : hor c (k + 1) z = hor c k (fmul half (fadd z (fint (c (k + 1))))) := by rw [hor]

theorem hor_le (c : Nat → Nat) (hc : ∀ k, c k ≤ 8192) (k : Nat) : ∀ z, z ≤ em → hor c k z ≤ em := by
  induction k with
  | zero => intro z h; rw [hor_zero]; exact h
  | succ k ih => intro z h; rw [hor_succ]; exact ih _ (hor_step (hc _) h).2.2

/-- the powers 2 ^ -k -/
def pw : Nat → Nat
  | 0 => one
  | k + 1 => fmul half (pw k)
theorem pw_succ (k : Nat) : pw (k + 1) = fmul half (pw k) := by rw [pw]

theorem hor_lo (c : Nat → Nat) (k : Nat) : ∀ z r, z ≤ inf → pw r ≤ z → pw (r + k) ≤ hor c k z := by
  induction k with
  | zero => intro z r _ h; rw [hor_zero]; exact h
  | succ k ih =>
    intro z r hz h
    rw [hor_succ, show r + (k + 1) = r + 1 + k by omega]
    apply ih _ _ (fmul_le_inf _ _)
    rw [pw_succ]
    exact fmul_mono (Nat.le_refl _) (Nat.le_trans h (le_fadd hz))

theorem fint_one : fint 1 = one := by decide +kernel
/-- a register of a rank between: the sum is not 0 -/
theorem hor_pos (c : Nat → Nat) (j : Nat) (hj1 : 1 ≤ j) (hcj : 1 ≤ c j) (k : Nat) : ∀ z, z ≤ inf → j ≤ k → pw j ≤ hor c k z := by
  induction k with
  | zero => intro z _ h; omega
  | succ k ih =>
    intro z hz hjk
    rw [hor_succ]
    by_cases e : j = k + 1
    · subst e
      have h1 : fint 1 ≤ fint (c (k + 1)) := fint_mono hcj
      rw [fint_one] at h1
      have h2 : one ≤ fadd z (fint (c (k + 1))) := by
        have := fadd_mono (Nat.zero_le z) h1
        rw [zero_fadd (Nat.le_of_lt one_lt)] at this
        exact this
      have h3 : pw 1 ≤ fmul half (fadd z (fint (c (k + 1)))) := by
        rw [pw_succ]; exact fmul_mono (Nat.le_refl _) h2
      have := hor_lo c k _ 1 (fmul_le_inf _ _) h3
      rw [Nat.add_comm] at this
      exact this
    · exact ih _ (fmul_le_inf _ _) (by omega)

theorem fmul_comm (a b : Nat) : fmul a b = fmul b a := by unfold fmul; rw [Nat.mul_comm]
theorem pw_anti (k : Nat) : pw (k + 1) ≤ pw k := by
  rw [pw_succ, fmul_comm]
  by_cases h : pw k = 0
  · rw [h, zero_fmul]; exact Nat.le_refl _
  · exact Nat.le_of_lt (fmul_half_lt h)
theorem pw_le {j k : Nat} (h : j ≤ k) : pw k ≤ pw j := by
  induction k with
  | zero => have : j = 0 := by omega
            subst this; exact Nat.le_refl _
  | succ k ih =>
    by_cases e : j = k + 1
    · subst e; exact Nat.le_refl _
    · exact Nat.le_trans (pw_anti k) (ih (by omega))

def em2 : Nat := fmul em em
def zb : Nat := fadd em em2
theorem sb_em : sb = em := by decide +kernel
theorem em2_lt' : em2 < inf := by decide +kernel
theorem zb_lt : zb < inf := by decide +kernel
theorem czb_lt : fmul cln zb < inf := by decide +kernel
theorem cpw : fmul cln (pw 51) ≠ 0 := by decide +kernel
theorem e_lo : val 1 * val (fmul cln zb) * 2 ≤ val em2 * val one := by decide +kernel
theorem e_hi : val em2 * val one * 2 ≤ val (inf - 1) * val (fmul cln (pw 51)) := by decide +kernel
theorem e_inf : double.div em2 0 = some inf := by decide +kernel
theorem cln_zero : fmul cln 0 = 0 := fmul_zero _
theorem em_pw : pw 51 ≤ one := by decide +kernel

/-- the sum, ahead of sigma's share, and with it -/
def z1 (c : Nat → Nat) : Nat := hor c 51 (fmul em (tu (8192 - c 52)))
def z2 (c : Nat → Nat) : Nat := fadd (z1 c) (fmul em (sg (c 0)))
def est (c : Nat → Nat) : Nat := if c 0 = 8192 then 0 else fdiv em2 (fmul cln (z2 c))

theorem emtu_le (j : Nat) : fmul em (tu j) ≤ em := by
  have := fmul_mono (Nat.le_refl em) (tu_le (j := j))
  rwa [em_one] at this
theorem z1_le {c : Nat → Nat} (hc : ∀ k, c k ≤ 8192) : z1 c ≤ em := hor_le c hc 51 _ (emtu_le _)
theorem emsg_le {n : Nat} (h : n < 8192) : fmul em (sg n) ≤ em2 := by
  have := fmul_mono (Nat.le_refl em) (sg_bounds h).2
  rwa [sb_em] at this
theorem z2_le {c : Nat → Nat} (hc : ∀ k, c k ≤ 8192) (h0 : c 0 < 8192) : z2 c ≤ zb := fadd_mono (z1_le hc) (emsg_le h0)
theorem cz2_lt {c : Nat → Nat} (hc : ∀ k, c k ≤ 8192) (h0 : c 0 < 8192) : fmul cln (z2 c) < inf :=
  Nat.lt_of_le_of_lt (fmul_mono (Nat.le_refl _) (z2_le hc h0)) czb_lt

theorem one_emqw : fmul em (qw 1) = one := by decide +kernel
theorem z2_lo {c : Nat → Nat} (hc : ∀ k, c k ≤ 8192) (h0 : c 0 < 8192) (h : ∃ k, k ≤ 51 ∧ 1 ≤ c k) : pw 51 ≤ z2 c := by
  obtain ⟨k, hk, hck⟩ := h
  unfold z2
  by_cases e : k = 0
  · subst e
    have h1 := Nat.le_trans (qw_mono hck) (sg_bounds h0).1
    have h2 := fmul_mono (Nat.le_refl em) h1
    rw [one_emqw] at h2
    have h3 := fadd_mono (Nat.zero_le (z1 c)) h2
    rw [zero_fadd (Nat.le_of_lt one_lt)] at h3
    exact Nat.le_trans em_pw h3
  · have h1 := hor_pos c k (by omega) hck 51 _ (Nat.le_of_lt (Nat.lt_of_le_of_lt (emtu_le (8192 - c 52)) em_lt)) hk
    have h2 : z1 c ≤ inf := Nat.le_of_lt (Nat.lt_of_le_of_lt (z1_le hc) em_lt)
    exact Nat.le_trans (Nat.le_trans (pw_le hk) h1) (le_fadd h2)

/-- neither all 0 nor all 52: finite and greater than 0 -/
theorem est_mid {c : Nat → Nat} (hc : ∀ k, c k ≤ 8192) (h0 : c 0 < 8192) (h : ∃ k, k ≤ 51 ∧ 1 ≤ c k) :
    fmul cln (z2 c) ≠ 0 ∧ 0 < est c ∧ est c < inf := by
  have h1 := cz2_lt hc h0
  have h2 := fmul_mono (Nat.le_refl cln) (z2_lo hc h0 h)
  have h3 := cpw
  have h4 : fmul cln (z2 c) ≠ 0 := by omega
  unfold est
  rw [if_neg (by omega)]
  refine ⟨h4, ?_, ?_⟩
  · have := le_fdiv (r := 1) (by unfold inf B; decide) em2_lt' h4 h1 (by
      have := val_le (fmul_mono (Nat.le_refl cln) (z2_le hc h0))
      have h5 := e_lo
      have : val 1 * val (fmul cln (z2 c)) ≤ val 1 * val (fmul cln zb) := Nat.mul_le_mul_left _ this
      omega)
    omega
  · have := fdiv_le (r := inf - 1) em2_lt' h4 h1 (by
      have h5 := e_hi
      have : val (inf - 1) * val (fmul cln (pw 51)) ≤ val (inf - 1) * val (fmul cln (z2 c)) := Nat.mul_le_mul_left _ (val_le h2)
      omega)
    have : 0 < inf := by unfold inf B; decide
    omega

theorem fint_zero : fint 0 = 0 := by decide +kernel
theorem hz0 : fmul half (fadd 0 0) = 0 := by decide +kernel
theorem hor_nought {c : Nat → Nat} (k : Nat) (h : ∀ j, 1 ≤ j → j ≤ k → c j = 0) : hor c k 0 = 0 := by
  induction k with
  | zero => rw [hor_zero]
  | succ k ih =>
    rw [hor_succ, h _ (by omega) (by omega), fint_zero, hz0]
    exact ih (fun j a b => h j a (by omega))
theorem sg_zero : sg 0 = 0 := by decide +kernel
theorem fadd00 : fadd 0 0 = 0 := by decide +kernel
theorem z2_full {c : Nat → Nat} (h52 : c 52 = 8192) (h : ∀ j, j ≤ 51 → c j = 0) : z2 c = 0 := by
  unfold z2 z1
  have e : tu (8192 - c 52) = 0 := by rw [h52]; unfold tu; rw [if_pos (.inl rfl)]
  rw [e, fmul_zero, hor_nought 51 (fun j _ b => h j b), h 0 (by omega), sg_zero, fmul_zero, fadd00]
theorem est_full {c : Nat → Nat} (h52 : c 52 = 8192) (h : ∀ j, j ≤ 51 → c j = 0) : est c = inf := by
  unfold est
  rw [if_neg (by have := h 0 (by omega); omega), z2_full h52 h, cln_zero]
  unfold fdiv; rw [e_inf, Option.getD_some]
end Go.Proofs.Qxb6604680a.Fl
