import Derived.Test.Qxb6604680aNear
namespace Go.Proofs.Qxb6604680a.Fl
open Ieee

/-! ### tau is not too small -/
/-- 2 ^ -30 -/
def lm : Nat := 993 * 2 ^ 52
def tauD : Nat → Nat → Nat → Nat → Bool
  | 0, _, _, _ => false
  | g + 1, X, Y, L => decide (X ≠ 0) && decide (lm ≤ L) && decide (tauT X Y ≤ L) && ((decide (fsub L (tauT X Y) = L) && decide (X ≤ fsqrt X) && decide (fmul Y half ≤ Y)) || tauD g (fsqrt X) (fmul Y half) (fsub L (tauT X Y)))
theorem tauD_1 : tauD 30 (qw 7955) one (qw (8192 - 8191)) = true := by decide +kernel
theorem tauD_2 : tauD 30 (qw 4939) one (qw (8192 - 7954)) = true := by decide +kernel
theorem tauD_3 : tauD 30 (qw 372) one (qw (8192 - 4938)) = true := by decide +kernel
theorem tauD_4 : tauD 30 (qw 1) one (qw (8192 - 371)) = true := by decide +kernel

def TauGo (X Y L : Nat) : Prop := ∃ g, tauD g X Y L = true
theorem taud_round {X Y L x y s : Nat} (hG : TauGo X Y L) (hx : X ≤ x) (hx1 : x ≤ one) (hy : y ≤ Y) (hs : L ≤ s) :
    lm ≤ s ∧ fsqrt x ≤ one ∧ ∃ X' Y' L', TauGo X' Y' L' ∧ X' ≤ fsqrt x ∧ fmul y half ≤ Y' ∧ L' ≤ fsub s (tauT x y) := by
  obtain ⟨g, hg⟩ := hG
  cases g with
  | zero => exact absurd hg (by simp [tauD])
  | succ g =>
    have hg0 := hg
    unfold tauD at hg
    simp only [Bool.and_eq_true, decide_eq_true_eq, Bool.or_eq_true] at hg
    obtain ⟨⟨⟨hX, hlm⟩, hT⟩, hor⟩ := hg
    have hx0 : x ≠ 0 := by omega
    have hl : x < inf := Nat.lt_of_le_of_lt hx1 one_lt
    have h1 := fsqrt_mono hX hx hl
    have h2 := fsqrt_mono hx0 hx1 one_lt
    rw [sqrt_one] at h2
    have h3 := tauT_anti hX hx hx1 hy
    have h4 : fmul y half ≤ fmul Y half := fmul_mono hy (Nat.le_refl _)
    refine ⟨by omega, h2, ?_⟩
    rcases hor with hor | hor
    · refine ⟨X, Y, L, ⟨g + 1, hg0⟩, by omega, by omega, ?_⟩
      have := fsub_mono (a := L) (b := tauT X Y) (c := s) (d := tauT x y) hs h3
      omega
    · exact ⟨_, _, _, ⟨g, hor⟩, h1, h4, fsub_mono hs h3⟩
theorem taud_start {j : Nat} (h1 : 1 ≤ j) (h2 : j ≤ 8191) : ∃ X L, TauGo X one L ∧ X ≤ qw j ∧ L ≤ qw (8192 - j) := by
  by_cases a : 7955 ≤ j
  · exact ⟨_, _, ⟨_, tauD_1⟩, qw_mono a, qw_mono (by omega)⟩
  by_cases b : 4939 ≤ j
  · exact ⟨_, _, ⟨_, tauD_2⟩, qw_mono b, qw_mono (by omega)⟩
  by_cases c : 372 ≤ j
  · exact ⟨_, _, ⟨_, tauD_3⟩, qw_mono c, qw_mono (by omega)⟩
  · exact ⟨_, _, ⟨_, tauD_4⟩, qw_mono h1, qw_mono (by omega)⟩
theorem tauL_lo : ∀ f X Y L x y s, TauGo X Y L → X ≤ x → x ≤ one → y ≤ Y → L ≤ s → lm ≤ tauL f x y s := by
  intro f
  induction f with
  | zero => intro X Y L x y s hG hx hx1 hy hs; exact (taud_round hG hx hx1 hy hs).1
  | succ f ih =>
    intro X Y L x y s hG hx hx1 hy hs
    obtain ⟨h1, h2, X', Y', L', g1, g2, g3, g4⟩ := taud_round hG hx hx1 hy hs
    by_cases e : fsub s (tauT x y) = s
    · rw [tauL_stop e]; exact h1
    · rw [tauL_go e]; exact ih _ _ _ _ _ _ g1 g2 h2 g3 g4
theorem tw_lo {j : Nat} (h1 : 1 ≤ j) (h2 : j ≤ 8191) : lm ≤ tw j := by
  obtain ⟨X, L, g1, g2, g3⟩ := taud_start h1 h2
  have h := qw_mono (show j ≤ 8192 by omega)
  rw [qw_top] at h
  exact tauL_lo _ _ _ _ _ _ _ g1 g2 h (Nat.le_refl _) g3

theorem val_tri : val (pw 40) * val three * 2 ≤ val lm * val one := by decide +kernel
theorem lm_le_one : lm ≤ one := by decide
/-- tau's word is 0 or at least 2 ^ -40 -/
theorem tu_lo (j : Nat) (hj : j ≤ 8192) : tu j = 0 ∨ pw 40 ≤ tu j := by
  unfold tu
  by_cases h : j = 0 ∨ j = 8192
  · left; rw [if_pos h]
  · right
    rw [if_neg h]
    have h1 := tw_lo (j := j) (by omega) (by omega)
    have h2 := one_lt
    have h3 := tw_le (j := j)
    refine le_fdiv (by decide +kernel) (by omega) (by decide) three_lt ?_
    have := Nat.mul_le_mul_right (val one) (val_le h1)
    have := val_tri
    omega

/-! ### powers of two, exactly -/
theorem pow_split (a : Nat) : 1 * 2 ^ a * 2 ^ 1 = 2 ^ (a + 1) := by rw [Nat.one_mul, Nat.pow_add]
theorem pw_val_at {p : Nat} (hp : p = 1074) (k : Nat) : k ≤ 1000 → val (pw k) = 2 ^ (p - k) := by
  induction k with
  | zero =>
    intro _
    have h : pw 0 = one := by rw [pw]
    have e := val_one
    rw [← hp, Nat.one_mul] at e
    rw [h, e, Nat.sub_zero]
  | succ k ih =>
    intro hk
    have h := ih (by omega)
    obtain ⟨a, ha⟩ : ∃ a, p - k = a + 1 := ⟨1073 - k, by omega⟩
    have e2 : p - (k + 1) = a := by omega
    rw [ha] at h
    rw [pw_succ, fmul_comm, fmul_half, h, e2, ← pow_split]
    have := (val_rnd_rep (L := a) (k := 1) (s := 1) (by unfold B; omega) (by omega)).1
    rw [this, Nat.one_mul]
theorem pT_at {p : Nat} (hp : p = 1074) : pT = 2 ^ p := by subst hp; unfold pT; exact Eq.refl _
theorem pT_pos : 0 < pT := by decide +kernel
theorem pw_val {k : Nat} (hk : k ≤ 1000) : val (pw k) * 2 ^ k = pT := by
  obtain ⟨p, hp⟩ : ∃ p : Nat, p = 1074 := ⟨_, rfl⟩
  rw [pw_val_at hp k hk, pT_at hp, ← Nat.pow_add]
  refine congrArg (fun t => 2 ^ t) ?_
  omega
theorem val_one_pT : val one = pT := by decide +kernel
theorem pw_zero : pw 0 = one := by rw [pw]

/-- a product is one step, where it is 0 or not too small -/
theorem near_fmul {a b : Nat} (h : val a * val b = 0 ∨ B * pT ≤ val a * val b) (hf : fmul a b < inf) : near 1 (val (fmul a b) * pT) (val a * val b) := by
  obtain ⟨p, hp⟩ : ∃ p : Nat, p = 1074 := ⟨_, rfl⟩
  have hpT := pT_at hp
  unfold fmul at hf ⊢
  rw [← hp] at hf ⊢
  rw [hpT] at h ⊢
  exact near_rnd h hf

/-! ### the direct sum -/
def midw (zs : List Int) : Nat → Nat
  | 0 => 0
  | q + 1 => if (zs.getD q 0).toNat = 0 ∨ (zs.getD q 0).toNat = 52 then midw zs q else fadd (midw zs q) (pw (zs.getD q 0).toNat)
def msum (zs : List Int) : Nat → Nat
  | 0 => 0
  | q + 1 => if (zs.getD q 0).toNat = 0 ∨ (zs.getD q 0).toNat = 52 then msum zs q else msum zs q + 2 ^ (51 - (zs.getD q 0).toNat)

theorem midw_zero (zs : List Int) : midw zs 0 = 0 := by rw [midw]
theorem midw_skip {zs : List Int} {q : Nat} (h : (zs.getD q 0).toNat = 0 ∨ (zs.getD q 0).toNat = 52) : midw zs (q + 1) = midw zs q := by rw [midw, if_pos h]
theorem midw_add {zs : List Int} {q : Nat} (h : ¬ ((zs.getD q 0).toNat = 0 ∨ (zs.getD q 0).toNat = 52)) : midw zs (q + 1) = fadd (midw zs q) (pw (zs.getD q 0).toNat) := by rw [midw, if_neg h]
theorem msum_skip {zs : List Int} {q : Nat} (h : (zs.getD q 0).toNat = 0 ∨ (zs.getD q 0).toNat = 52) : msum zs (q + 1) = msum zs q := by rw [msum, if_pos h]
theorem msum_add {zs : List Int} {q : Nat} (h : ¬ ((zs.getD q 0).toNat = 0 ∨ (zs.getD q 0).toNat = 52)) : msum zs (q + 1) = msum zs q + 2 ^ (51 - (zs.getD q 0).toNat) := by rw [msum, if_neg h]

theorem fint_step {q : Nat} (h : q ≤ 8192) : fadd (fint q) one = fint (q + 1) := by
  unfold fadd
  rw [(val_fint (n := q) (by unfold B; omega)).1, val_one_pT]
  unfold fint
  rw [Nat.add_mul, Nat.one_mul]
theorem pw_le_one (k : Nat) : pw k ≤ one := by rw [← pw_zero]; exact pw_le (Nat.zero_le k)

theorem midw_le (zs : List Int) (q : Nat) : q ≤ 8192 → midw zs q ≤ fint q := by
  induction q with
  | zero => intro _; rw [midw_zero]; exact Nat.zero_le _
  | succ q ih =>
    intro hq
    have h := ih (by omega)
    by_cases e : (zs.getD q 0).toNat = 0 ∨ (zs.getD q 0).toNat = 52
    · rw [midw_skip e]; exact Nat.le_trans h (fint_mono (by omega))
    · rw [midw_add e, ← fint_step (by omega)]
      exact fadd_mono h (pw_le_one _)
theorem midw_em {zs : List Int} {q : Nat} (h : q ≤ 8192) : midw zs q ≤ em := by
  have h1 := midw_le zs q h
  have h2 := fint_mono h
  rw [fint_em] at h2
  omega

theorem midw_lo {zs : List Int} (hz : ∀ i, zs.getD i 0 ≤ 52) (q : Nat) : q ≤ 8192 → midw zs q = 0 ∨ pw 51 ≤ midw zs q := by
  induction q with
  | zero => intro _; left; exact midw_zero zs
  | succ q ih =>
    intro hq
    by_cases e : (zs.getD q 0).toNat = 0 ∨ (zs.getD q 0).toNat = 52
    · rw [midw_skip e]; exact ih (by omega)
    · right
      rw [midw_add e]
      have hr : (zs.getD q 0).toNat ≤ 51 := by have := hz q; omega
      have h2 := fadd_mono (Nat.zero_le (midw zs q)) (pw_le hr)
      rw [zero_fadd (Nat.le_of_lt (Nat.lt_of_le_of_lt (pw_le_one 51) one_lt))] at h2
      exact h2
theorem big_of {x k : Nat} (hk : k ≤ 300) (h : x = 0 ∨ pw k ≤ x) : Big x := by
  rcases h with h | h
  · exact .inl h
  · exact .inr (Nat.le_trans (pw_le hk) h)
theorem big_pw {k : Nat} (hk : k ≤ 300) : Big (pw k) := .inr (pw_le hk)

theorem midw_near {zs : List Int} (hz : ∀ i, zs.getD i 0 ≤ 52) (q : Nat) : q ≤ 8192 → near q (val (midw zs q) * 2 ^ 51) (msum zs q * pT) := by
  induction q with
  | zero => intro _; rw [midw_zero, val_zero, msum, Nat.zero_mul, Nat.zero_mul]; exact near_refl _ _
  | succ q ih =>
    intro hq
    have h := ih (by omega)
    by_cases e : (zs.getD q 0).toNat = 0 ∨ (zs.getD q 0).toNat = 52
    · rw [midw_skip e, msum_skip e]; exact near_mono h (by omega)
    · have hr : (zs.getD q 0).toNat ≤ 51 := by have := hz q; omega
      have hfin : fadd (midw zs q) (pw (zs.getD q 0).toNat) < inf := by
        rw [← midw_add e]; exact Nat.lt_of_le_of_lt (midw_em hq) em_lt
      rw [midw_add e, msum_add e]
      have h1 := near_fadd (big_of (by omega) (midw_lo hz q (by omega))) (big_pw (k := (zs.getD q 0).toNat) (by omega)) hfin
      have h2 := near_mul_r (2 ^ 51) h1
      have h3 : val (pw (zs.getD q 0).toNat) * 2 ^ 51 = 2 ^ (51 - (zs.getD q 0).toNat) * pT := by
        rw [← pw_val (k := (zs.getD q 0).toNat) (by omega), Nat.mul_left_comm, ← Nat.pow_add]
        congr 2
        omega
      rw [Nat.add_mul, h3] at h2
      have h4 := near_add h (near_refl q (2 ^ (51 - (zs.getD q 0).toNat) * pT))
      rw [← Nat.add_mul] at h4
      have := near_trans h2 h4
      rw [Nat.add_comm] at this
      exact this
end Go.Proofs.Qxb6604680a.Fl
