import Ieee.Arith
namespace Go.Proofs.Qxb6604680a.Fl
open Ieee

/-- the nearest whole number to 'n / g', ties to even -/
def rhe (n g : Nat) : Nat := if g < 2 * (n % g) ∨ (g = 2 * (n % g) ∧ n / g % 2 = 1) then n / g + 1 else n / g

theorem rhe_lo (n g : Nat) (hg : 0 < g) : 2 * n ≤ 2 * (rhe n g * g) + g := by
  unfold rhe
  have h := Nat.div_add_mod n g
  have hm := Nat.mod_lt n hg
  rw [Nat.mul_comm] at h
  generalize n / g = q at *
  generalize n % g = r at *
  split
  · rw [Nat.add_mul]; omega
  · omega

theorem rhe_hi (n g : Nat) (hg : 0 < g) : 2 * (rhe n g * g) ≤ 2 * n + g := by
  unfold rhe
  have h := Nat.div_add_mod n g
  have hm := Nat.mod_lt n hg
  rw [Nat.mul_comm] at h
  generalize n / g = q at *
  generalize n % g = r at *
  split
  · rw [Nat.add_mul]; omega
  · omega

theorem rhe_mono (a b g : Nat) (hg : 0 < g) (hab : a ≤ b) : rhe a g ≤ rhe b g := by
  unfold rhe
  have ha := Nat.div_add_mod a g
  have hb := Nat.div_add_mod b g
  have hq : a / g ≤ b / g := Nat.div_le_div_right hab
  have hma := Nat.mod_lt a hg
  have hmb := Nat.mod_lt b hg
  by_cases hlt : a / g < b / g
  · split <;> split <;> omega
  · have e : a / g = b / g := by omega
    rw [e] at ha ⊢
    have hr : a % g ≤ b % g := by omega
    split <;> split <;> omega

theorem rhe_exact (k g : Nat) (hg : 0 < g) : rhe (k * g) g = k := by
  unfold rhe
  rw [Nat.mul_div_cancel _ hg, Nat.mul_mod_left, if_neg (by omega)]

theorem rhe_scale (n g a : Nat) (ha : 0 < a) : rhe (n * a) (g * a) = rhe n g := by
  unfold rhe
  rw [Nat.mul_div_mul_right _ _ ha, Nat.mul_mod_mul_right, ← Nat.mul_assoc]
  have e1 : (g * a < 2 * (n % g) * a) = (g < 2 * (n % g)) := by simp [Nat.mul_lt_mul_right ha]
  have e2 : (g * a = 2 * (n % g) * a) = (g = 2 * (n % g)) :=
    propext ⟨fun h => Nat.eq_of_mul_eq_mul_right ha h, fun h => by rw [← h]⟩
  simp only [e1, e2]

theorem rhe_small (n g : Nat) (h : 2 * n < g) : rhe n g = 0 := by
  unfold rhe
  rw [Nat.div_eq_of_lt (by omega), Nat.mod_eq_of_lt (by omega), if_neg (by omega)]

theorem cut_rhe (n g : Nat) : n / g + (decide (g < 2 * (n % g)) || (g == 2 * (n % g) && n / g % 2 == 1)).toNat = rhe n g := by
  unfold rhe
  by_cases h : g < 2 * (n % g) ∨ (g = 2 * (n % g) ∧ n / g % 2 = 1)
  · rw [if_pos h]
    have : (decide (g < 2 * (n % g)) || (g == 2 * (n % g) && n / g % 2 == 1)) = true := by simpa using h
    rw [this]; rfl
  · rw [if_neg h]
    have : (decide (g < 2 * (n % g)) || (g == 2 * (n % g) && n / g % 2 == 1)) = false := by
      rw [← Bool.not_eq_true]; simpa using h
    rw [this]; rfl

/-- the model's cut is 'rhe' -/
theorem cut_eq (neg : Bool) (n d : Nat) : Toward.even.cut neg n d = rhe n (2 ^ d) := by
  unfold Toward.cut
  dsimp only
  by_cases h : d ≤ n.log2 + 2
  · rw [Nat.min_eq_left h, Nat.one_shiftLeft, cut_rhe]
  · rw [Nat.min_eq_right (by omega), Nat.one_shiftLeft, cut_rhe]
    have h1 : n < 2 ^ (n.log2 + 1) := Nat.lt_log2_self
    have h2 : 2 * n < 2 ^ (n.log2 + 2) := by rw [Nat.pow_succ 2 (n.log2 + 1)]; omega
    have h3 : 2 ^ (n.log2 + 2) ≤ 2 ^ d := Nat.pow_le_pow_right (by decide) (by omega)
    rw [rhe_small n (2 ^ d) (by omega), rhe_small n _ h2]

/-! ### rungs and what they stand for, in units of 2 ^ -1074 -/
def B : Nat := 2 ^ 52
theorem B_pos : 0 < B := Nat.two_pow_pos _

/-- the exponent of two of the last digit of rung 'r' -/
def ex (r : Nat) : Nat := r / B - 1
def val (r : Nat) : Nat := (r - ex r * B) * 2 ^ ex r

theorem ex_zero {r : Nat} (h : r < 2 * B) : ex r = 0 := by
  unfold ex
  have : r / B < 2 := Nat.div_lt_of_lt_mul (by omega)
  omega

/-- the form in which a rounding gives its rung -/
theorem ex_of {L k : Nat} (h1 : B ≤ k) (h2 : k < 2 * B) : ex (L * B + k) = L := by
  unfold ex
  have hb := B_pos
  have : (L * B + k) / B = L + 1 := by
    rw [Nat.add_comm, Nat.add_mul_div_right _ _ hb]
    have : k / B = 1 := by
      rw [Nat.div_eq_iff hb]; omega
    omega
  omega

theorem val_of {L k : Nat} (h : L = 0 ∨ B ≤ k) (h2 : k ≤ 2 * B) : val (L * B + k) = k * 2 ^ L := by
  have hb := B_pos
  by_cases hk : k = 2 * B
  · subst hk
    have e : L * B + 2 * B = (L + 1) * B + B := by rw [Nat.add_mul]; omega
    rw [e]; unfold val
    rw [ex_of (Nat.le_refl _) (by omega)]
    rw [Nat.add_sub_cancel_left, Nat.pow_succ, ← Nat.mul_assoc]
    rw [Nat.mul_comm 2 B, Nat.mul_right_comm B 2]
  · by_cases hkb : B ≤ k
    · unfold val; rw [ex_of hkb (by omega), Nat.add_sub_cancel_left]
    · have : L = 0 := by omega
      subst this
      unfold val
      rw [ex_zero (by omega)]; simp

/-- every rung has that form -/
theorem rung_form (r : Nat) : ∃ k, r = ex r * B + k ∧ (ex r = 0 ∨ B ≤ k) ∧ k < 2 * B ∧ val r = k * 2 ^ ex r := by
  have hb := B_pos
  have hd := Nat.div_add_mod r B
  have hm := Nat.mod_lt r hb
  rw [Nat.mul_comm] at hd
  refine ⟨r - ex r * B, ?_, ?_, ?_, rfl⟩
  · unfold ex
    have : (r / B - 1) * B ≤ r / B * B := Nat.mul_le_mul_right _ (Nat.sub_le _ _)
    omega
  · unfold ex
    by_cases h : r / B = 0
    · left; omega
    · right
      rw [Nat.sub_mul]
      have : B ≤ r / B * B := Nat.le_mul_of_pos_left _ (Nat.pos_of_ne_zero h)
      omega
  · unfold ex
    rw [Nat.sub_mul]
    omega

theorem val_zero : val 0 = 0 := by unfold val; simp

theorem val_succ (r : Nat) : val (r + 1) = val r + 2 ^ ex r := by
  obtain ⟨k, hr, h1, h2, hv⟩ := rung_form r
  have e : r + 1 = ex r * B + (k + 1) := by omega
  rw [hv]
  conv => lhs; rw [e]
  rw [val_of (by omega) (by omega), Nat.add_mul, Nat.one_mul]

theorem val_lt {a b : Nat} (h : a < b) : val a < val b := by
  induction b with
  | zero => omega
  | succ b ih =>
    rw [val_succ]
    have := Nat.two_pow_pos (ex b)
    by_cases e : a = b
    · subst e; omega
    · have := ih (by omega); omega

theorem val_le {a b : Nat} (h : a ≤ b) : val a ≤ val b := by
  by_cases e : a = b
  · subst e; exact Nat.le_refl _
  · exact Nat.le_of_lt (val_lt (by omega))

theorem le_of_val {a b : Nat} (h : val a ≤ val b) : a ≤ b := by
  by_cases e : a ≤ b
  · exact e
  · have := val_lt (show b < a by omega); omega

/-! ### rounding 'M / 2 ^ s' (units) to a rung -/
def rn (M s : Nat) : Nat := (M.log2 - (s + 52)) * B + rhe M (2 ^ (s + (M.log2 - (s + 52))))

theorem rn_zero (s : Nat) : rn 0 s = 0 := by
  unfold rn
  have : Nat.log2 0 = 0 := by decide
  rw [this, rhe_small _ _ (by simpa using Nat.two_pow_pos _)]
  simp

/-- what the rounding keeps -/
theorem rn_form (M s : Nat) : ∃ L k, rn M s = L * B + k ∧ k = rhe M (2 ^ (s + L)) ∧ (L = 0 ∨ B ≤ k) ∧ k ≤ 2 * B ∧ L = M.log2 - (s + 52) ∧ (L = 0 ∨ 2 ^ (s + L + 52) ≤ M) ∧ M < 2 ^ (s + L + 53) := by
  refine ⟨_, _, rfl, rfl, ?_, ?_, rfl, ?_, ?_⟩
  · by_cases h : M.log2 - (s + 52) = 0
    · exact .inl h
    · right
      have hM : M ≠ 0 := by intro e; subst e; simp [Nat.log2_zero] at h
      have h1 : 2 ^ M.log2 ≤ M := Nat.log2_self_le hM
      have e : M.log2 = 52 + (s + (M.log2 - (s + 52))) := by omega
      have := rhe_mono _ M (2 ^ (s + (M.log2 - (s + 52)))) (Nat.two_pow_pos _) (show B * 2 ^ (s + (M.log2 - (s + 52))) ≤ M by
        unfold B; rw [← Nat.pow_add, ← e]; exact h1)
      rwa [rhe_exact _ _ (Nat.two_pow_pos _)] at this
  · have h1 : M < 2 ^ (M.log2 + 1) := Nat.lt_log2_self
    have h2 : M ≤ 2 * B * 2 ^ (s + (M.log2 - (s + 52))) := by
      have e : 2 * B * 2 ^ (s + (M.log2 - (s + 52))) = 2 ^ (53 + (s + (M.log2 - (s + 52)))) := by
        unfold B; rw [Nat.pow_add 2 53]; 
      rw [e]
      exact Nat.le_trans (Nat.le_of_lt h1) (Nat.pow_le_pow_right (by decide) (by omega))
    have := rhe_mono M _ (2 ^ (s + (M.log2 - (s + 52)))) (Nat.two_pow_pos _) h2
    rwa [rhe_exact _ _ (Nat.two_pow_pos _)] at this
  · by_cases h : M.log2 - (s + 52) = 0
    · exact .inl h
    · right
      have hM : M ≠ 0 := by intro e; subst e; simp [Nat.log2_zero] at h
      have h1 : 2 ^ M.log2 ≤ M := Nat.log2_self_le hM
      exact Nat.le_trans (Nat.pow_le_pow_right (by decide) (by omega)) h1
  · have h1 : M < 2 ^ (M.log2 + 1) := Nat.lt_log2_self
    exact Nat.lt_of_lt_of_le h1 (Nat.pow_le_pow_right (by decide) (by omega))

/-- monotone, at one denominator -/
theorem rn_mono0 {M N s : Nat} (h : M ≤ N) : rn M s ≤ rn N s := by
  obtain ⟨L, k, e1, hk, h1, h2, hL, _, _⟩ := rn_form M s
  obtain ⟨L', k', e1', hk', h1', h2', hL', _, _⟩ := rn_form N s
  rw [e1, e1']
  have hl : M.log2 ≤ N.log2 := by
    by_cases hM : M = 0
    · subst hM; rw [Nat.log2_zero]; omega
    · exact (Nat.le_log2 (by omega)).2 (Nat.le_trans (Nat.log2_self_le hM) h)
  by_cases e : L = L'
  · subst e
    have := rhe_mono M N (2 ^ (s + L)) (Nat.two_pow_pos _) h
    omega
  · have hlt : L < L' := by omega
    have : (L + 1) * B ≤ L' * B := Nat.mul_le_mul_right _ (by omega)
    rw [Nat.add_mul] at this
    omega

theorem log2_scale (M a : Nat) (hM : M ≠ 0) : (M * 2 ^ a).log2 = M.log2 + a := by
  have h0 : M * 2 ^ a ≠ 0 := Nat.mul_ne_zero hM (Nat.ne_of_gt (Nat.two_pow_pos a))
  rw [Nat.log2_eq_iff h0]
  have h1 := Nat.log2_self_le hM
  have h2 : M < 2 ^ (M.log2 + 1) := Nat.lt_log2_self
  constructor
  · rw [Nat.pow_add]; exact Nat.mul_le_mul_right _ h1
  · rw [show M.log2 + a + 1 = (M.log2 + 1) + a by omega, Nat.pow_add]
    exact Nat.mul_lt_mul_of_pos_right h2 (Nat.two_pow_pos a)

theorem rn_scale (M s a : Nat) (hM : M ≠ 0) : rn (M * 2 ^ a) (s + a) = rn M s := by
  unfold rn
  have : (M * 2 ^ a).log2 = M.log2 + a := by exact log2_scale M a hM
  rw [this]
  have e : M.log2 + a - (s + a + 52) = M.log2 - (s + 52) := by omega
  rw [e]
  congr 1
  have e2 : s + a + (M.log2 - (s + 52)) = (s + (M.log2 - (s + 52))) + a := by omega
  rw [e2, Nat.pow_add, rhe_scale _ _ _ (Nat.two_pow_pos _)]

theorem rn_scale' (M s a : Nat) : rn (M * 2 ^ a) (s + a) = rn M s := by
  by_cases hM : M = 0
  · subst hM; rw [Nat.zero_mul, rn_zero, rn_zero]
  · exact rn_scale M s a hM

theorem rn_mono {M s N t : Nat} (h : M * 2 ^ t ≤ N * 2 ^ s) : rn M s ≤ rn N t := by
  rw [← rn_scale' M s t, ← rn_scale' N t s, Nat.add_comm t s]
  exact rn_mono0 h

theorem rn_exact (r s : Nat) : rn (val r * 2 ^ s) s = r := by
  have := rn_scale' (val r) 0 s
  rw [Nat.zero_add] at this
  rw [this]
  obtain ⟨k, hr, h1, h2, hv⟩ := rung_form r
  by_cases h0 : val r = 0
  · rw [h0, rn_zero]
    by_cases hr0 : r = 0
    · exact hr0.symm
    · have := val_lt (show 0 < r by omega); rw [val_zero] at this; omega
  · obtain ⟨L, k', e1, hk, g1, g2, hL, g3, g4⟩ := rn_form (val r) 0
    rw [e1]
    have hLe : L = ex r := by
      rw [hL, hv, log2_scale _ _ (by intro h; subst h; simp [hv] at h0)]
      rcases h1 with h1 | h1
      · rw [h1]
        have : k.log2 < 53 := (Nat.log2_lt (by intro h; subst h; simp [hv] at h0)).2 (by unfold B at h2; omega)
        omega
      · have hk0 : k ≠ 0 := by have := B_pos; omega
        have a1 : k.log2 < 53 := (Nat.log2_lt hk0).2 (by unfold B at h2; omega)
        have a2 : 52 ≤ k.log2 := (Nat.le_log2 hk0).2 h1
        omega
    rw [hk, hv, hLe, Nat.zero_add, rhe_exact _ _ (Nat.two_pow_pos _)]
    exact hr.symm

theorem le_rn {r M s : Nat} (h : val r * 2 ^ s ≤ M) : r ≤ rn M s := by
  have := rn_mono0 (s := s) h
  rwa [rn_exact] at this
theorem rn_le {r M s : Nat} (h : M ≤ val r * 2 ^ s) : rn M s ≤ r := by
  have := rn_mono0 (s := s) h
  rwa [rn_exact] at this
end Go.Proofs.Qxb6604680a.Fl
namespace Go.Proofs.Qxb6604680a.Fl
open Ieee

def inf : Nat := 2047 * B
/-- the rounding as the format has it: too great a number is infinity -/
def rnd (M s : Nat) : Nat := min (rn M s) inf

theorem d_binade : double.binade = B := rfl
theorem d_inf : double.infRung = inf := rfl
theorem d_sign : double.signWeight = 2048 * B := by unfold Format.signWeight B; rfl
theorem d_least : double.leastPlace = -1074 := by decide
theorem d_word (r : Nat) : double.word false r = r := rfl

/-- the number that a rung below infinity stands for -/
theorem read_pos {r : Nat} (h : r < inf) : ∃ m i, double.read r = .number false m i ∧ -1074 ≤ i ∧ m * 2 ^ (i + 1074).toNat = val r ∧ (m = 0 ↔ r = 0) ∧ m < 2 * B := by
  have hb := B_pos
  unfold Format.read
  rw [d_sign, d_binade, d_inf, d_least]
  unfold inf at h
  have e1 : r / (2048 * B) = 0 := Nat.div_eq_of_lt (by omega)
  have e2 : r % (2048 * B) = r := Nat.mod_eq_of_lt (by omega)
  rw [e1, e2]
  dsimp only
  by_cases h1 : r < B
  · rw [if_pos h1]
    refine ⟨r, -1074, rfl, by omega, ?_, Iff.rfl, by omega⟩
    unfold val; rw [ex_zero (by omega)]; simp
  · rw [if_neg h1, if_pos (by unfold inf; omega)]
    have hm := Nat.mod_lt r hb
    refine ⟨_, _, rfl, by omega, ?_, by omega, by omega⟩
    have e3 : (-1074 + ((r / B - 1 : Nat) : Int) + 1074).toNat = ex r := by unfold ex; omega
    rw [e3]
    unfold val
    congr 1
    have hd := Nat.div_add_mod r B
    rw [Nat.mul_comm] at hd
    have h0 : r / B ≠ 0 := by
      intro h; rw [h] at hd; omega
    unfold ex
    rw [Nat.sub_mul]
    have : B ≤ r / B * B := Nat.le_mul_of_pos_left _ (Nat.pos_of_ne_zero h0)
    omega

theorem read_inf : double.read inf = .infinity false := by decide +kernel

/-- the model's rounding is ours -/
theorem nearest_eq (m : Nat) (i : Int) : double.nearest false m i = rnd (m * 2 ^ (i + 1074).toNat) (-1074 - i).toNat := by
  unfold Format.nearest rnd
  by_cases h : m = 0
  · subst h; rw [if_pos rfl, Nat.zero_mul, rn_zero]; rfl
  · rw [if_neg h]
    dsimp only
    rw [d_word, d_least, d_binade, d_inf, cut_eq]
    refine congrArg (fun t => min t inf) ?_
    unfold rn
    rw [log2_scale _ _ h]
    have ef : (double.fractionBits : Int) = 52 := rfl
    rw [ef]
    -- the two cases
    by_cases hi : -1074 ≤ i
    · have e1 : (-1074 - i).toNat = 0 := by omega
      rw [e1]
      obtain ⟨a, ha⟩ : ∃ a : Nat, i = -1074 + a := ⟨(i + 1074).toNat, by omega⟩
      subst ha
      have e2 : ((-1074 : Int) + a + 1074).toNat = a := by omega
      rw [e2]
      by_cases hl : m.log2 + a ≤ 52
      · have e3 : m.log2 + a - (0 + 52) = 0 := by omega
        have e4 : max ((-1074 : Int) + a + m.log2 - 52) (-1074) = -1074 := by omega
        rw [e3, e4]
        have e5 : ((-1074 : Int) - (-1074)).toNat = 0 := by omega
        have e6 : ((-1074 : Int) + a - (-1074)).toNat = a := by omega
        have e7 : ((-1074 : Int) - (-1074 + a)).toNat = 0 := by omega
        rw [e5, e6, e7, Nat.shiftLeft_eq]
      · have e4 : max ((-1074 : Int) + a + m.log2 - 52) (-1074) = -1074 + (m.log2 + a - 52 : Nat) := by omega
        rw [e4]
        have e5 : ((-1074 : Int) + (m.log2 + a - 52 : Nat) - (-1074)).toNat = m.log2 + a - (0 + 52) := by omega
        rw [e5]
        congr 1
        by_cases hq : m.log2 ≤ 52
        · have e6 : ((-1074 : Int) + a - (-1074 + (m.log2 + a - 52 : Nat))).toNat = 52 - m.log2 := by omega
          have e7 : ((-1074 : Int) + (m.log2 + a - 52 : Nat) - (-1074 + a)).toNat = 0 := by omega
          rw [e6, e7, Nat.shiftLeft_eq]
          have e8 : a = (52 - m.log2) + (m.log2 + a - 52) := by omega
          have e9 : 0 + (m.log2 + a - (0 + 52)) = 0 + (m.log2 + a - 52) := by omega
          rw [e9]
          conv => rhs; rw [e8, Nat.pow_add, ← Nat.mul_assoc]
          rw [← e8, Nat.pow_add, rhe_scale _ _ _ (Nat.two_pow_pos _)]
        · have e6 : ((-1074 : Int) + a - (-1074 + (m.log2 + a - 52 : Nat))).toNat = 0 := by omega
          have e7 : ((-1074 : Int) + (m.log2 + a - 52 : Nat) - (-1074 + a)).toNat = m.log2 - 52 := by omega
          rw [e6, e7, Nat.shiftLeft_eq, Nat.pow_zero, Nat.mul_one]
          have e9 : 0 + (m.log2 + a - (0 + 52)) = (m.log2 - 52) + a := by omega
          rw [e9, Nat.pow_add, rhe_scale _ _ _ (Nat.two_pow_pos _)]
    · obtain ⟨a, ha⟩ : ∃ a : Nat, i = -1074 - a := ⟨(-1074 - i).toNat, by omega⟩
      subst ha
      have e2 : ((-1074 : Int) - a + 1074).toNat = 0 := by omega
      have e1 : ((-1074 : Int) - (-1074 - a)).toNat = a := by omega
      rw [e1, e2, Nat.pow_zero, Nat.mul_one, Nat.add_zero]
      have e4 : max ((-1074 : Int) - a + m.log2 - 52) (-1074) = -1074 + (m.log2 - (a + 52) : Nat) := by omega
      rw [e4]
      have e5 : ((-1074 : Int) + (m.log2 - (a + 52) : Nat) - (-1074)).toNat = m.log2 - (a + 52) := by omega
      have e6 : ((-1074 : Int) - a - (-1074 + (m.log2 - (a + 52) : Nat))).toNat = 0 := by omega
      have e7 : ((-1074 : Int) + (m.log2 - (a + 52) : Nat) - (-1074 - a)).toNat = a + (m.log2 - (a + 52)) := by omega
      rw [e5, e6, e7, Nat.shiftLeft_eq, Nat.pow_zero, Nat.mul_one]

theorem rnd_scale (M s a : Nat) : rnd (M * 2 ^ a) (s + a) = rnd M s := by
  unfold rnd; rw [rn_scale']

theorem rnd_eq {M s N t : Nat} (h : M * 2 ^ t = N * 2 ^ s) : rnd M s = rnd N t := by
  unfold rnd
  rw [Nat.le_antisymm (rn_mono (Nat.le_of_eq h)) (rn_mono (Nat.le_of_eq h.symm))]

theorem rnd_mono {M s N t : Nat} (h : M * 2 ^ t ≤ N * 2 ^ s) : rnd M s ≤ rnd N t := by
  unfold rnd
  have := rn_mono h
  omega

theorem rnd_le_inf (M s : Nat) : rnd M s ≤ inf := Nat.min_le_right _ _

theorem rnd_exact {r : Nat} (h : r ≤ inf) (s : Nat) : rnd (val r * 2 ^ s) s = r := by
  unfold rnd; rw [rn_exact]; omega

theorem le_rnd {r M s : Nat} (hr : r ≤ inf) (h : val r * 2 ^ s ≤ M) : r ≤ rnd M s := by
  unfold rnd; have := le_rn h; omega
theorem rnd_le {r M s : Nat} (h : M ≤ val r * 2 ^ s) : rnd M s ≤ r := by
  unfold rnd; have := rn_le h; omega

theorem add_pos {a b : Nat} (ha : a < inf) (hb : b < inf) : double.add a b = some (rnd (val a + val b) 0) := by
  obtain ⟨m, i, h1, h2, h3, _, _⟩ := read_pos ha
  obtain ⟨n, j, g1, g2, g3, _, _⟩ := read_pos hb
  unfold Format.add
  rw [h1, g1]
  simp only [Datum.sum, Option.map_some, Format.write]
  congr 1
  simp only [signed, Bool.false_eq_true, if_false, Bool.and_self, Nat.shiftLeft_eq]
  have e : ((if ((m * 2 ^ (i - min i j).toNat : Nat) : Int) + ((n * 2 ^ (j - min i j).toNat : Nat) : Int) = 0 then false else decide (((m * 2 ^ (i - min i j).toNat : Nat) : Int) + ((n * 2 ^ (j - min i j).toNat : Nat) : Int) < 0))) = false := by
    split
    · rfl
    · exact decide_eq_false (by omega)
  rw [e, nearest_eq]
  rw [show (((m * 2 ^ (i - min i j).toNat : Nat) : Int) + ((n * 2 ^ (j - min i j).toNat : Nat) : Int)).natAbs = m * 2 ^ (i - min i j).toNat + n * 2 ^ (j - min i j).toNat by omega]
  rw [show (-1074 - min i j).toNat = 0 by omega, Nat.add_mul, Nat.mul_assoc, Nat.mul_assoc, ← Nat.pow_add, ← Nat.pow_add, ← h3, ← g3]
  rw [show (i - min i j).toNat + (min i j + 1074).toNat = (i + 1074).toNat by omega, show (j - min i j).toNat + (min i j + 1074).toNat = (j + 1074).toNat by omega]

theorem sub_pos {a b : Nat} (ha : a < inf) (hba : b ≤ a) : double.sub a b = some (rnd (val a - val b) 0) := by
  obtain ⟨m, i, h1, h2, h3, _, _⟩ := read_pos ha
  obtain ⟨n, j, g1, g2, g3, _, _⟩ := read_pos (show b < inf by omega)
  have hv := val_le hba
  unfold Format.sub
  rw [h1, g1]
  simp only [Datum.sum, Datum.opposite, Option.map_some, Format.write]
  congr 1
  simp only [signed, Bool.false_eq_true, if_false, Bool.not_false, if_true, Bool.false_and, Nat.shiftLeft_eq]
  have k1 : m * 2 ^ (i + 1074).toNat = m * 2 ^ (i - min i j).toNat * 2 ^ (min i j + 1074).toNat := by
    rw [Nat.mul_assoc, ← Nat.pow_add, show (i - min i j).toNat + (min i j + 1074).toNat = (i + 1074).toNat by omega]
  have k2 : n * 2 ^ (j + 1074).toNat = n * 2 ^ (j - min i j).toNat * 2 ^ (min i j + 1074).toNat := by
    rw [Nat.mul_assoc, ← Nat.pow_add, show (j - min i j).toNat + (min i j + 1074).toNat = (j + 1074).toNat by omega]
  rw [k1] at h3; rw [k2] at g3
  generalize m * 2 ^ (i - min i j).toNat = x at *
  generalize n * 2 ^ (j - min i j).toNat = y at *
  have hxy : y ≤ x := by
    rw [← h3, ← g3] at hv
    exact Nat.le_of_mul_le_mul_right hv (Nat.two_pow_pos _)
  have e : ((if (x : Int) + -(y : Int) = 0 then false else decide ((x : Int) + -(y : Int) < 0))) = false := by
    split
    · rfl
    · exact decide_eq_false (by omega)
  rw [e, nearest_eq]
  rw [show ((x : Int) + -(y : Int)).natAbs = x - y by omega, show (-1074 - min i j).toNat = 0 by omega, Nat.sub_mul, h3, g3]

theorem mul_pos_at (p : Nat) (hp : p = 1074) {a b : Nat} (ha : a < inf) (hb : b < inf) : double.mul a b = some (rnd (val a * val b) p) := by
  obtain ⟨m, i, h1, h2, h3, _, _⟩ := read_pos ha
  obtain ⟨n, j, g1, g2, g3, _, _⟩ := read_pos hb
  unfold Format.mul
  rw [h1, g1]
  simp only [Datum.product, Option.map_some, Format.write, Bool.xor_self]
  congr 1
  rw [nearest_eq]
  apply rnd_eq
  rw [← h3, ← g3]
  rw [Nat.mul_assoc (m * n), ← Nat.pow_add, Nat.mul_mul_mul_comm m, ← Nat.pow_add, Nat.mul_assoc (m * n), ← Nat.pow_add]
  refine congrArg (fun t => m * n * 2 ^ t) ?_
  omega

theorem mul_pos {a b : Nat} (ha : a < inf) (hb : b < inf) : double.mul a b = some (rnd (val a * val b) 1074) := mul_pos_at 1074 rfl ha hb

theorem order_pos {a b : Nat} (ha : a ≤ inf) (hb : b ≤ inf) : double.order a b = some (compare a b) := by
  unfold Format.order
  by_cases ea : a = inf
  · subst ea
    rw [read_inf]
    by_cases eb : b = inf
    · subst eb; rw [read_inf]; simp [Datum.order]
    · obtain ⟨n, j, g1, g2, g3, _, _⟩ := read_pos (show b < inf by omega)
      rw [g1]; simp only [Datum.order, Bool.false_eq_true, if_false]
      rw [Nat.compare_eq_gt.2 (by omega)]
  · obtain ⟨m, i, h1, h2, h3, _, _⟩ := read_pos (show a < inf by omega)
    rw [h1]
    by_cases eb : b = inf
    · subst eb; rw [read_inf]; simp only [Datum.order, Bool.false_eq_true, if_false]
      rw [Nat.compare_eq_lt.2 (by omega)]
    · obtain ⟨n, j, g1, g2, g3, _, _⟩ := read_pos (show b < inf by omega)
      rw [g1]
      simp only [Datum.order, signed, Bool.false_eq_true, if_false, Nat.shiftLeft_eq]
      congr 1
      have k1 : m * 2 ^ (i + 1074).toNat = m * 2 ^ (i - min i j).toNat * 2 ^ (min i j + 1074).toNat := by
        rw [Nat.mul_assoc, ← Nat.pow_add, show (i - min i j).toNat + (min i j + 1074).toNat = (i + 1074).toNat by omega]
      have k2 : n * 2 ^ (j + 1074).toNat = n * 2 ^ (j - min i j).toNat * 2 ^ (min i j + 1074).toNat := by
        rw [Nat.mul_assoc, ← Nat.pow_add, show (j - min i j).toNat + (min i j + 1074).toNat = (j + 1074).toNat by omega]
      rw [k1] at h3; rw [k2] at g3
      generalize m * 2 ^ (i - min i j).toNat = x at *
      generalize n * 2 ^ (j - min i j).toNat = y at *
      have hp := Nat.two_pow_pos (min i j + 1074).toNat
      rcases Nat.lt_trichotomy a b with h | h | h
      · have hv := val_lt h
        rw [← h3, ← g3] at hv
        have := Nat.lt_of_mul_lt_mul_right hv
        rw [Nat.compare_eq_lt.2 h, Int.compare_eq_lt.2 (by omega)]
      · subst h
        rw [← g3] at h3
        have := Nat.eq_of_mul_eq_mul_right hp h3
        subst this
        simp
      · have hv := val_lt h
        rw [← h3, ← g3] at hv
        have := Nat.lt_of_mul_lt_mul_right hv
        rw [Nat.compare_eq_gt.2 h, Int.compare_eq_gt.2 (by omega)]
end Go.Proofs.Qxb6604680a.Fl
