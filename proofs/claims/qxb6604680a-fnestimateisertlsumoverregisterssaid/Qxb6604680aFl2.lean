import Derived.Test.Qxb6604680aFl
namespace Go.Proofs.Qxb6604680a.Fl
open Ieee

def fadd (a b : Nat) : Nat := rnd (val a + val b) 0
def fsub (a b : Nat) : Nat := rnd (val a - val b) 0
def fmul (a b : Nat) : Nat := rnd (val a * val b) 1074
def fdiv (a b : Nat) : Nat := (double.div a b).getD 0
def fsqrt (a : Nat) : Nat := (double.sqrt a).getD 0
/-- 'float64(n)' -/
def pT : Nat := 2 ^ 1074
def fint (n : Nat) : Nat := rnd (n * pT) 0

theorem fadd_mono {a b c d : Nat} (h1 : a ≤ c) (h2 : b ≤ d) : fadd a b ≤ fadd c d := by
  unfold fadd
  apply rnd_mono
  have := val_le h1; have := val_le h2
  simp; omega
theorem fsub_mono {a b c d : Nat} (h1 : a ≤ c) (h2 : d ≤ b) : fsub a b ≤ fsub c d := by
  unfold fsub
  apply rnd_mono
  have := val_le h1; have := val_le h2
  simp; omega
theorem fmul_mono {a b c d : Nat} (h1 : a ≤ c) (h2 : b ≤ d) : fmul a b ≤ fmul c d := by
  unfold fmul
  apply rnd_mono
  exact Nat.mul_le_mul_right _ (Nat.mul_le_mul (val_le h1) (val_le h2))
theorem fadd_zero {a : Nat} (h : a ≤ inf) : fadd a 0 = a := by
  unfold fadd; rw [val_zero]
  have := rnd_exact h 0
  simpa using this
theorem zero_fadd {a : Nat} (h : a ≤ inf) : fadd 0 a = a := by
  unfold fadd; rw [val_zero]
  have := rnd_exact h 0
  simpa using this
theorem fsub_zero {a : Nat} (h : a ≤ inf) : fsub a 0 = a := by
  unfold fsub; rw [val_zero]
  have := rnd_exact h 0
  simpa using this
theorem fmul_zero (a : Nat) : fmul a 0 = 0 := by
  unfold fmul rnd; rw [val_zero, Nat.mul_zero, rn_zero]; simp
theorem zero_fmul (a : Nat) : fmul 0 a = 0 := by
  unfold fmul rnd; rw [val_zero, Nat.zero_mul, rn_zero]; simp
theorem fadd_le_inf (a b : Nat) : fadd a b ≤ inf := rnd_le_inf _ _
theorem fmul_le_inf (a b : Nat) : fmul a b ≤ inf := rnd_le_inf _ _
theorem fsub_le_inf (a b : Nat) : fsub a b ≤ inf := rnd_le_inf _ _
theorem fsub_le {a b : Nat} (ha : a ≤ inf) : fsub a b ≤ a := by
  have := fsub_mono (a := a) (b := b) (c := a) (d := 0) (Nat.le_refl _) (Nat.zero_le _)
  rwa [fsub_zero ha] at this
theorem le_fadd {a b : Nat} (ha : a ≤ inf) : a ≤ fadd a b := by
  have := fadd_mono (a := a) (b := 0) (c := a) (d := b) (Nat.le_refl _) (Nat.zero_le _)
  rwa [fadd_zero ha] at this

/-! ### what the format holds exactly -/
theorem rep (L : Nat) : ∀ k, k ≤ 2 * B → ∃ r, val r = k * 2 ^ L ∧ r ≤ L * B + k := by
  induction L with
  | zero => intro k hk; exact ⟨0 * B + k, val_of (.inl rfl) hk, Nat.le_refl _⟩
  | succ L ih =>
    intro k hk
    by_cases h : B ≤ k
    · exact ⟨(L + 1) * B + k, val_of (.inr h) hk, Nat.le_refl _⟩
    · obtain ⟨r, h1, h2⟩ := ih (2 * k) (by omega)
      refine ⟨r, ?_, ?_⟩
      · rw [h1, Nat.pow_succ, Nat.mul_comm 2 k, Nat.mul_assoc, Nat.mul_comm 2]
      · rw [Nat.add_mul]; omega

theorem val_rnd_rep {L k s : Nat} (hk : k ≤ 2 * B) (hL : L ≤ 2040) : val (rnd (k * 2 ^ L * 2 ^ s) s) = k * 2 ^ L ∧ rnd (k * 2 ^ L * 2 ^ s) s < inf := by
  obtain ⟨r, h1, h2⟩ := rep L k hk
  have hb := B_pos
  have h3 : L * B ≤ 2040 * B := Nat.mul_le_mul_right _ hL
  rw [← h1, rnd_exact (by unfold inf; omega)]
  exact ⟨rfl, by unfold inf; omega⟩

theorem val_fint {n : Nat} (h : n ≤ 2 * B) : val (fint n) = n * pT ∧ fint n < inf := by
  have := val_rnd_rep (L := 1074) (k := n) (s := 0) h (by decide)
  unfold fint pT
  rw [Nat.pow_zero, Nat.mul_one] at this
  exact this

theorem fint_mono {a b : Nat} (h : a ≤ b) : fint a ≤ fint b := by
  unfold fint
  apply rnd_mono
  exact Nat.mul_le_mul_right _ (Nat.mul_le_mul_right _ h)

/-! ### the square root -/
theorem rootFrom_spec (n : Nat) : ∀ todo root, root * root ≤ n → n < (root + 2 ^ todo) * (root + 2 ^ todo) →
    Datum.rootFrom n todo root * Datum.rootFrom n todo root ≤ n ∧ n < (Datum.rootFrom n todo root + 1) * (Datum.rootFrom n todo root + 1) := by
  intro todo
  induction todo with
  | zero => intro root h1 h2; exact ⟨h1, h2⟩
  | succ t ih =>
    intro root h1 h2
    unfold Datum.rootFrom
    dsimp only
    rw [Nat.one_shiftLeft]
    by_cases h : (root + 2 ^ t) * (root + 2 ^ t) ≤ n
    · rw [if_pos h]
      apply ih _ h
      have : root + 2 ^ t + 2 ^ t = root + 2 ^ (t + 1) := by rw [Nat.pow_succ]; omega
      rwa [this]
    · rw [if_neg h]
      exact ih _ h1 (by omega)

def isq (n : Nat) : Nat := Datum.rootFrom n (n.log2 / 2 + 1) 0
theorem isq_spec (n : Nat) : isq n * isq n ≤ n ∧ n < (isq n + 1) * (isq n + 1) := by
  unfold isq
  apply rootFrom_spec
  · omega
  · rw [Nat.zero_add, ← Nat.pow_add]
    exact Nat.lt_of_lt_of_le Nat.lt_log2_self (Nat.pow_le_pow_right (by decide) (by omega))

/-- the root with one digit more, which tells whether anything is left over -/
def stk (n : Nat) : Nat := 2 * isq n + (isq n * isq n != n).toNat

theorem isq_mono {a b : Nat} (h : a ≤ b) : isq a ≤ isq b := by
  obtain ⟨h1, h2⟩ := isq_spec a
  obtain ⟨h3, h4⟩ := isq_spec b
  by_cases hh : isq a ≤ isq b
  · exact hh
  · have : (isq b + 1) * (isq b + 1) ≤ isq a * isq a := Nat.mul_le_mul (by omega) (by omega)
    omega

theorem stk_mono {a b : Nat} (h : a ≤ b) : stk a ≤ stk b := by
  have h0 := isq_mono h
  obtain ⟨h1, h2⟩ := isq_spec a
  obtain ⟨h3, h4⟩ := isq_spec b
  unfold stk
  by_cases e : isq a = isq b
  · rw [e] at h1 h2 ⊢
    by_cases ea : isq b * isq b = a
    · have : (isq b * isq b != a) = false := by simp [ea]
      rw [this]; simp
    · have : (isq b * isq b != b) = true := by simp; omega
      rw [this]
      have := Bool.toNat_le (isq b * isq b != a)
      simp; omega
  · have := Bool.toNat_le (isq a * isq a != a)
    omega

theorem stk_lt {n : Nat} (h : n < 2 ^ 110) : stk n < 2 ^ 56 := by
  obtain ⟨h1, h2⟩ := isq_spec n
  have h3 : isq n < 2 ^ 55 := by
    by_cases hh : isq n < 2 ^ 55
    · exact hh
    · have : 2 ^ 55 * 2 ^ 55 ≤ isq n * isq n := Nat.mul_le_mul (by omega) (by omega)
      omega
  unfold stk
  have := Bool.toNat_le (isq n * isq n != n)
  omega

theorem le_stk {n : Nat} (h : 2 ^ 108 ≤ n) : 2 ^ 55 ≤ stk n := by
  obtain ⟨h1, h2⟩ := isq_spec n
  have h3 : 2 ^ 54 ≤ isq n := by
    by_cases hh : 2 ^ 54 ≤ isq n
    · exact hh
    · have : (isq n + 1) * (isq n + 1) ≤ 2 ^ 54 * 2 ^ 54 := Nat.mul_le_mul (by omega) (by omega)
      omega
  unfold stk
  omega

def off : Nat := 473
/-- the square root of a positive number: 'n' of 109 or 110 digits with 'n * 4 ^ a' the number, counted from 2 ^ -1200 -/
theorem sqrt_form {x : Nat} (h0 : x ≠ 0) (hx : x < inf) : ∃ n a : Nat, double.sqrt x = some (rnd (stk n * 2 ^ (a + off)) 0) ∧ 2 ^ 108 ≤ n ∧ n < 2 ^ 110 ∧ n * 2 ^ (2 * a) = val x * 2 ^ 126 := by
  obtain ⟨m, i, h1, h2, h3, h4, h5⟩ := read_pos hx
  have hm : m ≠ 0 := fun h => h0 (h4.1 h)
  have hl : m.log2 < 53 := (Nat.log2_lt hm).2 (by unfold B at h5; omega)
  unfold Format.sqrt
  rw [h1]
  simp only [Datum.root, if_neg hm, Bool.false_eq_true, if_false, Option.map_some, Format.write]
  have ef : double.fractionBits = 52 := rfl
  rw [ef]
  obtain ⟨c, hc, hc2, hc1⟩ : ∃ c : Nat, c = ((i - ((2 * (52 + 2) - m.log2 : Nat) : Int)) % 2).toNat ∧ (i - ((2 * (52 + 2) - m.log2 : Nat) : Int) - c) % 2 = 0 ∧ c < 2 :=
    ⟨_, rfl, by omega, by omega⟩
  rw [← hc]
  obtain ⟨a, ha⟩ : ∃ a : Nat, (i - ((2 * (52 + 2) - m.log2 + c : Nat) : Int)) = 2 * (a : Int) - 1200 :=
    ⟨((i - ((2 * (52 + 2) - m.log2 + c : Nat) : Int) + 1200) / 2).toNat, by omega⟩
  refine ⟨m <<< (2 * (52 + 2) - m.log2 + c), a, ?_, ?_, ?_, ?_⟩
  · rw [nearest_eq]
    refine congrArg some ?_
    have e1 : (i - ((2 * (52 + 2) - m.log2 + c : Nat) : Int)) / 2 - 1 = (a : Int) - 601 := by omega
    rw [e1]
    have e2 : ((a : Int) - 601 + 1074).toNat = a + off := by unfold off; omega
    have e3 : (-1074 - ((a : Int) - 601)).toNat = 0 := by omega
    rw [e2, e3]
    rfl
  · rw [Nat.shiftLeft_eq]
    have g := Nat.log2_self_le hm
    calc 2 ^ 108 ≤ 2 ^ (m.log2 + (2 * (52 + 2) - m.log2 + c)) := Nat.pow_le_pow_right (by decide) (by omega)
      _ = 2 ^ m.log2 * 2 ^ (2 * (52 + 2) - m.log2 + c) := Nat.pow_add ..
      _ ≤ _ := Nat.mul_le_mul_right _ g
  · rw [Nat.shiftLeft_eq]
    have g : m < 2 ^ (m.log2 + 1) := Nat.lt_log2_self
    calc m * 2 ^ (2 * (52 + 2) - m.log2 + c) < 2 ^ (m.log2 + 1) * 2 ^ (2 * (52 + 2) - m.log2 + c) := Nat.mul_lt_mul_of_pos_right g (Nat.two_pow_pos _)
      _ = 2 ^ (m.log2 + 1 + (2 * (52 + 2) - m.log2 + c)) := (Nat.pow_add ..).symm
      _ ≤ 2 ^ 110 := Nat.pow_le_pow_right (by decide) (by omega)
  · rw [Nat.shiftLeft_eq, ← h3, Nat.mul_assoc, ← Nat.pow_add, Nat.mul_assoc, ← Nat.pow_add]
    refine congrArg (fun t => m * 2 ^ t) ?_
    omega

theorem rnd_mono0 {M N s : Nat} (h : M ≤ N) : rnd M s ≤ rnd N s := by
  unfold rnd; have := rn_mono0 (s := s) h; omega
theorem step_le {P T S u v : Nat} (hT : T ≤ 2 * P) (hS : P ≤ S) (huv : 2 * u ≤ v) : T * u ≤ S * v := by
  calc T * u ≤ 2 * P * u := Nat.mul_le_mul_right _ hT
    _ = P * (2 * u) := by rw [Nat.mul_comm 2 P, Nat.mul_assoc]
    _ ≤ S * v := Nat.mul_le_mul hS huv
theorem pow2_step {a b : Nat} (h : a < b) : 2 * 2 ^ a ≤ 2 ^ b := by
  have : 2 ^ (a + 1) ≤ 2 ^ b := Nat.pow_le_pow_right (by decide) h
  rw [Nat.pow_succ] at this; omega

theorem root_le {P n m a b o : Nat} (h1 : stk n ≤ 2 * (2 * P)) (h2 : 2 * P ≤ stk m) (h3 : m < 4 * (P * P)) (h4 : P * P ≤ n) (hv : n * 2 ^ (2 * a) ≤ m * 2 ^ (2 * b)) :
    stk n * 2 ^ (a + o) ≤ stk m * 2 ^ (b + o) := by
  rcases Nat.lt_trichotomy a b with h | h | h
  · exact step_le h1 h2 (pow2_step (by omega))
  · subst h
    exact Nat.mul_le_mul_right _ (stk_mono (Nat.le_of_mul_le_mul_right hv (Nat.two_pow_pos _)))
  · exfalso
    have e : 2 ^ (2 * b + 2) ≤ 2 ^ (2 * a) := Nat.pow_le_pow_right (by decide) (by omega)
    rw [Nat.pow_add] at e
    have g1 : m * 2 ^ (2 * b) < 4 * (P * P) * 2 ^ (2 * b) := Nat.mul_lt_mul_of_pos_right h3 (Nat.two_pow_pos _)
    have g2 : P * P * (2 ^ (2 * b) * 2 ^ 2) ≤ n * 2 ^ (2 * a) := Nat.mul_le_mul h4 e
    have g3 : 4 * (P * P) * 2 ^ (2 * b) = P * P * (2 ^ (2 * b) * 2 ^ 2) := by
      rw [Nat.mul_comm 4, Nat.mul_assoc, Nat.mul_comm 4]
    omega

theorem fsqrt_mono {x y : Nat} (h0 : x ≠ 0) (hxy : x ≤ y) (hy : y < inf) : fsqrt x ≤ fsqrt y := by
  obtain ⟨n, a, e1, l1, u1, v1⟩ := sqrt_form h0 (show x < inf by omega)
  obtain ⟨m, b, e2, l2, u2, v2⟩ := sqrt_form (show y ≠ 0 by omega) hy
  have hv : n * 2 ^ (2 * a) ≤ m * 2 ^ (2 * b) := by
    rw [v1, v2]; exact Nat.mul_le_mul_right _ (val_le hxy)
  unfold fsqrt
  rw [e1, e2, Option.getD_some, Option.getD_some]
  have hs := stk_lt u1
  have ht := le_stk l2
  have key := root_le (P := 2 ^ 54) (o := off) (by omega) (by omega) (by omega) (by omega) hv
  exact rnd_mono0 key

theorem sqrt_some {x : Nat} (h0 : x ≠ 0) (hx : x < inf) : double.sqrt x = some (fsqrt x) := by
  obtain ⟨n, a, e1, _⟩ := sqrt_form h0 hx
  unfold fsqrt; rw [e1, Option.getD_some]

/-! ### the quotient: to a relative 2 ^ -54 before it is rounded -/
/-- the quotient with one digit more, which tells whether anything is left over -/
def qst (D n : Nat) : Nat := 2 * (D / n) + (D % n != 0).toNat

theorem qst_bounds {D n P : Nat} (hn : 0 < n) (h : D = 0 ∨ P * n ≤ D) :
    qst D n * n * (2 * P) ≤ 2 * D * (2 * P + 1) ∧ 2 * D * (2 * P) ≤ qst D n * n * (2 * P + 1) := by
  rcases h with h | h
  · subst h; simp [qst]
  have hd := Nat.div_add_mod D n
  have hm := Nat.mod_lt D hn
  have hq : P ≤ D / n := (Nat.le_div_iff_mul_le hn).2 h
  rw [Nat.mul_comm] at hd
  have h1 : qst D n * n ≤ 2 * D + n ∧ 2 * D ≤ qst D n * n + n ∧ 2 * (D / n * n) ≤ qst D n * n := by
    unfold qst
    generalize D / n = q at *
    generalize D % n = r at *
    by_cases hr : r = 0
    · have : (r != 0) = false := by simp [hr]
      rw [this]; simp only [Bool.toNat_false, Nat.add_zero, Nat.mul_assoc]; omega
    · have : (r != 0) = true := by simp [hr]
      rw [this]; simp only [Bool.toNat_true, Nat.add_mul, Nat.mul_assoc, Nat.one_mul]; omega
  obtain ⟨a1, a2, a3⟩ := h1
  have h2 : n * (2 * P) ≤ 2 * D := by
    have : n * (2 * P) = 2 * (P * n) := by rw [Nat.mul_comm P n, Nat.mul_left_comm]
    omega
  have h3 : n * (2 * P) ≤ qst D n * n := by
    have e1 : P * n ≤ D / n * n := Nat.mul_le_mul_right _ hq
    have : n * (2 * P) = 2 * (P * n) := by rw [Nat.mul_comm P n, Nat.mul_left_comm]
    omega
  generalize qst D n * n = Y at *
  constructor
  · calc Y * (2 * P) ≤ (2 * D + n) * (2 * P) := Nat.mul_le_mul_right _ a1
      _ = 2 * D * (2 * P) + n * (2 * P) := Nat.add_mul ..
      _ ≤ 2 * D * (2 * P) + 2 * D := by omega
      _ = 2 * D * (2 * P + 1) := by rw [Nat.mul_add, Nat.mul_one]
  · calc 2 * D * (2 * P) ≤ (Y + n) * (2 * P) := Nat.mul_le_mul_right _ a2
      _ = Y * (2 * P) + n * (2 * P) := Nat.add_mul ..
      _ ≤ Y * (2 * P) + Y := by omega
      _ = Y * (2 * P + 1) := by rw [Nat.mul_add, Nat.mul_one]

theorem div_form {x y p : Nat} (hp : p = 1074) (hx : x < inf) (hy0 : y ≠ 0) (hy : y < inf) : ∃ D n W T s : Nat, double.div x y = some (rnd T s) ∧ 0 < n ∧
    T * val y = qst D n * n * W ∧ val x * 2 ^ (p + s) = 2 * D * W ∧ (D = 0 ∨ 2 ^ 53 * n ≤ D) ∧ D = (D / n) * n + D % n ∧ n ≤ 2 * B := by
  obtain ⟨m, i, h1, h2, h3, h4, h5⟩ := read_pos hx
  obtain ⟨n, j, g1, g2, g3, g4, g5⟩ := read_pos hy
  have hn : n ≠ 0 := fun h => hy0 (g4.1 h)
  unfold Format.div
  rw [h1, g1]
  simp only [Datum.quotient, if_neg hn, Option.map_some, Format.write, Bool.xor_self]
  have ef : double.fractionBits = 52 := rfl
  rw [ef, nearest_eq]
  obtain ⟨more, hmore⟩ : ∃ k : Nat, k = 52 + 2 + n.log2 - m.log2 := ⟨_, rfl⟩
  rw [← hmore]
  obtain ⟨pl, hpl⟩ : ∃ q : Int, q = i - j - (more : Int) - 1 := ⟨_, rfl⟩
  rw [← hpl]
  refine ⟨m <<< more, n, 2 ^ (pl + 1074).toNat * 2 ^ (j + 1074).toNat, _, _, rfl, Nat.pos_of_ne_zero hn, ?_, ?_, ?_, ?_, by omega⟩
  · rw [← g3]
    show qst (m <<< more) n * 2 ^ (pl + 1074).toNat * (n * 2 ^ (j + 1074).toNat) = _
    rw [Nat.mul_mul_mul_comm]
  · rw [← h3, Nat.shiftLeft_eq, Nat.mul_assoc m, ← Nat.pow_add, ← Nat.pow_add]
    have : 2 * (m * 2 ^ more) = m * 2 ^ (more + 1) := by rw [Nat.pow_succ, ← Nat.mul_assoc m, Nat.mul_comm 2]
    rw [this, Nat.mul_assoc, ← Nat.pow_add]
    refine congrArg (fun t => m * 2 ^ t) ?_
    omega
  · by_cases hm : m = 0
    · left; rw [hm]; simp
    · right
      have hl : m.log2 < 53 := (Nat.log2_lt hm).2 (by unfold B at h5; omega)
      have a1 := Nat.log2_self_le hm
      have a2 : n < 2 ^ (n.log2 + 1) := Nat.lt_log2_self
      rw [Nat.shiftLeft_eq]
      calc 2 ^ 53 * n ≤ 2 ^ 53 * 2 ^ (n.log2 + 1) := Nat.mul_le_mul_left _ (Nat.le_of_lt a2)
        _ = 2 ^ (53 + (n.log2 + 1)) := (Nat.pow_add ..).symm
        _ = 2 ^ (m.log2 + more) := congrArg (fun t => 2 ^ t) (by omega)
        _ = 2 ^ m.log2 * 2 ^ more := Nat.pow_add ..
        _ ≤ _ := Nat.mul_le_mul_right _ a1
  · have := Nat.div_add_mod (m <<< more) n
    rw [Nat.mul_comm] at this
    exact this.symm

/-- the quotient is within a relative 2 ^ -54 of what is rounded -/
theorem div_near {x y p : Nat} (hp : p = 1074) (hx : x < inf) (hy0 : y ≠ 0) (hy : y < inf) : ∃ T s : Nat, double.div x y = some (rnd T s) ∧
    T * val y * 2 ^ 54 ≤ val x * 2 ^ (p + s) * (2 ^ 54 + 1) ∧ val x * 2 ^ (p + s) * 2 ^ 54 ≤ T * val y * (2 ^ 54 + 1) := by
  obtain ⟨D, n, W, T, s, h1, hn, h2, h3, h4, _⟩ := div_form hp hx hy0 hy
  refine ⟨T, s, h1, ?_, ?_⟩
  · rw [h2, h3]
    have := (qst_bounds hn h4).1
    rw [Nat.mul_right_comm, Nat.mul_right_comm (2 * D)]
    exact Nat.mul_le_mul_right _ this
  · rw [h2, h3]
    have := (qst_bounds hn h4).2
    rw [Nat.mul_right_comm, Nat.mul_right_comm (qst D n * n)]
    exact Nat.mul_le_mul_right _ this
end Go.Proofs.Qxb6604680a.Fl
