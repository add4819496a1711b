import Derived.Test.Qxb6604680aEst
namespace Go.Proofs.Qxb6604680a.Fl
open Ieee

/-! ### two numbers that are n roundings apart at most -/
def near (n a b : Nat) : Prop := a * B ^ n ≤ b * (B + 1) ^ n ∧ b * B ^ n ≤ a * (B + 1) ^ n

theorem pow_up (n : Nat) : B ^ n ≤ (B + 1) ^ n := Nat.pow_le_pow_left (Nat.le_succ _) n
theorem near_refl (n a : Nat) : near n a a := ⟨Nat.mul_le_mul_left _ (pow_up n), Nat.mul_le_mul_left _ (pow_up n)⟩
theorem near_symm {n a b : Nat} (h : near n a b) : near n b a := ⟨h.2, h.1⟩
theorem near_half {m n a b c : Nat} (h1 : a * B ^ m ≤ b * (B + 1) ^ m) (h2 : b * B ^ n ≤ c * (B + 1) ^ n) : a * B ^ (m + n) ≤ c * (B + 1) ^ (m + n) := by
  rw [Nat.pow_add, Nat.pow_add]
  calc a * (B ^ m * B ^ n) = a * B ^ m * B ^ n := (Nat.mul_assoc ..).symm
    _ ≤ b * (B + 1) ^ m * B ^ n := Nat.mul_le_mul_right _ h1
    _ = b * B ^ n * (B + 1) ^ m := Nat.mul_right_comm ..
    _ ≤ c * (B + 1) ^ n * (B + 1) ^ m := Nat.mul_le_mul_right _ h2
    _ = c * ((B + 1) ^ m * (B + 1) ^ n) := by rw [Nat.mul_assoc, Nat.mul_comm ((B + 1) ^ n)]
theorem near_trans {m n a b c : Nat} (h1 : near m a b) (h2 : near n b c) : near (m + n) a c := by
  refine ⟨near_half h1.1 h2.1, ?_⟩
  rw [Nat.add_comm]
  exact near_half h2.2 h1.2
theorem near_mono {m n a b : Nat} (h : near m a b) (hmn : m ≤ n) : near n a b := by
  have := near_trans h (near_refl (n - m) b)
  rwa [show m + (n - m) = n by omega] at this
theorem near_add {n a b c d : Nat} (h1 : near n a b) (h2 : near n c d) : near n (a + c) (b + d) := by
  constructor
  · rw [Nat.add_mul, Nat.add_mul]; exact Nat.add_le_add h1.1 h2.1
  · rw [Nat.add_mul, Nat.add_mul]; exact Nat.add_le_add h1.2 h2.2
theorem near_mul_r {n a b : Nat} (c : Nat) (h : near n a b) : near n (a * c) (b * c) := by
  constructor
  · rw [Nat.mul_right_comm, Nat.mul_right_comm b]; exact Nat.mul_le_mul_right _ h.1
  · rw [Nat.mul_right_comm, Nat.mul_right_comm a]; exact Nat.mul_le_mul_right _ h.2
theorem near_mul_l {n a b : Nat} (c : Nat) (h : near n a b) : near n (c * a) (c * b) := by
  rw [Nat.mul_comm c, Nat.mul_comm c]; exact near_mul_r c h
theorem near_cancel {n a b c : Nat} (hc : 0 < c) (h : near n (a * c) (b * c)) : near n a b := by
  constructor
  · have := h.1; rw [Nat.mul_right_comm, Nat.mul_right_comm b] at this; exact Nat.le_of_mul_le_mul_right this hc
  · have := h.2; rw [Nat.mul_right_comm, Nat.mul_right_comm a] at this; exact Nat.le_of_mul_le_mul_right this hc
theorem near_mul {m n a b c d : Nat} (h1 : near m a b) (h2 : near n c d) : near (m + n) (a * c) (b * d) :=
  near_trans (near_mul_r c h1) (near_mul_l b h2)
theorem near_of_eq {n a b : Nat} (h : a = b) : near n a b := by subst h; exact near_refl n a

/-- a rounding is one step, where the number is 0 or not too small -/
theorem near_rn {M s : Nat} (h : M = 0 ∨ B * 2 ^ s ≤ M) : near 1 (val (rn M s) * 2 ^ s) M := by
  rcases h with h | h
  · subst h; rw [rn_zero, val_zero, Nat.zero_mul]; exact near_refl 1 0
  · obtain ⟨L, k, e1, hk, h1, h2, hL, h3, h4⟩ := rn_form M s
    have hg : 0 < 2 ^ (s + L) := Nat.two_pow_pos _
    have hgM : B * 2 ^ (s + L) ≤ M := by
      rcases h3 with h3 | h3
      · subst h3; exact h
      · have e : B * 2 ^ (s + L) = 2 ^ (s + L + 52) := by unfold B; rw [Nat.pow_add 2 (s + L) 52, Nat.mul_comm]
        rw [e]; exact h3
    have hkB : B ≤ k := by
      have := rhe_mono _ M (2 ^ (s + L)) hg hgM
      rw [rhe_exact _ _ hg] at this
      omega
    rw [e1, val_of h1 h2]
    have ev : k * 2 ^ L * 2 ^ s = k * 2 ^ (s + L) := by rw [Nat.mul_assoc, ← Nat.pow_add, Nat.add_comm]
    rw [ev]
    have lo := rhe_lo M (2 ^ (s + L)) hg
    have hi := rhe_hi M (2 ^ (s + L)) hg
    rw [← hk] at lo hi
    generalize 2 ^ (s + L) = g at *
    have hkg : B * g ≤ k * g := Nat.mul_le_mul_right _ hkB
    constructor
    · rw [Nat.pow_one, Nat.pow_one, Nat.mul_add, Nat.mul_one]
      have a1 : 2 * (k * g) * B ≤ (2 * M + g) * B := Nat.mul_le_mul_right _ hi
      rw [Nat.add_mul, Nat.mul_assoc, Nat.mul_assoc 2 M, Nat.mul_comm g B] at a1
      generalize k * g * B = x at *
      generalize M * B = y at *
      omega
    · rw [Nat.pow_one, Nat.pow_one, Nat.mul_add, Nat.mul_one]
      have a1 : 2 * M * B ≤ (2 * (k * g) + g) * B := Nat.mul_le_mul_right _ lo
      rw [Nat.add_mul, Nat.mul_assoc, Nat.mul_assoc 2 (k * g), Nat.mul_comm g B] at a1
      generalize k * g * B = x at *
      generalize M * B = y at *
      omega
theorem near_rnd {M s : Nat} (h : M = 0 ∨ B * 2 ^ s ≤ M) (hf : rnd M s < inf) : near 1 (val (rnd M s) * 2 ^ s) M := by
  have : rnd M s = rn M s := by unfold rnd at *; omega
  rw [this]; exact near_rn h

/-- a word that is 0 or not too small -/
def Big (x : Nat) : Prop := x = 0 ∨ pw 300 ≤ x
theorem val_pw300 : B * 2 ^ 2 ≤ val (pw 300) := by decide +kernel
theorem Big.val {x : Nat} (h : Big x) : Fl.val x = 0 ∨ B * 2 ^ 2 ≤ Fl.val x := by
  rcases h with h | h
  · subst h; exact .inl val_zero
  · exact .inr (Nat.le_trans val_pw300 (val_le h))

theorem near_fadd {a b : Nat} (ha : Big a) (hb : Big b) (hf : fadd a b < inf) : near 1 (val (fadd a b)) (val a + val b) := by
  have h : val a + val b = 0 ∨ B * 2 ^ 0 ≤ val a + val b := by
    have := ha.val; have := hb.val; omega
  have := near_rnd h hf
  rw [Nat.pow_zero, Nat.mul_one] at this
  exact this

theorem near_half_mul {x : Nat} (hx : Big x) (hf : fmul half x < inf) : near 1 (val (fmul half x) * 2) (val x) := by
  have e : fmul half x = rnd (val x) 1 := by rw [fmul_comm, fmul_half]
  have h : val x = 0 ∨ B * 2 ^ 1 ≤ val x := by have := hx.val; omega
  rw [e] at hf ⊢
  exact near_rnd h hf
end Go.Proofs.Qxb6604680a.Fl
