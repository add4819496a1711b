import Derived.Test.Qxb6604680aErtl
namespace Go.Proofs.Qxb6604680a.Fl
open Ieee

/-! ### the histogram's sum, and the loop of estimate over it -/
def hsum (c : Nat → Nat) : Nat → Nat
  | 0 => 0
  | k + 1 => hsum c k + c (k + 1) * 2 ^ (51 - (k + 1))
theorem hsum_zero (c : Nat → Nat) : hsum c 0 = 0 := by rw [hsum]
theorem hsum_succ (c : Nat → Nat) (k : Nat) : hsum c (k + 1) = hsum c k + c (k + 1) * 2 ^ (51 - (k + 1)) := by rw [hsum]

theorem fint_lo (n : Nat) : fint n = 0 ∨ one ≤ fint n := by
  by_cases h : n = 0
  · left; rw [h]; exact fint_zero
  · right
    have := fint_mono (show 1 ≤ n by omega)
    rwa [fint_one] at this

/-- what a step of the loop keeps -/
theorem hor_lo_step {z y r : Nat} (hz : z = 0 ∨ pw r ≤ z) (hzi : z ≤ inf) (hy : y = 0 ∨ one ≤ y) (hyi : y ≤ inf) :
    (fadd z y = 0 ∨ pw r ≤ fadd z y) ∧ (fmul half (fadd z y) = 0 ∨ pw (r + 1) ≤ fmul half (fadd z y)) := by
  have h1 : fadd z y = 0 ∨ pw r ≤ fadd z y := by
    rcases hz with hz | hz
    · rcases hy with hy | hy
      · left; rw [hz, hy]; exact fadd00
      · right
        rw [hz, zero_fadd hyi]
        exact Nat.le_trans (pw_le_one r) hy
    · right; exact Nat.le_trans hz (le_fadd hzi)
  refine ⟨h1, ?_⟩
  rcases h1 with h1 | h1
  · left; rw [h1, fmul_zero]
  · right; rw [pw_succ]; exact fmul_mono (Nat.le_refl _) h1

theorem pow51 {k : Nat} (h : k + 1 ≤ 51) (a : Nat) : a * 2 * 2 ^ (51 - (k + 1)) = a * 2 ^ (51 - k) := by
  obtain ⟨d, hd⟩ : ∃ d, 51 - k = d + 1 := ⟨50 - k, by omega⟩
  have e : 51 - (k + 1) = d := by omega
  rw [e, hd, Nat.pow_succ, Nat.mul_assoc, Nat.mul_comm 2]

theorem hor_near (c : Nat → Nat) (hc : ∀ k, c k ≤ 8192) (k : Nat) : k ≤ 51 → ∀ z A n r, z ≤ em → (z = 0 ∨ pw r ≤ z) → r + k ≤ 250 →
    near n (val z * 2 ^ (51 - k)) A → near (n + 2 * k) (val (hor c k z) * 2 ^ 51) (A + hsum c k * pT) := by
  induction k with
  | zero =>
    intro _ z A n r _ _ _ h
    rw [hor_zero, hsum_zero, Nat.zero_mul]
    exact h
  | succ k ih =>
    intro hk z A n r hz hlo hr h
    have hzi : z ≤ inf := Nat.le_of_lt (Nat.lt_of_le_of_lt hz em_lt)
    obtain ⟨s1, s2, s3⟩ := hor_step (c := c) (k := k + 1) (hc _) hz
    obtain ⟨l1, l2⟩ := hor_lo_step hlo hzi (fint_lo (c (k + 1))) (Nat.le_of_lt s1)
    have hvf := (val_fint (n := c (k + 1)) (by have := hc (k + 1); unfold B; omega)).1
    have b1 : Big z := big_of (by omega) hlo
    have b2 : Big (fint (c (k + 1))) := by
      rcases fint_lo (c (k + 1)) with e | e
      · exact .inl e
      · exact .inr (Nat.le_trans (pw_le_one 300) e)
    have n1 := near_fadd b1 b2 s2
    rw [hvf] at n1
    have n2 := near_half_mul (big_of (k := r) (by omega) l1) (Nat.lt_of_le_of_lt s3 em_lt)
    have n3 := near_trans n2 n1
    have n4 := near_mul_r (2 ^ (51 - (k + 1))) n3
    rw [pow51 hk, Nat.add_mul, Nat.mul_right_comm (c (k + 1)) pT] at n4
    have n5 := near_trans n4 (near_add h (near_refl n (c (k + 1) * 2 ^ (51 - (k + 1)) * pT)))
    have n6 := ih (by omega) _ _ _ (r + 1) s3 l2 (by omega) n5
    rw [hor_succ, hsum_succ]
    have e1 : A + c (k + 1) * 2 ^ (51 - (k + 1)) * pT + hsum c k * pT = A + (hsum c k + c (k + 1) * 2 ^ (51 - (k + 1))) * pT := by
      rw [Nat.add_mul]; omega
    rw [e1] at n6
    exact near_mono n6 (by omega)

/-! ### both sums against the exact one -/
/-- the direct sum -/
def zw (c : Nat → Nat) (m : Nat) : Nat := fadd (fadd (fmul em (sg (c 0))) m) (fmul (fmul em (tu (8192 - c 52))) (pw 51))
def zb2 : Nat := fadd (fadd em2 em) em
theorem zb2_lt : zb2 < inf := by decide +kernel
theorem czb2_lt : fmul cln zb2 < inf := by decide +kernel
theorem em2em_lt : fadd em2 em < inf := by decide +kernel
theorem em_pw51 : fmul em (pw 51) ≤ em := by decide +kernel

theorem tpw_le (j : Nat) : fmul (fmul em (tu j)) (pw 51) ≤ em := Nat.le_trans (fmul_mono (emtu_le j) (Nat.le_refl _)) em_pw51
theorem zw_in {c : Nat → Nat} {m : Nat} (h0 : c 0 < 8192) (hm : m ≤ em) : fadd (fmul em (sg (c 0))) m ≤ fadd em2 em := fadd_mono (emsg_le h0) hm
theorem zw_le {c : Nat → Nat} {m : Nat} (h0 : c 0 < 8192) (hm : m ≤ em) : zw c m ≤ zb2 := fadd_mono (zw_in h0 hm) (tpw_le _)

/-- sigma's share is 0 or at least 1 -/
theorem emsg_lo {c : Nat} (h : c < 8192) : fmul em (sg c) = 0 ∨ one ≤ fmul em (sg c) := by
  by_cases e : c = 0
  · left; rw [e, sg_zero, fmul_zero]
  · right
    have h1 := Nat.le_trans (qw_mono (show 1 ≤ c by omega)) (sg_bounds h).1
    have h2 := fmul_mono (Nat.le_refl em) h1
    rwa [one_emqw] at h2
theorem empw40 : pw 40 ≤ fmul em (pw 40) := by decide +kernel
theorem emtu_lo {j : Nat} (hj : j ≤ 8192) : fmul em (tu j) = 0 ∨ pw 40 ≤ fmul em (tu j) := by
  rcases tu_lo j hj with h | h
  · left; rw [h, fmul_zero]
  · right; exact Nat.le_trans empw40 (fmul_mono (Nat.le_refl _) h)
theorem pw4051 : pw 100 ≤ fmul (pw 40) (pw 51) := by decide +kernel
theorem tpw_lo {j : Nat} (hj : j ≤ 8192) : fmul (fmul em (tu j)) (pw 51) = 0 ∨ pw 100 ≤ fmul (fmul em (tu j)) (pw 51) := by
  rcases emtu_lo hj with h | h
  · left; rw [h, zero_fmul]
  · right; exact Nat.le_trans pw4051 (fmul_mono h (Nat.le_refl _))
theorem v4051 : B * pT ≤ val (pw 40) * val (pw 51) := by decide +kernel

/-- tau's share, taken at one stroke -/
theorem tpw_near {j : Nat} (hj : j ≤ 8192) : near 1 (val (fmul (fmul em (tu j)) (pw 51)) * 2 ^ 51) (val (fmul em (tu j))) := by
  have hf : fmul (fmul em (tu j)) (pw 51) < inf := Nat.lt_of_le_of_lt (tpw_le j) em_lt
  have h : val (fmul em (tu j)) * val (pw 51) = 0 ∨ B * pT ≤ val (fmul em (tu j)) * val (pw 51) := by
    rcases emtu_lo hj with h | h
    · left; rw [h, val_zero, Nat.zero_mul]
    · right; exact Nat.le_trans v4051 (Nat.mul_le_mul_right _ (val_le h))
  have n1 := near_mul_r (2 ^ 51) (near_fmul h hf)
  rw [Nat.mul_right_comm, Nat.mul_assoc (val (fmul em (tu j))), pw_val (by omega)] at n1
  exact near_cancel pT_pos n1

theorem hor_big (c : Nat → Nat) (hc : ∀ k, c k ≤ 8192) (k : Nat) : ∀ z r, z ≤ em → (z = 0 ∨ pw r ≤ z) → hor c k z = 0 ∨ pw (r + k) ≤ hor c k z := by
  induction k with
  | zero => intro z r _ h; rw [hor_zero]; exact h
  | succ k ih =>
    intro z r hz hlo
    have hzi : z ≤ inf := Nat.le_of_lt (Nat.lt_of_le_of_lt hz em_lt)
    obtain ⟨s1, s2, s3⟩ := hor_step (c := c) (k := k + 1) (hc _) hz
    obtain ⟨l1, l2⟩ := hor_lo_step hlo hzi (fint_lo (c (k + 1))) (Nat.le_of_lt s1)
    rw [hor_succ, show r + (k + 1) = r + 1 + k by omega]
    exact ih _ _ s3 l2

/-- the exact sum, times 2 ^ 51 -/
def exS (c : Nat → Nat) : Nat := val (fmul em (tu (8192 - c 52))) + hsum c 51 * pT + val (fmul em (sg (c 0))) * 2 ^ 51

theorem big_one {x : Nat} (h : x = 0 ∨ one ≤ x) : Big x := by
  rcases h with h | h
  · exact .inl h
  · exact .inr (Nat.le_trans (pw_le_one 300) h)

theorem z2_near {c : Nat → Nat} (hc : ∀ k, c k ≤ 8192) (h0 : c 0 < 8192) : near 103 (val (z2 c) * 2 ^ 51) (exS c) := by
  have t1 : fmul em (tu (8192 - c 52)) ≤ em := emtu_le _
  have n1 := hor_near c hc 51 (by omega) (fmul em (tu (8192 - c 52))) (val (fmul em (tu (8192 - c 52)))) 0 40 t1 (emtu_lo (by omega)) (by omega) (near_of_eq (by simp))
  have b1 : Big (z1 c) := big_of (k := 40 + 51) (by omega) (hor_big c hc 51 _ 40 t1 (emtu_lo (by omega)))
  have b2 : Big (fmul em (sg (c 0))) := big_one (emsg_lo h0)
  have hf : fadd (z1 c) (fmul em (sg (c 0))) < inf := Nat.lt_of_le_of_lt (z2_le hc h0) zb_lt
  have n2 := near_mul_r (2 ^ 51) (near_fadd b1 b2 hf)
  rw [Nat.add_mul] at n2
  have n3 : near 102 (val (z1 c) * 2 ^ 51) (val (fmul em (tu (8192 - c 52))) + hsum c 51 * pT) := n1
  have n4 := near_add n3 (near_refl 102 (val (fmul em (sg (c 0))) * 2 ^ 51))
  exact near_trans n2 n4

theorem zw_near {c : Nat → Nat} {m q : Nat} (h0 : c 0 < 8192) (h52 : c 52 ≤ 8192) (hm : m ≤ em) (hml : m = 0 ∨ pw 51 ≤ m) (hn : near q (val m * 2 ^ 51) (hsum c 51 * pT)) : near (q + 3) (val (zw c m) * 2 ^ 51) (exS c) := by
  have b1 : Big (fmul em (sg (c 0))) := big_one (emsg_lo h0)
  have b2 : Big m := big_of (by omega) hml
  have f1 : fadd (fmul em (sg (c 0))) m < inf := Nat.lt_of_le_of_lt (zw_in h0 hm) em2em_lt
  have n1 := near_mul_r (2 ^ 51) (near_fadd b1 b2 f1)
  rw [Nat.add_mul] at n1
  have n2 := near_trans n1 (near_add (near_refl q (val (fmul em (sg (c 0))) * 2 ^ 51)) hn)
  have b3 : Big (fadd (fmul em (sg (c 0))) m) := by
    have hi : fmul em (sg (c 0)) ≤ inf := fmul_le_inf _ _
    rcases emsg_lo h0 with e | e
    · rw [e, zero_fadd (Nat.le_of_lt (Nat.lt_of_le_of_lt hm em_lt))]; exact b2
    · exact .inr (Nat.le_trans (Nat.le_trans (pw_le_one 300) e) (le_fadd hi))
  have b4 : Big (fmul (fmul em (tu (8192 - c 52))) (pw 51)) := big_of (k := 100) (by omega) (tpw_lo (by omega))
  have f2 : zw c m < inf := Nat.lt_of_le_of_lt (zw_le h0 hm) zb2_lt
  have n3 := near_mul_r (2 ^ 51) (near_fadd b3 b4 f2)
  rw [Nat.add_mul] at n3
  have n4 := near_mono (tpw_near (j := 8192 - c 52) (by omega)) (show 1 ≤ 1 + q by omega)
  have n5 := near_trans n3 (near_add n2 n4)
  have e : val (fmul em (sg (c 0))) * 2 ^ 51 + hsum c 51 * pT + val (fmul em (tu (8192 - c 52))) = exS c := by unfold exS; omega
  rw [e] at n5
  exact near_mono n5 (by omega)

theorem both_near {c : Nat → Nat} {m : Nat} (hc : ∀ k, c k ≤ 8192) (h0 : c 0 < 8192) (hm : m ≤ em) (hml : m = 0 ∨ pw 51 ≤ m) (hn : near 8192 (val m * 2 ^ 51) (hsum c 51 * pT)) : near 8298 (val (z2 c)) (val (zw c m)) :=
  near_cancel (Nat.two_pow_pos 51) (near_mono (near_trans (z2_near hc h0) (near_symm (zw_near h0 (hc 52) hm hml hn))) (by omega))

/-! ### through the product and the quotient -/
theorem vcl51 : B * pT ≤ val cln * val (pw 100) := by decide +kernel
theorem cln_near {z : Nat} (hz : pw 100 ≤ z) (hf : fmul cln z < inf) : near 1 (val (fmul cln z) * pT) (val cln * val z) :=
  near_fmul (.inr (Nat.le_trans vcl51 (Nat.mul_le_mul_left _ (val_le hz)))) hf

theorem four_step {a b c : Nat} (h : a * (4 * c) ≤ b * (4 * c + 1)) : a * c ≤ b * (c + 1) := by
  have e1 : a * (4 * c) = 4 * (a * c) := Nat.mul_left_comm ..
  have e2 : b * (4 * c) = 4 * (b * c) := Nat.mul_left_comm ..
  rw [Nat.mul_add, Nat.mul_one, e1, e2] at h
  rw [Nat.mul_add, Nat.mul_one]
  clear e1 e2
  generalize a * c = x at *
  generalize b * c = y at *
  omega
theorem pow54 : 2 ^ 54 = 4 * B := by decide
theorem near_of_54 {a b : Nat} (h1 : a * 2 ^ 54 ≤ b * (2 ^ 54 + 1)) (h2 : b * 2 ^ 54 ≤ a * (2 ^ 54 + 1)) : near 1 a b := by
  rw [pow54] at h1 h2
  unfold near
  rw [Nat.pow_one, Nat.pow_one]
  exact ⟨four_step h1, four_step h2⟩

theorem div_normal {T vy vx c W Q P D : Nat} (hvy : 0 < vy) (hc : 0 < c) (hQ : Q = P * W) (a2 : vx * Q * c ≤ T * vy * (c + 1)) (h : D * vy * 2 ≤ vx * P) : D * W ≤ T :=
  le_quo hvy hc hQ a2 h

/-- the quotient of two words, where it is not too small -/
theorem fdiv_near {x y : Nat} (hx : x < inf) (hy0 : y ≠ 0) (hy : y < inf) (h : B * val y * 2 ≤ val x * pT) (hf : fdiv x y < inf) : near 2 (val (fdiv x y) * val y) (val x * pT) := by
  obtain ⟨p, hp⟩ : ∃ p : Nat, p = 1074 := ⟨_, rfl⟩
  obtain ⟨T, t, e, a1, a2⟩ := div_near hp hx hy0 hy
  have hpT := pT_at hp
  rw [hpT] at h ⊢
  have hT : B * 2 ^ t ≤ T := le_quo (val_pos hy0) (by decide) (Nat.pow_add 2 p t) a2 h
  have ef : fdiv x y = rnd T t := by unfold fdiv; rw [e, Option.getD_some]
  rw [ef] at hf ⊢
  have n1 := near_mul_r (val y) (near_rnd (.inr hT) hf)
  have n2 := near_of_54 a1 a2
  have n3 := near_trans n1 n2
  rw [Nat.mul_right_comm, Nat.pow_add, ← Nat.mul_assoc] at n3
  exact near_cancel (Nat.two_pow_pos t) n3

theorem e_lo2 : B * val (fmul cln zb2) * 2 ≤ val em2 * pT := by decide +kernel
theorem zb_zb2 : zb ≤ zb2 := by decide +kernel
theorem e_hi2 : val em2 * val one * 2 ≤ val (inf - 1) * val (fmul cln (pw 100)) := by decide +kernel
theorem cpw2 : fmul cln (pw 100) ≠ 0 := by decide +kernel

/-- m * m / (2 ln2 z), where z is not too small and not too great -/
theorem quot_facts {z : Nat} (h1 : pw 100 ≤ z) (h2 : z ≤ zb2) : fmul cln z < inf ∧ fmul cln z ≠ 0 ∧ fdiv em2 (fmul cln z) < inf ∧ near 2 (val (fdiv em2 (fmul cln z)) * val (fmul cln z)) (val em2 * pT) ∧ near 1 (val (fmul cln z) * pT) (val cln * val z) := by
  have a1 : fmul cln z < inf := Nat.lt_of_le_of_lt (fmul_mono (Nat.le_refl _) h2) czb2_lt
  have a2 := fmul_mono (Nat.le_refl cln) h1
  have a3 : fmul cln z ≠ 0 := by have := cpw2; omega
  have a4 : fdiv em2 (fmul cln z) < inf := by
    have := fdiv_le (r := inf - 1) em2_lt' a3 a1 (by
      have h5 := e_hi2
      have : val (inf - 1) * val (fmul cln (pw 100)) ≤ val (inf - 1) * val (fmul cln z) := Nat.mul_le_mul_left _ (val_le a2)
      omega)
    have : 0 < inf := by unfold inf B; decide
    omega
  refine ⟨a1, a3, a4, fdiv_near em2_lt' a3 a1 ?_ a4, cln_near h1 a1⟩
  have := Nat.mul_le_mul_left B (val_le (fmul_mono (Nat.le_refl cln) h2))
  have := e_lo2
  omega

theorem quot_near {a b n : Nat} (ha1 : pw 100 ≤ a) (ha2 : a ≤ zb2) (hb1 : pw 100 ≤ b) (hb2 : b ≤ zb2) (h : near n (val a) (val b)) :
    near (n + 6) (val (fdiv em2 (fmul cln a))) (val (fdiv em2 (fmul cln b))) := by
  obtain ⟨_, _, _, p1, p2⟩ := quot_facts ha1 ha2
  obtain ⟨_, q0, _, q1, q2⟩ := quot_facts hb1 hb2
  have n1 : near (1 + n + 1) (val (fmul cln a) * pT) (val (fmul cln b) * pT) :=
    near_trans (near_trans p2 (near_mul_l (val cln) h)) (near_symm q2)
  have n2 := near_cancel pT_pos n1
  have n3 := near_trans p1 (near_symm q1)
  have n4 := near_trans (near_mul_l (val (fdiv em2 (fmul cln a))) (near_symm n2)) n3
  have n5 := near_cancel (val_pos q0) n4
  exact near_mono n5 (by omega)

/-! ### 8304 roundings make less than a part in 2 ^ 31 -/
def NN : Nat := 8304
theorem many : (B + 1) ^ NN * 2 ^ 31 ≤ B ^ NN * (2 ^ 31 + 1) := by decide +kernel
theorem near_close {a b : Nat} (h : near NN a b) : a * 2 ^ 31 ≤ b * (2 ^ 31 + 1) ∧ b * 2 ^ 31 ≤ a * (2 ^ 31 + 1) := by
  have hm := many
  obtain ⟨h1, h2⟩ := h
  have hp : 0 < B ^ NN := Nat.pow_pos B_pos
  generalize (B + 1) ^ NN = X at *
  generalize B ^ NN = Y at *
  have key : ∀ u v : Nat, u * Y ≤ v * X → u * 2 ^ 31 ≤ v * (2 ^ 31 + 1) := by
    intro u v huv
    have e1 : u * Y * 2 ^ 31 ≤ v * X * 2 ^ 31 := Nat.mul_le_mul_right _ huv
    have e2 : v * X * 2 ^ 31 ≤ v * (Y * (2 ^ 31 + 1)) := by rw [Nat.mul_assoc]; exact Nat.mul_le_mul_left _ hm
    have e3 : u * 2 ^ 31 * Y ≤ v * (2 ^ 31 + 1) * Y := by
      rw [Nat.mul_right_comm u, Nat.mul_assoc v, Nat.mul_comm (2 ^ 31 + 1) Y]
      exact Nat.le_trans e1 e2
    exact Nat.le_of_mul_le_mul_right e3 hp
  exact ⟨key _ _ h1, key _ _ h2⟩
theorem sub_close {a b : Nat} (h1 : a * 2 ^ 31 ≤ b * (2 ^ 31 + 1)) (h2 : b * 2 ^ 31 ≤ a * (2 ^ 31 + 1)) : (a - b) * 2 ^ 30 ≤ b ∧ (a ≤ b → (b - a) * 2 ^ 30 ≤ b) := by
  omega

/-- the word of 1e-9 -/
def c9 : Nat := 4472406533629990549
theorem c9_lt : c9 < inf := by decide +kernel
theorem c9_val : pT ≤ val c9 * 2 ^ 30 := by decide +kernel

/-- what zzClose asks -/
theorem close_le {g w : Nat} (h : near NN (val g) (val w)) : (w ≤ g → fsub g w ≤ fmul c9 w) ∧ (g ≤ w → fsub w g ≤ fmul c9 w) := by
  obtain ⟨h1, h2⟩ := near_close h
  obtain ⟨p, hp⟩ : ∃ p : Nat, p = 1074 := ⟨_, rfl⟩
  have hpT := pT_at hp
  have hc := c9_val
  have key : ∀ d : Nat, d * 2 ^ 30 ≤ val w → rnd d 0 ≤ fmul c9 w := by
    intro d hd
    unfold fmul
    rw [← hp]
    apply rnd_mono
    rw [← hpT, Nat.pow_zero, Nat.mul_one]
    have e1 : d * pT ≤ d * (val c9 * 2 ^ 30) := Nat.mul_le_mul_left _ hc
    have e2 : d * (val c9 * 2 ^ 30) = val c9 * (d * 2 ^ 30) := by rw [Nat.mul_left_comm]
    have e3 := Nat.mul_le_mul_left (val c9) hd
    rw [e2] at e1
    exact Nat.le_trans e1 e3
  obtain ⟨k1, k2⟩ := sub_close h1 h2
  constructor
  · intro _
    unfold fsub
    exact key _ k1
  · intro hgw
    unfold fsub
    exact key _ (k2 (val_le hgw))
end Go.Proofs.Qxb6604680a.Fl
