import Derived.Test.Qxb6604680aErtl2
import Derived.Test.Qxb6604680aOrd
namespace Go.Proofs.Qxb6604680a
open Go.RowKit Fl

/-! ### the sum over the registers is the sum over the ranks -/
theorem hsum_step (c c' : Nat → Nat) (r : Nat) (K : Nat) (h : ∀ k, 1 ≤ k → k ≤ K → c' k = c k + if k = r then 1 else 0) :
    hsum c' K = hsum c K + if 1 ≤ r ∧ r ≤ K then 2 ^ (51 - r) else 0 := by
  induction K with
  | zero => rw [hsum_zero, hsum_zero, if_neg (by omega)]
  | succ K ih =>
    rw [hsum_succ, hsum_succ, ih (fun k h1 h2 => h k h1 (by omega)), h (K + 1) (by omega) (Nat.le_refl _)]
    by_cases e : K + 1 = r
    · rw [if_pos e, if_neg (by omega), if_pos (by omega), Nat.add_mul, Nat.one_mul, ← e]
      omega
    · rw [if_neg e]
      by_cases e2 : 1 ≤ r ∧ r ≤ K
      · rw [if_pos e2, if_pos (by omega), Nat.add_zero]; omega
      · rw [if_neg e2, if_neg (by omega), Nat.add_zero, Nat.add_zero]; rfl

theorem hsum_nought (c : Nat → Nat) (K : Nat) (h : ∀ k, 1 ≤ k → k ≤ K → c k = 0) : hsum c K = 0 := by
  induction K with
  | zero => rw [hsum_zero]
  | succ K ih => rw [hsum_succ, ih (fun k h1 h2 => h k h1 (by omega)), h (K + 1) (by omega) (Nat.le_refl _), Nat.zero_mul]

theorem msum_hsum (zs : List Int) (hz : ∀ i, 0 ≤ zs.getD i 0 ∧ zs.getD i 0 ≤ 52) (q : Nat) : q ≤ zs.length → msum zs q = hsum (hist zs q) 51 := by
  induction q with
  | zero =>
    intro _
    rw [hsum_nought _ _ (fun k _ _ => hist_zero zs k), msum]
  | succ q ih =>
    intro hq
    have h := ih (by omega)
    obtain ⟨z1, z2⟩ := hz q
    have hs := hsum_step (hist zs q) (hist zs (q + 1)) (zs.getD q 0).toNat 51 (fun k h1 h2 => by
      rw [hist_succ zs q k (by omega)]
      by_cases e : k = (zs.getD q 0).toNat
      · rw [if_pos e, if_pos (by omega)]
      · rw [if_neg e, if_neg (by omega)])
    rw [hs]
    by_cases e : (zs.getD q 0).toNat = 0 ∨ (zs.getD q 0).toNat = 52
    · rw [msum_skip e, if_neg (by omega), h, Nat.add_zero]
    · rw [msum_add e, if_pos (by omega), h]

/-! ### negative words -/
def neg63 (r : Nat) : Nat := 2 ^ 63 + r
theorem w_true (r : Nat) : Ieee.double.word true r = Ieee.double.signWeight + r := rfl
theorem sw63 : Ieee.double.signWeight = 2 ^ 63 := by decide
theorem nearest_neg {m : Nat} (hm : m ≠ 0) (i : Int) : Ieee.double.nearest true m i = Ieee.double.signWeight + Ieee.double.nearest false m i := by
  unfold Ieee.Format.nearest
  rw [if_neg hm, if_neg hm]
  dsimp only
  rw [cut_eq, cut_eq, d_word, w_true]
theorem sub_neg {a b : Nat} (hab : a < b) (hb : b < inf) : Ieee.double.sub a b = some (neg63 (fsub b a)) := by
  obtain ⟨m, i, h1, h2, h3, _, _⟩ := read_pos (show a < inf by omega)
  obtain ⟨n, j, g1, g2, g3, _, _⟩ := read_pos hb
  have hv := val_lt hab
  unfold Ieee.Format.sub
  rw [h1, g1]
  simp only [Ieee.Datum.sum, Ieee.Datum.opposite, Option.map_some, Ieee.Format.write]
  congr 1
  simp only [Ieee.signed, Bool.false_eq_true, if_false, Bool.not_false, if_true, Bool.false_and, Nat.shiftLeft_eq]
  have k1 : m * 2 ^ (i + 1074).toNat = m * 2 ^ (i - min i j).toNat * 2 ^ (min i j + 1074).toNat := by
    rw [Nat.mul_assoc, ← Nat.pow_add, show (i - min i j).toNat + (min i j + 1074).toNat = (i + 1074).toNat by omega]
  have k2 : n * 2 ^ (j + 1074).toNat = n * 2 ^ (j - min i j).toNat * 2 ^ (min i j + 1074).toNat := by
    rw [Nat.mul_assoc, ← Nat.pow_add, show (j - min i j).toNat + (min i j + 1074).toNat = (j + 1074).toNat by omega]
  rw [k1] at h3; rw [k2] at g3
  generalize m * 2 ^ (i - min i j).toNat = x at *
  generalize n * 2 ^ (j - min i j).toNat = y at *
  have hxy : x < y := by
    rw [← h3, ← g3] at hv
    exact Nat.lt_of_mul_lt_mul_right hv
  have e : ((if (x : Int) + -(y : Int) = 0 then false else decide ((x : Int) + -(y : Int) < 0))) = true := by
    rw [if_neg (by omega)]
    exact decide_eq_true (by omega)
  rw [e, show ((x : Int) + -(y : Int)).natAbs = y - x by omega, nearest_neg (by omega), nearest_eq]
  rw [show (-1074 - min i j).toNat = 0 by omega, Nat.sub_mul, h3, g3, sw63]
  unfold neg63 fsub
  exact Eq.refl _

theorem fsub_pos {a b : Nat} (hab : a < b) : 0 < fsub b a := by
  unfold fsub
  have h1 : val 1 = 1 := by decide +kernel
  have h2 : (1 : Nat) ≤ inf := by unfold inf B; decide
  have := le_rnd (r := 1) (M := val b - val a) (s := 0) h2 (by rw [h1]; have := val_lt hab; omega)
  omega
theorem inf63 : inf < 2 ^ 63 := by decide +kernel
theorem neg_xor {r : Nat} (h : r < 2 ^ 63) : (2 ^ 63 + r) ^^^ 2 ^ 63 = r := by
  have e : 2 ^ 63 + r = 2 ^ 63 ||| r := by
    have := Nat.two_pow_add_eq_or_of_lt h 1
    simpa using this
  rw [e]
  apply Nat.eq_of_testBit_eq
  intro j
  rw [Nat.testBit_xor, Nat.testBit_or, Nat.testBit_two_pow]
  by_cases hj : 63 = j
  · subst hj
    rw [Nat.testBit_lt_two_pow h]; simp
  · simp [hj]
theorem neg_neg63 {r : Nat} (h : r < inf) : Op.negFloat .f64 (neg63 r) = r := by
  unfold Op.negFloat neg63
  exact neg_xor (Nat.lt_trans h inf63)

theorem read_neg63 {r : Nat} (h : r < inf) : ∃ m i, Ieee.double.read (neg63 r) = .number true m i ∧ (m = 0 ↔ r = 0) := by
  obtain ⟨m, i, h1, _, _, h4, _⟩ := read_pos h
  refine ⟨m, i, ?_, h4⟩
  have hs : Ieee.double.signWeight = 2 ^ 63 := by decide
  have h63 := inf63
  unfold Ieee.Format.read at h1 ⊢
  rw [hs] at h1 ⊢
  have e1 : neg63 r / 2 ^ 63 % 2 = 1 := by unfold neg63; omega
  have e2 : neg63 r % 2 ^ 63 = r := by unfold neg63; omega
  have e3 : r / 2 ^ 63 % 2 = 0 := by omega
  have e4 : r % 2 ^ 63 = r := by omega
  rw [e1, e2]
  rw [e3, e4] at h1
  have hb : r < Ieee.double.infRung := h
  dsimp only at h1 ⊢
  by_cases c1 : r < Ieee.double.binade
  · rw [if_pos c1] at h1 ⊢
    injection h1 with _ a2 a3
    rw [a2, a3]; rfl
  · rw [if_neg c1, if_pos hb] at h1 ⊢
    injection h1 with _ a2 a3
    rw [a2, a3]; rfl
/-- a negative number lies below 0 -/
theorem ord_neg_lt {r : Nat} (h0 : 0 < r) (h : r < inf) : (FloatKind.f64.format.order (neg63 r) 0 == some .lt) = true := by
  obtain ⟨m, i, h1, h2⟩ := read_neg63 h
  have hz : Ieee.double.read 0 = .number false 0 (-1074) := by decide +kernel
  have hm : m ≠ 0 := fun e => by have := h2.1 e; omega
  show (Ieee.double.order (neg63 r) 0 == some .lt) = true
  unfold Ieee.Format.order
  rw [h1, hz]
  simp only [Ieee.Datum.order, Ieee.signed, if_true, Bool.false_eq_true, if_false, Nat.shiftLeft_eq, Nat.zero_mul]
  have hp : 0 < m * 2 ^ (i - min i (-1074)).toNat := Nat.mul_pos (Nat.pos_of_ne_zero hm) (Nat.two_pow_pos _)
  generalize m * 2 ^ (i - min i (-1074)).toNat = x at *
  have : compare (-(x : Int)) ((0 : Nat) : Int) = .lt := Int.compare_eq_lt.2 (by omega)
  rw [this]; rfl
/-- a number that is not negative does not lie below a negative one -/
theorem ord_not_lt_neg {x r : Nat} (hx : x ≤ inf) (h : r < inf) : (FloatKind.f64.format.order x (neg63 r) == some .lt) = false := by
  obtain ⟨m, i, h1, h2⟩ := read_neg63 h
  show (Ieee.double.order x (neg63 r) == some .lt) = false
  unfold Ieee.Format.order
  rw [h1]
  by_cases e : x = inf
  · subst e; rw [read_inf]; rfl
  · obtain ⟨n, j, g1, _⟩ := read_pos (show x < inf by omega)
    rw [g1]
    simp only [Ieee.Datum.order, Ieee.signed, if_true, Bool.false_eq_true, if_false, Nat.shiftLeft_eq]
    generalize m * 2 ^ (i - min j i).toNat = u at *
    generalize n * 2 ^ (j - min j i).toNat = v at *
    have : compare (v : Int) (-(u : Int)) ≠ .lt := by
      intro h; have := Int.compare_eq_lt.1 h; omega
    cases hc : compare (v : Int) (-(u : Int)) with
    | lt => exact absurd hc this
    | eq => rfl
    | gt => rfl
theorem negmax : (18442240474082181119 : Nat) = neg63 9218868437227405311 := by decide
theorem maxf_lt : (9218868437227405311 : Nat) < inf := by rw [← maxf]; exact Nat.lt_succ_self _
theorem ord_not_gt {x y : Nat} (hy : y ≤ inf) (h : x ≤ y) : (FloatKind.f64.format.order x y == some .gt) = false := by
  have h' : FloatKind.f64.format.order x y = some (compare x y) := order_pos (by omega) hy
  rw [h']
  by_cases e : x = y
  · subst e; simp
  · rw [Nat.compare_eq_lt.2 (by omega)]; rfl
theorem ord_not_lt {x y : Nat} (hx : x ≤ inf) (h : y ≤ x) : (FloatKind.f64.format.order x y == some .lt) = false := by
  have h' : FloatKind.f64.format.order x y = some (compare x y) := order_pos hx (by omega)
  rw [h']
  by_cases e : x = y
  · subst e; simp
  · rw [Nat.compare_eq_gt.2 (by omega)]; rfl
theorem ord_ge {x y : Nat} (hx : x ≤ inf) (h : y ≤ x) : (FloatKind.f64.format.order x y == some .gt || FloatKind.f64.format.order x y == some .eq) = true := by
  have h' : FloatKind.f64.format.order x y = some (compare x y) := order_pos hx (by omega)
  rw [h']
  by_cases e : x = y
  · subst e; simp
  · rw [Nat.compare_eq_gt.2 (by omega)]; rfl

/-! ### the walks of the small ones -/
theorem lit_c9 : (Value.float .f64 4472406533629990549) = .float .f64 c9 := rfl
theorem lit_negmax : (Value.float .f64 18442240474082181119) = .float .f64 (neg63 9218868437227405311) := by rw [negmax]
theorem fw_pw (k : Nat) : Fw (pw k) := ⟨Nat.lt_of_le_of_lt (pw_le_one k) one_lt⟩
theorem pw_step (k : Nat) : fmul (pw k) half = pw (k + 1) := by rw [pw_succ, fmul_comm]
theorem un_neg {r : Nat} (h : r < inf) : Op.unary .neg (.float .f64 (neg63 r)) = pure (.float .f64 r) := by
  show pure (Value.float .f64 (Op.negFloat .f64 (neg63 r))) = _
  rw [neg_neg63 h]

section
attribute [local go_sem] fw_add fw_mul fw_sub lit_one lit_half lit_em lit_three lit_cln lit_c9 lit_negmax floatOfInt_nat fw_em fw_one fw_half fw_cln fw_pw pw_step

set_option maxHeartbeats 400000 in
theorem pow_any (k : Nat) (hk : k ≤ 100) (w : World) :
    Calls Try.prog 18 #[.int .i64 (k : Int)] w fun e w' => e = .returned (.float .f64 (pw k)) ∧ w' = w := by
  go_enter Try.func18, Try.ntmps18
  go_wp2
  go_loopg [3, 4] k (fun g p i wr => ∃ q : Nat, q + g = k ∧ i = .int .i64 q ∧ p = .float .f64 (pw q) ∧ wr = w)
  case atStart => exact ⟨0, by omega, rfl, by rw [pw_zero]; rfl, rfl⟩
  case round =>
    obtain ⟨q, hq, rfl, rfl, hwr⟩ := hrel
    have hwr := hwr.symm
    subst hwr
    by_cases hlt : q < k
    · go_wp2
      go_roundg (gk - 1)
      case measure => omega
      case rel => exact ⟨q + 1, by omega, by go_num, rfl, rfl⟩
    · have e : q = k := by omega
      subst e
      go_wp2
      go_ret
      exact ⟨rfl, rfl⟩

set_option maxHeartbeats 400000 in
theorem zzsigma_any (c : Nat) (h : c < 8192) (w : World) : Calls Try.prog 19 #[.float .f64 (qw c)] w fun e w' => e = .returned (.float .f64 (sg c)) ∧ w' = w := by
  go_enter Try.func19, Try.ntmps19
  go_wp2_with (go_at_call 28; refine (sigma_any _ h _).mono ?_; rintro e w' ⟨rfl, rfl⟩)
  go_ret
  exact ⟨rfl, rfl⟩
theorem zzsigma_one (w : World) : Calls Try.prog 19 #[.float .f64 one] w fun e w' => e = .returned (.float .f64 inf) ∧ w' = w := by
  go_enter Try.func19, Try.ntmps19
  go_wp2_with (go_at_call 28; refine (sigma_one _).mono ?_; rintro e w' ⟨rfl, rfl⟩)
  go_ret
  exact ⟨rfl, rfl⟩
theorem zztau_any (j : Nat) (h : j ≤ 8192) (w : World) : Calls Try.prog 20 #[.float .f64 (qw j)] w fun e w' => e = .returned (.float .f64 (tu j)) ∧ w' = w := by
  go_enter Try.func20, Try.ntmps20
  go_wp2_with (go_at_call 29; refine (tau_all _ h _).mono ?_; rintro e w' ⟨rfl, rfl⟩)
  go_ret
  exact ⟨rfl, rfl⟩

set_option maxHeartbeats 400000 in
theorem close_same (g : Nat) (hg : g ≤ inf) (w : World) : Calls Try.prog 21 #[.float .f64 g, .float .f64 g] w fun e w' => e = .returned (.bool true) ∧ w' = w := by
  have h1 := ord_eq_t hg rfl
  go_enter Try.func21, Try.ntmps21
  go_wp2
  go_ret
  exact ⟨rfl, rfl⟩

set_option maxHeartbeats 800000 in
theorem close_gt (g v : Nat) (hg : g < inf) (hv : v < inf) (hgv : v < g) (hle : fsub g v ≤ fmul c9 v) (w : World) :
    Calls Try.prog 21 #[.float .f64 g, .float .f64 v] w fun e w' => e = .returned (.bool true) ∧ w' = w := by
  have h1 := ord_eq_f (Nat.le_of_lt hg) (Nat.le_of_lt hv) (show g ≠ v by omega)
  have h2 : (FloatKind.f64.format.order g g != some .eq) = false := by have := ord_eq_t (Nat.le_of_lt hg) rfl; simp [bne, this]
  have h3 : (FloatKind.f64.format.order v v != some .eq) = false := by have := ord_eq_t (Nat.le_of_lt hv) rfl; simp [bne, this]
  have h4 := ord_not_gt (Nat.le_of_lt maxf_lt) (show g ≤ 9218868437227405311 by rw [← maxf] at hg; exact Nat.le_of_lt_succ hg)
  have h5 := ord_not_gt (Nat.le_of_lt maxf_lt) (show v ≤ 9218868437227405311 by rw [← maxf] at hv; exact Nat.le_of_lt_succ hv)
  have h6 := ord_not_lt_neg (Nat.le_of_lt hg) maxf_lt
  have h7 := ord_not_lt_neg (Nat.le_of_lt hv) maxf_lt
  have h8 := ord_not_lt (fsub_le_inf g v) (Nat.zero_le _)
  have h9 := ord_not_lt (Nat.le_of_lt hv) (Nat.zero_le _)
  have h10 := ord_le (fmul_le_inf c9 v) hle
  have f1 : Fw g := ⟨hg⟩
  have f2 : Fw v := ⟨hv⟩
  have f3 : Fw c9 := ⟨c9_lt⟩
  have f4 : Sw v g := ⟨Nat.le_of_lt hgv⟩
  clear hg hv hgv hle
  go_enter Try.func21, Try.ntmps21
  go_wp2
  go_ret
  exact ⟨rfl, rfl⟩

set_option maxHeartbeats 800000 in
theorem close_lt (g v : Nat) (hv : v < inf) (hgv : g < v) (hle : fsub v g ≤ fmul c9 v) (w : World) :
    Calls Try.prog 21 #[.float .f64 g, .float .f64 v] w fun e w' => e = .returned (.bool true) ∧ w' = w := by
  have hg : g < inf := by omega
  have h1 := ord_eq_f (Nat.le_of_lt hg) (Nat.le_of_lt hv) (show g ≠ v by omega)
  have h2 : (FloatKind.f64.format.order g g != some .eq) = false := by have := ord_eq_t (Nat.le_of_lt hg) rfl; simp [bne, this]
  have h3 : (FloatKind.f64.format.order v v != some .eq) = false := by have := ord_eq_t (Nat.le_of_lt hv) rfl; simp [bne, this]
  have h4 := ord_not_gt (Nat.le_of_lt maxf_lt) (show g ≤ 9218868437227405311 by rw [← maxf] at hg; exact Nat.le_of_lt_succ hg)
  have h5 := ord_not_gt (Nat.le_of_lt maxf_lt) (show v ≤ 9218868437227405311 by rw [← maxf] at hv; exact Nat.le_of_lt_succ hv)
  have h6 := ord_not_lt_neg (Nat.le_of_lt hg) maxf_lt
  have h7 := ord_not_lt_neg (Nat.le_of_lt hv) maxf_lt
  have hd : fsub v g < inf := Nat.lt_of_le_of_lt (fsub_le (Nat.le_of_lt hv)) hv
  have h8 := ord_neg_lt (fsub_pos hgv) hd
  have h9 := ord_not_lt (Nat.le_of_lt hv) (Nat.zero_le _)
  have h10 := ord_le (fmul_le_inf c9 v) hle
  have h11 : binOp .sub 37 (.float .f64 g) (.float .f64 v) = pure (.float .f64 (neg63 (fsub v g))) := by
    have h' : FloatKind.f64.format.sub g v = some (neg63 (fsub v g)) := sub_neg hgv hv
    simp [binOp, Op.floatArith, h']
  have h12 := un_neg hd
  have f2 : Fw v := ⟨hv⟩
  have f3 : Fw c9 := ⟨c9_lt⟩
  clear hg hv hgv hle hd
  go_enter Try.func21, Try.ntmps21
  go_wp2
  go_ret
  exact ⟨rfl, rfl⟩
end
end Go.Proofs.Qxb6604680a
