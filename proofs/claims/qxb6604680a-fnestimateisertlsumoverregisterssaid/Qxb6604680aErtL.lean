import Derived.Test.Qxb6604680aErtW
namespace Go.Proofs.Qxb6604680a
open Go.RowKit Fl

theorem fadd_lo {a b k : Nat} (ha : a = 0 ∨ pw k ≤ a) (hai : a ≤ inf) (hb : b = 0 ∨ pw k ≤ b) (hbi : b ≤ inf) : fadd a b = 0 ∨ pw k ≤ fadd a b := by
  rcases ha with ha | ha
  · rw [ha, zero_fadd hbi]; exact hb
  · right; exact Nat.le_trans ha (le_fadd hai)
theorem lo_mono {a j k : Nat} (h : a = 0 ∨ pw j ≤ a) (hjk : j ≤ k) : a = 0 ∨ pw k ≤ a := by
  rcases h with h | h
  · exact .inl h
  · exact .inr (Nat.le_trans (pw_le hjk) h)

theorem midw_nought {zs : List Int} (h : ∀ i, (zs.getD i 0).toNat = 0 ∨ (zs.getD i 0).toNat = 52) (q : Nat) : midw zs q = 0 := by
  induction q with
  | zero => exact midw_zero zs
  | succ q ih => rw [midw_skip (h q)]; exact ih

theorem near_pos {n a b : Nat} (h : near n a b) (ha : 0 < a) : b ≠ 0 := by
  intro e
  subst e
  have h1 := h.1
  rw [Nat.zero_mul] at h1
  have := Nat.mul_pos ha (Nat.pow_pos (n := n) B_pos)
  omega

/-- the law's last call -/
theorem close_final (zs : List Int) (n : Nat) (hn : n = 8192) (hl : zs.length = n) (hz : ∀ i, 0 ≤ zs.getD i 0 ∧ zs.getD i 0 ≤ 52) (h0 : hist zs n 0 < 8192) (w : World) :
    Calls Try.prog 21 #[.float .f64 (est (hist zs n)), .float .f64 (fdiv em2 (fmul cln (zw (hist zs n) (midw zs n))))] w fun e w' => e = .returned (.bool true) ∧ w' = w := by
  have hc : ∀ k, hist zs n k ≤ 8192 := fun k => by have := hist_le zs n k; omega
  by_cases hfull : ∀ i, i < n → zs.getD i 0 = 52
  · have e1 := est_full_of hn (Nat.le_of_eq hl.symm) hfull
    have c52 : hist zs n 52 = 8192 := by rw [hist_all (Nat.le_of_eq hl.symm) 52 hfull, hn]
    have c0 : hist zs n 0 = 0 := by
      apply hist_none (Nat.le_of_eq hl.symm)
      intro i hi; rw [hfull i hi]; decide
    have m0 : midw zs n = 0 := by
      apply midw_nought
      intro i
      by_cases hi : i < n
      · right; rw [hfull i hi]; rfl
      · left; simp [List.getD, List.getElem?_eq_none (show zs.length ≤ i by omega)]
    have t0 : tu (8192 - hist zs n 52) = 0 := by rw [c52]; unfold tu; rw [if_pos (.inl rfl)]
    have z0 : zw (hist zs n) (midw zs n) = 0 := by
      unfold zw
      rw [c0, sg_zero, m0, t0, fmul_zero, zero_fmul, fadd00, fadd00]
    rw [e1, z0, cln_zero]
    have e2 : fdiv em2 0 = inf := by unfold fdiv; rw [e_inf, Option.getD_some]
    rw [e2]
    exact close_same inf (Nat.le_refl _) w
  · simp only [Classical.not_forall] at hfull
    obtain ⟨j, hj, hj5⟩ := hfull
    have hex : ∃ k, k ≤ 51 ∧ 1 ≤ hist zs n k := by
      obtain ⟨a, b⟩ := hz j
      exact ⟨(zs.getD j 0).toNat, by omega, hist_one (Nat.le_of_eq hl.symm) _ j hj (by omega)⟩
    have hm : midw zs n ≤ em := midw_em (by omega)
    have hml : midw zs n = 0 ∨ pw 51 ≤ midw zs n := midw_lo (fun i => (hz i).2) n (by omega)
    have hnear := midw_near (fun i => (hz i).2) n (by omega)
    rw [msum_hsum zs hz n (by omega)] at hnear
    have hb := both_near hc h0 hm hml (near_mono hnear (by omega))
    have hz2 : pw 100 ≤ z2 (hist zs n) := Nat.le_trans (pw_le (by omega)) (z2_lo hc h0 hex)
    have hz2' : z2 (hist zs n) ≤ zb2 := Nat.le_trans (z2_le hc h0) zb_zb2
    have hzw' : zw (hist zs n) (midw zs n) ≤ zb2 := zw_le h0 hm
    have hzw0 : zw (hist zs n) (midw zs n) ≠ 0 := by
      have h2 : 0 < val (z2 (hist zs n)) := val_pos (by
        have : pw 100 ≠ 0 := by decide +kernel
        omega)
      intro e
      exact near_pos hb h2 (by rw [e, val_zero])
    have hzw : pw 100 ≤ zw (hist zs n) (midw zs n) := by
      have hS : fmul em (sg (hist zs n 0)) = 0 ∨ pw 100 ≤ fmul em (sg (hist zs n 0)) := by
        rcases emsg_lo h0 with e | e
        · exact .inl e
        · exact .inr (Nat.le_trans (pw_le_one 100) e)
      have h1 := fadd_lo hS (fmul_le_inf _ _) (lo_mono hml (show 51 ≤ 100 by omega)) (Nat.le_of_lt (Nat.lt_of_le_of_lt hm em_lt))
      have h2 := fadd_lo h1 (fadd_le_inf _ _) (tpw_lo (j := 8192 - hist zs n 52) (by omega)) (fmul_le_inf _ _)
      exact h2.resolve_left hzw0
    have hq := quot_near hz2 hz2' hzw hzw' hb
    have hest : est (hist zs n) = fdiv em2 (fmul cln (z2 (hist zs n))) := by unfold est; rw [if_neg (by omega)]
    obtain ⟨_, _, f1, _, _⟩ := quot_facts hz2 hz2'
    obtain ⟨_, _, f2, _, _⟩ := quot_facts hzw hzw'
    rw [hest]
    have hcl := close_le (near_mono hq (show 8298 + 6 ≤ NN by unfold NN; omega))
    clear hest hq hb hnear hzw0
    generalize fdiv em2 (fmul cln (z2 (hist zs n))) = g at *
    generalize fdiv em2 (fmul cln (zw (hist zs n) (midw zs n))) = v at *
    rcases Nat.lt_trichotomy g v with h | h | h
    · exact close_lt g v f2 h (hcl.2 (Nat.le_of_lt h)) w
    · subst h; exact close_same g (Nat.le_of_lt f1) w
    · exact close_gt g v f1 f2 h (hcl.1 (Nat.le_of_lt h)) w
end Go.Proofs.Qxb6604680a
