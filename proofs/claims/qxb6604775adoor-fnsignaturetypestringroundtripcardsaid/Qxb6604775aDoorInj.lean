import Derived.Test.Qxb6604775aDoorFmt
namespace Go.Proofs.Qxb6604775aDoor
open Go.RowKit Go.Sort Go.Lib

theorem tab_below {w w' : World} (h : Below w.heap.size w w') (htab : Tab w) : Tab w' := by
  unfold Tab TabIs at *
  unfold World.var? at *
  cases hg : Tryd.prog.globalNamed powName with
  | none => simp [hg] at htab
  | some g =>
    simp only [hg, Option.bind_some] at htab ⊢
    have hlt : g < w.heap.size := by
      rcases Nat.lt_or_ge g w.heap.size with h' | h'
      · exact h'
      · rw [Array.getElem?_eq_none h'] at htab; simp at htab
    rw [h.block g hlt]
    exact htab

/-! ### the plain law -/
def dval (l : List UInt8) : Nat := l.foldl (fun v c => v * 10 + (c.toNat - 48)) 0
theorem dval_snoc (l : List UInt8) (c : UInt8) : dval (l ++ [c]) = dval l * 10 + (c.toNat - 48) := by
  unfold dval; rw [List.foldl_append]; rfl
theorem dval_dec (u : Nat) : dval (Lib.decDigits u) = u := by
  induction u using Nat.strongRecOn with
  | _ u ih =>
    rw [Lib.decDigits]
    by_cases h : u < 10
    · rw [dif_pos h]
      unfold dval
      simp
      omega
    · rw [dif_neg h, dval_snoc, ih (u / 10) (by omega)]
      simp
      omega
theorem dec_inj {a b : Nat} (h : Lib.decDigits a = Lib.decDigits b) : a = b := by
  have := congrArg dval h
  rwa [dval_dec, dval_dec] at this
theorem numbered_inj {a b : Nat} (h : numbered a = numbered b) : a = b := by
  unfold numbered at h
  have h1 := List.append_cancel_right h
  exact dec_inj (List.append_cancel_left h1)
theorem text_inj {a b : Nat} (h : textOf a = textOf b) : a = b := by
  have hn : ∀ u, (numbered u).head? = some 83 := fun u => by unfold numbered pre; rfl
  unfold textOf at h
  by_cases a0 : a = 0
  · by_cases b0 : b = 0
    · omega
    · rw [if_pos a0, if_neg b0] at h
      by_cases b4 : b = 4
      · rw [if_pos b4] at h; exact absurd h (by decide)
      · rw [if_neg b4] at h
        have := congrArg List.head? h
        rw [hn] at this; exact absurd this (by decide)
  · rw [if_neg a0] at h
    by_cases a4 : a = 4
    · rw [if_pos a4] at h
      by_cases b0 : b = 0
      · rw [if_pos b0] at h; exact absurd h (by decide)
      · rw [if_neg b0] at h
        by_cases b4 : b = 4
        · omega
        · rw [if_neg b4] at h
          have := congrArg List.head? h
          rw [hn] at this; exact absurd this (by decide)
    · rw [if_neg a4] at h
      by_cases b0 : b = 0
      · rw [if_pos b0] at h
        have := congrArg List.head? h
        rw [hn] at this; exact absurd this (by decide)
      · rw [if_neg b0] at h
        by_cases b4 : b = 4
        · rw [if_pos b4] at h
          have := congrArg List.head? h
          rw [hn] at this; exact absurd this (by decide)
        · rw [if_neg b4] at h
          exact numbered_inj h
theorem text_ne (u : Nat) : textOf u ≠ [] := by
  unfold textOf
  split
  · decide
  · split
    · decide
    · unfold numbered pre; simp

set_option maxHeartbeats 800000 in
theorem walk4 (a b : Nat) (ha : a < 18446744073709551616) (hb : b < 18446744073709551616) (w : World) (htab : Tab w) :
    Calls Tryd.prog 4 #[.int .u64 a, .int .u64 b] w fun e w' => e = .returned (.bool true) ∧ Below w.heap.size w w' := by
  have hA := fun w h => string6 a ha w h
  have hB := fun w h => string6 b hb w h
  have tl : ∀ l : List UInt8, (⟨l.toArray⟩ : ByteArray).toList = l := fun l => by rw [ByteArray.toList_eq]
  have hna : (⟨(textOf a).toArray⟩ : ByteArray).toList.isEmpty = false := by
    rw [tl]; simpa using text_ne a
  have hnb : (⟨(textOf b).toArray⟩ : ByteArray).toList.isEmpty = false := by
    rw [tl]; simpa using text_ne b
  have hab : ((⟨(textOf a).toArray⟩ : ByteArray).toList == (⟨(textOf b).toArray⟩ : ByteArray).toList) = decide (a = b) := by
    rw [tl, tl]
    by_cases h : a = b
    · subst h; simp
    · rw [decide_eq_false h]
      simp only [beq_eq_false_iff_ne]
      exact fun e => h (text_inj e)
  have hi : ((a : Int) == (b : Int)) = decide (a = b) := by
    by_cases h : a = b
    · subst h; simp
    · rw [decide_eq_false h]; simp; omega
  generalize (⟨(textOf a).toArray⟩ : ByteArray) = sa at *
  generalize (⟨(textOf b).toArray⟩ : ByteArray) = sb at *
  generalize decide (a = b) = q at *
  clear tl
  go_enter Tryd.func4, Tryd.ntmps4
  go_wp2_with fail
  refine (hA _ htab).mono ?_
  rintro e w1 ⟨rfl, k1, os1, hw1⟩
  have hB1 : Below w.heap.size w w1 := by rw [hw1]; exact Lib.below_grow _ _ (Nat.le_refl _) _ _
  have htab1 := tab_below hB1 htab
  clear hw1
  go_wp2_with fail
  refine (hB _ htab1).mono ?_
  rintro e w2 ⟨rfl, k2, os2, hw2⟩
  have hB2 : Below w.heap.size w w2 := hB1.trans (by rw [hw2]; exact Lib.below_grow _ _ hB1.size _ _)
  clear hw2
  go_wp2
  go_ret
  exact ⟨rfl, hB2⟩
end Go.Proofs.Qxb6604775aDoor
