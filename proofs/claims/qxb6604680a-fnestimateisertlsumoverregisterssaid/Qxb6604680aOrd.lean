import Derived.Test.Qxb6604680aMW
import Derived.ProofKit
import Derived.OpenShut
import Derived.ShutString
import Derived.ChangeOld
namespace Go.Proofs.Qxb6604680a
open Go.ChangeShapes Go.WideShapes Go.ChangeAt Go.RowKit Fl
open Go.ChangeMaps (open_string shut_string)

/-! ### the plain law -/
theorem hist_all {zs : List Int} {n : Nat} (hl : n ≤ zs.length) (k : Nat) (h : ∀ i, i < n → zs.getD i 0 = (k : Int)) : hist zs n k = n := by
  unfold hist
  have hlen : (zs.take n).length = n := by simp; omega
  have : (zs.take n).count (k : Int) = (zs.take n).length := by
    rw [List.count_eq_length]
    intro b hb
    obtain ⟨i, hi, e⟩ := List.mem_iff_getElem.1 hb
    have hi' : i < n := by omega
    have h2 := h i hi'
    rw [← e, List.getElem_take]
    have h3 : zs.getD i 0 = zs[i] := by simp [List.getD, show i < zs.length by omega]
    rw [← h2, h3]
  omega
theorem hist_none {zs : List Int} {n : Nat} (hl : n ≤ zs.length) (k : Nat) (h : ∀ i, i < n → zs.getD i 0 ≠ (k : Int)) : hist zs n k = 0 := by
  unfold hist
  rw [List.count_eq_zero]
  intro hb
  obtain ⟨i, hi, e⟩ := List.mem_iff_getElem.1 hb
  have hlen : (zs.take n).length = n := by simp; omega
  have hi' : i < n := by omega
  rw [List.getElem_take] at e
  have h3 : zs.getD i 0 = zs[i] := by simp [List.getD, show i < zs.length by omega]
  exact h i hi' (by rw [h3, e])
theorem hist_one {zs : List Int} {n : Nat} (hl : n ≤ zs.length) (k i : Nat) (hi : i < n) (h : zs.getD i 0 = (k : Int)) : 1 ≤ hist zs n k := by
  unfold hist
  apply List.one_le_count_iff.2
  apply List.mem_iff_getElem.2
  have hlen : (zs.take n).length = n := by simp; omega
  refine ⟨i, by omega, ?_⟩
  rw [List.getElem_take]
  have h3 : zs.getD i 0 = zs[i] := by simp [List.getD, show i < zs.length by omega]
  rw [← h3, h]
theorem hist_lt {zs : List Int} {n : Nat} (hl : n ≤ zs.length) (k i : Nat) (hi : i < n) (h : zs.getD i 0 ≠ (k : Int)) : hist zs n k < n := by
  have h1 := hist_le zs n k
  by_cases e : hist zs n k = n
  · exfalso
    unfold hist at e
    have hlen : (zs.take n).length = n := by simp; omega
    have e2 : (zs.take n).count (k : Int) = (zs.take n).length := by omega
    rw [List.count_eq_length] at e2
    have h3 : zs.getD i 0 = zs[i] := by simp [List.getD, show i < zs.length by omega]
    have h4 := e2 (zs[i]) (by
      apply List.mem_iff_getElem.2
      exact ⟨i, by omega, by rw [List.getElem_take]⟩)
    exact h (by rw [h3, ← h4])
  · omega

/-- the registers in reverse order -/
def rev (zs : List Int) (n : Nat) : List Int := (zs.take n).reverse
theorem rev_len {zs : List Int} {n : Nat} (hl : n ≤ zs.length) : (rev zs n).length = n := by unfold rev; simp; omega
theorem rev_get {zs : List Int} {n i : Nat} (hl : n ≤ zs.length) (hi : i < n) : (rev zs n).getD i 0 = zs.getD (n - 1 - i) 0 := by
  have h1 := rev_len hl
  have hlen : (zs.take n).length = n := by simp; omega
  have e1 : (rev zs n).getD i 0 = (rev zs n)[i] := by simp [List.getD, show i < (rev zs n).length by omega]
  have e2 : zs.getD (n - 1 - i) 0 = zs[n - 1 - i] := by simp [List.getD, show n - 1 - i < zs.length by omega]
  rw [e1, e2]
  unfold rev
  rw [List.getElem_reverse, List.getElem_take]
  congr 1
  omega
theorem rev_hist {zs : List Int} {n : Nat} (hl : n ≤ zs.length) : hist (rev zs n) n = hist zs n := by
  funext k
  unfold hist
  have h1 := rev_len hl
  rw [List.take_of_length_le (by omega)]
  unfold rev
  rw [List.count_reverse]

/-- a flag that says whether all so far are k, one round on -/
theorem flag_keep {zs : List Int} {t : Nat} {k : Int} {f : Bool} (h : f = true ↔ ∀ i, i < t → zs.getD i 0 = k) (hz : zs.getD t 0 = k) : f = true ↔ ∀ i, i < t + 1 → zs.getD i 0 = k := by
  rw [h]
  constructor
  · intro g i hi
    by_cases e : i = t
    · rw [e]; exact hz
    · exact g i (by omega)
  · intro g i hi
    exact g i (by omega)
theorem flag_fall {zs : List Int} {t : Nat} {k : Int} (hz : zs.getD t 0 ≠ k) : false = true ↔ ∀ i, i < t + 1 → zs.getD i 0 = k := by
  constructor
  · intro h; cases h
  · intro g; exact absurd (g t (by omega)) hz

theorem maxf : (9218868437227405311 : Nat) + 1 = inf := by decide +kernel
theorem ord_gt {x y : Nat} (hx : x ≤ inf) (hy : y < x) : (FloatKind.f64.format.order x y == some .gt) = true := by
  have h : FloatKind.f64.format.order x y = some (compare x y) := order_pos hx (by omega)
  rw [h, Nat.compare_eq_gt.2 hy]; rfl
theorem ord_le {x y : Nat} (hy : y ≤ inf) (hx : x ≤ y) : (FloatKind.f64.format.order x y == some .lt || FloatKind.f64.format.order x y == some .eq) = true := by
  have h : FloatKind.f64.format.order x y = some (compare x y) := order_pos (by omega) hy
  rw [h]
  by_cases e : x = y
  · subst e; simp
  · rw [Nat.compare_eq_lt.2 (by omega)]; rfl
theorem est_zero_of {zs : List Int} {n : Nat} (hn : n = 8192) (hl : n ≤ zs.length) (h : ∀ i, i < n → zs.getD i 0 = 0) : est (hist zs n) = 0 := by
  have := hist_all hl 0 h
  unfold est
  rw [if_pos (by rw [this, hn])]
theorem est_full_of {zs : List Int} {n : Nat} (hn : n = 8192) (hl : n ≤ zs.length) (h : ∀ i, i < n → zs.getD i 0 = 52) : est (hist zs n) = inf := by
  apply est_full
  · rw [hist_all hl 52 h, hn]
  · intro j hj
    apply hist_none hl
    intro i hi
    rw [h i hi]
    omega
theorem est_mid_of {zs : List Int} {n : Nat} (hn : n = 8192) (hl : n ≤ zs.length) (hz : ∀ i, i < n → 0 ≤ zs.getD i 0 ∧ zs.getD i 0 ≤ 52) {i j : Nat} (hi : i < n) (hi0 : zs.getD i 0 ≠ 0) (hj : j < n) (hj52 : zs.getD j 0 ≠ 52) :
    0 < est (hist zs n) ∧ est (hist zs n) < inf := by
  have h1 : ∀ k, hist zs n k ≤ 8192 := fun k => by have := hist_le zs n k; omega
  have h2 : hist zs n 0 < 8192 := by have := hist_lt hl 0 i hi hi0; omega
  obtain ⟨a, b⟩ := hz j hj
  have h3 := hist_one hl (zs.getD j 0).toNat j hj (by omega)
  have := est_mid h1 h2 ⟨(zs.getD j 0).toNat, by omega, h3⟩
  exact this.2
theorem est_le_inf {zs : List Int} {n : Nat} (hn : n = 8192) (hl : n ≤ zs.length) (hz : ∀ i, i < n → 0 ≤ zs.getD i 0 ∧ zs.getD i 0 ≤ 52) : est (hist zs n) ≤ inf := by
  by_cases h0 : ∀ i, i < n → zs.getD i 0 = 0
  · rw [est_zero_of hn hl h0]; exact Nat.zero_le _
  · by_cases h5 : ∀ i, i < n → zs.getD i 0 = 52
    · rw [est_full_of hn hl h5]; exact Nat.le_refl _
    · simp only [Classical.not_forall] at h0 h5
      obtain ⟨i, hi, hi0⟩ := h0
      obtain ⟨j, hj, hj5⟩ := h5
      exact Nat.le_of_lt (est_mid_of hn hl hz hi hi0 hj hj5).2

/-! ### the walks of the two small ones -/
theorem newReg_any (b off n cap : Nat) (w : World) :
    Calls Try.prog 17 #[.slice (some ⟨b, off, none⟩) n cap] w fun e w' => e = .returned (.pointer (some ⟨w.heap.size, 0, none⟩)) ∧ w' = w.alloc (.cells #[.slice none 0 0, .slice (some ⟨b, off, none⟩) n cap] 50) := by
  go_enter Try.func17, Try.ntmps17
  go_wp2
  go_ret
  exact ⟨rfl, rfl⟩

theorem est16_any (p b off n cap : Nat) (zs : List Int) (w : World) (hp : w.cell? ⟨p, 1, none⟩ = some (.slice (some ⟨b, off, none⟩) n cap)) (hc : Row w b off n zs) (hz : ∀ i, i < n → 0 ≤ zs.getD i 0 ∧ zs.getD i 0 ≤ 52) (hl : n ≤ zs.length) (hn : n ≤ 8192) (hn0 : 0 < n) :
    Calls Try.prog 16 #[.pointer (some ⟨p, 0, none⟩)] w fun e w' => e = .returned (.float .f64 (est (hist zs n))) ∧ Below w.heap.size w w' := by
  go_enter Try.func16, Try.ntmps16
  go_wp2_with (go_at_call 27; refine (estimate_any p b off n cap zs _ hp hc hz hl hn hn0).mono ?_; rintro e w' ⟨rfl, hB⟩)
  go_ret
  exact ⟨rfl, hB⟩

theorem Row.below {w w' : World} {B b off n : Nat} {zs : List Int} (h : Row w b off n zs) (hB : Below B w w') (hb : b < B) : Row w' b off n zs := by
  intro i hi
  rw [hB.cell (p := ⟨b, off + i, none⟩) hb]
  exact h i hi

theorem bytes_any (a : Option Addr) (n cap : Nat) (w : World) (hn : n ≤ 9223372036854775807) :
    Calls Try.prog 22 #[.slice a n cap] w fun e w' => e = .returned (.bool (decide (n ≤ 1048576))) ∧ w' = w := by
  by_cases h : n ≤ 1048576
  · have e : decide (n ≤ 1048576) = true := decide_eq_true h
    rw [e]
    go_enter Try.func22, Try.ntmps22
    go_wp2
    go_ret
    exact ⟨rfl, rfl⟩
  · have e : decide (n ≤ 1048576) = false := decide_eq_false h
    rw [e]
    clear e
    go_enter Try.func22, Try.ntmps22
    go_wp2
    go_ret
    exact ⟨rfl, rfl⟩

theorem neq_false (t : TypeId) (k : IntKind) {a b : Int} (h : a = b) : binOp .neq t (.int k a) (.int k b) = pure (.bool false) := by
  rw [binOp_neq, h]; simp
theorem lss_true (t : TypeId) (k : IntKind) {a b : Int} (h : a < b) : binOp .lss t (.int k a) (.int k b) = pure (.bool true) := by simp [binOp, Op.intCmp, h]
theorem lss_false (t : TypeId) (k : IntKind) {a b : Int} (h : b ≤ a) : binOp .lss t (.int k a) (.int k b) = pure (.bool false) := by
  have h' : ¬ a < b := by omega
  simp [binOp, Op.intCmp, h']

/-- WHAT THE WALK IS TOLD OF A SLICE OF INTEGERS THAT CAME IN -/
def IsRow (k : IntKind) (w : World) (a : Option Addr) (len cap : Nat) (zs : List Int) : Prop :=
  (a = none ∧ len = 0 ∧ cap = 0 ∧ zs = []) ∨
  ∃ x, a = some x ∧ len ≤ cap ∧ cap ≤ maxLen ∧ zs.length = cap ∧ (∀ i, i < zs.length → w.cell? (x.add i) = some (.int k (zs.getD i 0))) ∧ ∀ n ∈ zs, (Lit.int k n).wf = true

set_option maxHeartbeats 400000 in
theorem walk6_other (a0 : Option Addr) (n cap : Nat) (w : World) (hn : n ≤ 9223372036854775807) (h : n ≠ 8192) :
    Calls Try.prog 6 #[.slice a0 n cap] w fun e w' => e = .returned (.bool true) ∧ Below w.heap.size w w' := by
  have h' : ((n : Int) == 8192) = false := by simp; omega
  by_cases hb : n ≤ 1048576
  · have e1 : decide (n ≤ 1048576) = true := decide_eq_true hb
    go_enter Try.func6, Try.ntmps6
    go_wp2_with (go_at_call 22; refine (bytes_any _ _ _ _ hn).mono ?_; rintro e w' ⟨rfl, rfl⟩)
    go_ret
    exact ⟨rfl, Below.refl _ _⟩
  · have e1 : decide (n ≤ 1048576) = false := decide_eq_false hb
    go_enter Try.func6, Try.ntmps6
    go_wp2_with (go_at_call 22; refine (bytes_any _ _ _ _ hn).mono ?_; rintro e w' ⟨rfl, rfl⟩)
    go_ret
    exact ⟨rfl, Below.refl _ _⟩

set_option maxHeartbeats 1000000 in
theorem walk6_main (b off n cap : Nat) (zs : List Int) (w : World) (hn1 : (n : Int) ≤ 8192) (hn2 : (8192 : Int) ≤ n) (hc : Row w b off n zs) (hz0 : ∀ i, i < n → 0 ≤ zs.getD i 0) (hl : n ≤ zs.length) :
    Calls Try.prog 6 #[.slice (some ⟨b, off, none⟩) n cap] w fun e w' => e = .returned (.bool true) ∧ Below w.heap.size w w' := by
  have e1 : decide (n ≤ 1048576) = true := decide_eq_true (by omega)
  obtain ⟨i5, hi, hz, hs, hb⟩ := info_parts info5
  have hne := neq_false 3 .i64 (show (n : Int) = 8192 by omega)
  go_enter Try.func6, Try.ntmps6
  go_wp2_with (go_at_call 22; refine (bytes_any _ _ _ _ (by omega)).mono ?_; rintro e w' ⟨rfl, hw⟩; have hw := hw.symm; subst hw)
  go_loopg [3] n (fun k j wr => ∃ q : Nat, q + k = n ∧ j = .int .i64 q ∧ (∀ i, i < q → zs.getD i 0 ≤ 52) ∧ wr = w)
  case atStart => exact ⟨0, by omega, rfl, fun i h => by omega, rfl⟩
  case round =>
    obtain ⟨q, hq, rfl, hle, hwr⟩ := hrel
    have hwr := hwr.symm
    subst hwr
    by_cases hlt : q < n
    · have hcell := hc q hlt
      generalize hzq : zs.getD q 0 = z at hcell
      have HZ : Hid (zs.getD q 0 = z) := hzq
      clear hzq
      have hd := lss_true 3 .i64 (show (q : Int) < 8192 by omega)
      by_cases h52 : z ≤ 52
      · have A : Aside (∀ i, i < q + 1 → zs.getD i 0 ≤ 52) := by
          intro i hi
          by_cases e : i = q
          · subst e; rw [HZ.out]; exact h52
          · exact hle i (by omega)
        clear hle
        go_wp2
        go_roundg (gk - 1)
        case measure => omega
        case rel => exact ⟨q + 1, by omega, by go_num, A.out, rfl⟩
      · clear hle
        go_wp2
        go_ret
        exact ⟨rfl, Below.refl _ _⟩
    · have A : Aside (∀ i, i < n → 0 ≤ zs.getD i 0 ∧ zs.getD i 0 ≤ 52) := fun i hi => ⟨hz0 i hi, hle i (by omega)⟩
      clear hle hz0
      have hd := lss_false 3 .i64 (show (8192 : Int) ≤ (q : Int) by omega)
      have hbl : b < w.heap.size := lt_of_cell (hc 0 (by omega))
      go_wp2_with fail
      refine (copy_any b off n cap zs w (by omega) (by omega) hc).mono ?_
      rintro e w1 ⟨rfl, hB1, hR1⟩
      go_wp2_with (at_make; refine wpList_make_full _ rfl _ _ _ rfl w1.heap.size 5 i5 _ 1 Try.underlying25 hi hz hs _ _ _ _ n rfl rfl (by omega) (by omega) (by rw [hb]; omega) (by unfold maxLen; omega) (Nat.le_refl _) ?_; intro w2 hown hgrow)
      have hN1 : w.heap.size < w1.heap.size := lt_of_cell (hR1 0 (by omega))
      have hB2 : Below w1.heap.size w1 w2 := (Below.refl _ _).grown hgrow (Nat.le_refl _) (by intro k hk; cases hk)
      have hst : Aside (∀ i, i < n → ∃ v, w2.cell? ⟨w1.heap.size, i, none⟩ = some v ∧ (i < 0 → v = .int .u8 ((rev zs n).getD i 0))) := by
        intro j hj
        have e : (madeCells (Value.int .u8 0).cells (n * 1)).toList = List.replicate n (.int .u8 0) := by rw [Nat.mul_one]; exact toList_madeCells_one _ _
        rw [hown.cellAt j (by omega), e, List.getElem?_replicate, if_pos hj]
        exact ⟨_, rfl, fun h => by omega⟩
      have hfr : ∀ j, w2.frozen? ⟨w1.heap.size, j, none⟩ = false := fun j => hown.frozenAt j
      have hsz2 : w1.heap.size < w2.heap.size := by
        obtain ⟨v, hv, _⟩ := hst.out 0 (by omega)
        exact lt_of_cell hv
      have AR : Aside (Row w1 w.heap.size 0 n zs) := hR1
      clear hown hgrow hd hR1
      go_loopg [5] n (fun k j wx => ∃ q : Nat, q + k = n ∧ j = .int .i64 q ∧ Below w1.heap.size w1 wx ∧ (∀ i, i < n → ∃ v, wx.cell? ⟨w1.heap.size, i, none⟩ = some v ∧ (i < q → v = .int .u8 ((rev zs n).getD i 0))) ∧ (∀ j, wx.frozen? ⟨w1.heap.size, j, none⟩ = false))
      case atStart => exact ⟨0, by omega, rfl, hB2, hst.out, hfr⟩
      case round =>
        obtain ⟨m, hm, rfl, hBx, hcs, hfz⟩ := hrel
        by_cases hlm : m < n
        · have hd := lss_true 3 .i64 (show (m : Int) < 8192 by omega)
          have hsb : binOp .sub 3 (.int .i64 8191) (.int .i64 (m : Int)) = pure (.int .i64 ((n - 1 - m : Nat) : Int)) := by
            have e : (8191 : Int) - m = ((n - 1 - m : Nat) : Int) := by omega
            have e2 : IntKind.i64.wrap ((n - 1 - m : Nat) : Int) = ((n - 1 - m : Nat) : Int) := by rw [IntKind.wrap_i64]; omega
            simp only [binOp_sub, Op.intArith, e, e2]
          have hsrc : wr.cell? ⟨w.heap.size, n - 1 - m, none⟩ = some (.int .u8 ((rev zs n).getD m 0)) := by
            rw [hBx.cell (p := ⟨w.heap.size, n - 1 - m, none⟩) hN1, rev_get hl hlm]
            have := AR.out (n - 1 - m) (by omega)
            rwa [Nat.zero_add] at this
          obtain ⟨v, hv, _⟩ := hcs m hlm
          have hfk := hfz m
          have A2 : Aside (∀ i, i < n → ∃ v, (wr.setCell ⟨w1.heap.size, m, none⟩ (.int .u8 ((rev zs n).getD m 0))).cell? ⟨w1.heap.size, i, none⟩ = some v ∧ (i < m + 1 → v = .int .u8 ((rev zs n).getD i 0))) := row_store hlm hcs rfl
          generalize (rev zs n).getD m 0 = z at hsrc A2
          have hrm : n - 1 - m < n := by omega
          clear hcs
          go_wp2
          go_roundg (gk - 1)
          case measure => omega
          case rel => exact ⟨m + 1, by omega, by go_num, hBx.setCell (Nat.le_refl _) _, A2.out, fun j => by rw [World.frozen?_setCell]; exact hfz j⟩
        · have hd := lss_false 3 .i64 (show (8192 : Int) ≤ (m : Int) by omega)
          have hR2 : Row wr w1.heap.size 0 n (rev zs n) := by
            intro i hi
            obtain ⟨v, hv, h2⟩ := hcs i hi
            rw [Nat.zero_add, hv, h2 (by omega)]
          have hN2 : w1.heap.size < wr.heap.size := lt_of_cell (hR2 0 (by omega))
          have hRx : Row wr w.heap.size 0 n zs := AR.out.below hBx hN1
          clear hcs hst hfr hfz hsz2 hB2
          go_wp2_with fail
          refine (copy_any w.heap.size 0 n n zs wr (by omega) (by omega) hRx).mono ?_
          rintro e w3 ⟨rfl, hB3, hR3⟩
          have hN3 : wr.heap.size < w3.heap.size := lt_of_cell (hR3 0 (by omega))
          go_wp2_with fail
          refine (newReg_any wr.heap.size 0 n n w3).mono ?_
          rintro e w4 ⟨rfl, hw4⟩
          have hB4 : Below w3.heap.size w3 w4 := by rw [hw4]; exact (Below.refl _ _).alloc (Nat.le_refl _) _
          have hc4 : w4.cell? ⟨w3.heap.size, 1, none⟩ = some (.slice (some ⟨wr.heap.size, 0, none⟩) n n) := by
            rw [hw4, World.cell?_alloc_new]; rfl
          have hN4 : w3.heap.size < w4.heap.size := lt_of_cell hc4
          have hR4 := hR3.below hB4 hN3
          clear hw4
          go_wp2_with fail
          refine (est16_any w3.heap.size wr.heap.size 0 n n zs w4 hc4 hR4 A.out hl (by omega) (by omega)).mono ?_
          rintro e w5 ⟨rfl, hB5⟩
          have hR2' : Row w5 w1.heap.size 0 n (rev zs n) := ((hR2.below hB3 hN2).below hB4 (by omega)).below hB5 (by omega)
          have hN5 : w4.heap.size ≤ w5.heap.size := hB5.size
          go_wp2_with fail
          refine (newReg_any w1.heap.size 0 n n w5).mono ?_
          rintro e w6 ⟨rfl, hw6⟩
          have hB6 : Below w5.heap.size w5 w6 := by rw [hw6]; exact (Below.refl _ _).alloc (Nat.le_refl _) _
          have hc6 : w6.cell? ⟨w5.heap.size, 1, none⟩ = some (.slice (some ⟨w1.heap.size, 0, none⟩) n n) := by
            rw [hw6, World.cell?_alloc_new]; rfl
          have hN6 : w5.heap.size < w6.heap.size := lt_of_cell hc6
          have hR6 := hR2'.below hB6 (by omega)
          clear hw6
          go_wp2_with fail
          refine (est16_any w5.heap.size w1.heap.size 0 n n (rev zs n) w6 hc6 hR6 (fun i hi => by rw [rev_get hl hi]; exact A.out _ (by omega)) (by rw [rev_len hl]; exact Nat.le_refl _) (by omega) (by omega)).mono ?_
          rintro e w7 ⟨rfl, hB7⟩
          rw [rev_hist hl]
          have hBf : Below w.heap.size w w7 := ((((((hB1.trans (hBx.mono (by omega))).trans (hB3.mono (by omega))).trans (hB4.mono (by omega))).trans (hB5.mono (by omega))).trans (hB6.mono (by omega))).trans (hB7.mono (by omega)))
          have hR7 : Row w7 w.heap.size 0 n zs := ((((hRx.below hB3 (by omega)).below hB4 (by omega)).below hB5 (by omega)).below hB6 (by omega)).below hB7 (by omega)
          clear hB1 hBx hB3 hB4 hB5 hB6 hB7 hR3 hR4 hR6 hR2 hR2' hRx hc4 hc6 hN1 hN2 hN3 hN4 hN5 hN6 hc AR
          have hei : Aside (est (hist zs n) ≤ inf) := est_le_inf (by omega) hl A.out
          have hnn : (FloatKind.f64.format.order (est (hist zs n)) (est (hist zs n)) != some .eq) = false := by
            have := ord_eq_t hei.out rfl
            simp [bne, this]
          go_wp2
          have HE : Hid (∀ x, est (hist zs n) = x → x = est (hist zs n)) := fun x h => h.symm
          clear hnn
          go_loopg [8, 9, 10] n (fun k z f j wx => ∃ (q : Nat) (za zf : Bool), q + k = n ∧ j = .int .i64 q ∧ z = .bool za ∧ f = .bool zf ∧ (za = true ↔ ∀ i, i < q → zs.getD i 0 = 0) ∧ (zf = true ↔ ∀ i, i < q → zs.getD i 0 = 52) ∧ wx = w7)
          case atStart => exact ⟨0, true, true, by omega, rfl, rfl, rfl, by simp, by simp, rfl⟩
          case round =>
            obtain ⟨t, za, zf, ht, rfl, rfl, rfl, hza, hzf, hwx⟩ := hrel
            have hwx := hwx.symm
            subst hwx
            by_cases hlt2 : t < n
            · have hd2 := lss_true 3 .i64 (show (t : Int) < 8192 by omega)
              have hcell := hR7 t hlt2
              rw [Nat.zero_add] at hcell
              generalize hzq : zs.getD t 0 = z at hcell
              have HZ : Hid (zs.getD t 0 = z) := hzq
              have A3 : Aside ((za = true ↔ ∀ i, i < t → zs.getD i 0 = 0) ∧ (zf = true ↔ ∀ i, i < t → zs.getD i 0 = 52)) := ⟨hza, hzf⟩
              clear hzq hza hzf hR7
              by_cases hz0 : z = 0
              · subst hz0
                go_wp2
                go_roundg (gk - 1)
                case measure => omega
                case rel => exact ⟨t + 1, za, false, by omega, by go_num, rfl, rfl, flag_keep A3.out.1 HZ.out, flag_fall (by rw [HZ.out]; decide), rfl⟩
              · by_cases hz5 : z = 52
                · subst hz5
                  clear hz0
                  go_wp2
                  go_roundg (gk - 1)
                  case measure => omega
                  case rel => exact ⟨t + 1, false, zf, by omega, by go_num, rfl, rfl, flag_fall (by rw [HZ.out]; decide), flag_keep A3.out.2 HZ.out, rfl⟩
                · have e0 : (z != 0) = true := by simpa using hz0
                  have e5 : (z != 52) = true := by simpa using hz5
                  have HF : Aside (z ≠ 0 ∧ z ≠ 52) := ⟨hz0, hz5⟩
                  clear hz0 hz5
                  go_wp2
                  go_roundg (gk - 1)
                  case measure => omega
                  case rel => exact ⟨t + 1, false, false, by omega, by go_num, rfl, rfl, flag_fall (by rw [HZ.out]; exact HF.out.1), flag_fall (by rw [HZ.out]; exact HF.out.2), rfl⟩
            · have hd2 := lss_false 3 .i64 (show (8192 : Int) ≤ (t : Int) by omega)
              have htn : t = n := by omega
              have hn8 : n = 8192 := by omega
              cases za with
              | true =>
                have h0 := est_zero_of hn8 hl (by rw [← htn]; exact hza.1 rfl)
                have ho := ord_eq_t (Nat.zero_le _) (show (0 : Nat) = 0 from rfl)
                rw [h0]
                clear hza hzf h0 hn8 htn hei
                go_wp2
                go_ret
                exact ⟨rfl, hBf⟩
              | false =>
                cases zf with
                | true =>
                  have h0 := est_full_of hn8 hl (by rw [← htn]; exact hzf.1 rfl)
                  have ho := ord_gt (Nat.le_refl inf) (show 9218868437227405311 < inf by rw [← maxf]; exact Nat.lt_succ_self _)
                  rw [h0]
                  clear hza hzf h0 hn8 htn hei
                  go_wp2
                  go_ret
                  exact ⟨rfl, hBf⟩
                | false =>
                  have g0 : ¬ ∀ i, i < n → zs.getD i 0 = 0 := by intro g; rw [← htn] at g; exact absurd (hza.2 g) (by decide)
                  have g5 : ¬ ∀ i, i < n → zs.getD i 0 = 52 := by intro g; rw [← htn] at g; exact absurd (hzf.2 g) (by decide)
                  simp only [Classical.not_forall] at g0 g5
                  obtain ⟨i, hi', hi0⟩ := g0
                  obtain ⟨j, hj', hj5⟩ := g5
                  obtain ⟨m1, m2⟩ := est_mid_of hn8 hl A.out hi' hi0 hj' hj5
                  have ho := ord_gt (Nat.le_of_lt m2) m1
                  have ho2 := ord_le (show 9218868437227405311 ≤ inf by rw [← maxf]; exact Nat.le_succ _) (show est (hist zs n) ≤ 9218868437227405311 by rw [← maxf] at m2; exact Nat.le_of_lt_succ m2)
                  generalize est (hist zs n) = x at *
                  clear hza hzf hn8 htn hei m1 m2 hi' hi0 hj' hj5 A
                  go_wp2
                  go_ret
                  exact ⟨rfl, hBf⟩
end Go.Proofs.Qxb6604680a
