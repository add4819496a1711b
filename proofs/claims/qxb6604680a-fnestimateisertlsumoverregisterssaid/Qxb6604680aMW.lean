import Derived.Test.Qxb6604680aFW
namespace Go.Proofs.Qxb6604680a
open Go.RowKit Fl

theorem lt_of_cell {w : World} {b o : Nat} {v : Value} (h : w.cell? ⟨b, o, none⟩ = some v) : b < w.heap.size := by
  by_cases hb : b < w.heap.size
  · exact hb
  · exfalso
    have : w.heap[b]? = none := by simp; omega
    simp [World.cell?, this] at h

theorem info5 : (Try.prog.info? 5).map (fun i => (i.zero, i.size, i.bytes)) = some (some (.int .u8 0), 1, 1) := by kernel_rfl

/-- the cells of a row of bytes -/
def Row (w : World) (b off n : Nat) (zs : List Int) : Prop := ∀ i, i < n → w.cell? ⟨b, off + i, none⟩ = some (.int .u8 (zs.getD i 0))

theorem eq_nil_some (x : Addr) (n cap : Nat) (w : World) : (binOp .eql 25 (.slice (some x) n cap) (.slice none 0 0)).run Try.prog w = .ok (.bool false) w := by
  have h := run_equal_slice_nil (P := Try.prog) w 25 _ (some x) n cap Try.underlying25
  simp [binOp, h]

theorem row_store {w : World} {N n k : Nat} {zs : List Int} {u : Int} (hk : k < n) (h1 : ∀ i, i < n → ∃ v, w.cell? ⟨N, i, none⟩ = some v ∧ (i < k → v = .int .u8 (zs.getD i 0))) (hu : u = zs.getD k 0) :
    ∀ i, i < n → ∃ v, (w.setCell ⟨N, k, none⟩ (.int .u8 u)).cell? ⟨N, i, none⟩ = some v ∧ (i < k + 1 → v = .int .u8 (zs.getD i 0)) := by
  intro i hi
  by_cases e : i = k
  · subst e
    obtain ⟨v, hv, _⟩ := h1 i hi
    exact ⟨_, World.cell?_setCell_same _ _ _ hv, fun _ => by rw [hu]⟩
  · obtain ⟨v, hv, h2⟩ := h1 i hi
    refine ⟨v, ?_, fun h => h2 (by omega)⟩
    rw [World.cell?_setCell_other (a := ⟨N, k, none⟩) (b := ⟨N, i, none⟩) _ _ (by intro h; injection h with _ h2 _; exact e h2.symm)]
    exact hv

set_option maxHeartbeats 400000 in
theorem copy_any (b off n cap : Nat) (zs : List Int) (w : World) (hn : n ≤ 1048576) (h0 : 0 < n) (hc : Row w b off n zs) :
    Calls Try.prog 15 #[.slice (some ⟨b, off, none⟩) n cap] w fun e w' => e = .returned (.slice (some ⟨w.heap.size, 0, none⟩) n n) ∧ Below w.heap.size w w' ∧ Row w' w.heap.size 0 n zs := by
  obtain ⟨i, hi, hz, hs, hb⟩ := info_parts info5
  have hbl : b < w.heap.size := lt_of_cell (hc 0 h0)
  have hnil := eq_nil_some ⟨b, off, none⟩ n cap
  go_enter Try.func15, Try.ntmps15
  go_wp2_with (at_make; refine wpList_make_full _ rfl _ _ _ rfl w.heap.size 5 i _ 1 Try.underlying25 hi hz hs _ _ _ _ n rfl rfl rfl rfl (by rw [hb]; omega) (by unfold maxLen; omega) (Nat.le_refl _) ?_; intro w1 hown hgrow)
  have hB1 : Below w.heap.size w w1 := (Below.refl _ _).grown hgrow (Nat.le_refl _) (by intro k hk; cases hk)
  have hst : Aside (∀ i, i < n → ∃ v, w1.cell? ⟨w.heap.size, i, none⟩ = some v ∧ (i < 0 → v = .int .u8 (zs.getD i 0))) := by
    intro j hj
    have e : (madeCells (Value.int .u8 0).cells (n * 1)).toList = List.replicate n (.int .u8 0) := by rw [Nat.mul_one]; exact toList_madeCells_one _ _
    rw [hown.cellAt j (by omega), e, List.getElem?_replicate, if_pos hj]
    exact ⟨_, rfl, fun h => by omega⟩
  have hfr : ∀ j, w1.frozen? ⟨w.heap.size, j, none⟩ = false := fun j => hown.frozenAt j
  clear hown hgrow
  go_loopw [4] (fun i wr => ∃ k : Nat, k ≤ n ∧ i = .int .i64 k ∧ Below w.heap.size w wr ∧ (∀ i, i < n → ∃ v, wr.cell? ⟨w.heap.size, i, none⟩ = some v ∧ (i < k → v = .int .u8 (zs.getD i 0))) ∧ (∀ j, wr.frozen? ⟨w.heap.size, j, none⟩ = false)) (fun i _ => n - (intOf i).toNat)
  case atStart => exact ⟨0, Nat.zero_le _, rfl, hB1, hst.out, hfr⟩
  case round =>
    obtain ⟨k, hk, rfl, hB, hcs, hfz⟩ := hrel
    by_cases hlt : k < n
    · obtain ⟨v, hv, _⟩ := hcs k hlt
      have hsrc : wr.cell? ⟨b, off + k, none⟩ = some (.int .u8 (zs.getD k 0)) := by rw [hB.cell (p := ⟨b, off + k, none⟩) hbl]; exact hc k hlt
      have hfk := hfz k
      have A : Aside (∀ i, i < n → ∃ v, (wr.setCell ⟨w.heap.size, k, none⟩ (.int .u8 (zs.getD k 0))).cell? ⟨w.heap.size, i, none⟩ = some v ∧ (i < k + 1 → v = .int .u8 (zs.getD i 0))) := row_store hlt hcs rfl
      clear hcs
      go_wp2
      go_roundw
      case rel => exact ⟨k + 1, by omega, by go_num, hB.setCell (Nat.le_refl _) _, A.out, fun j => by rw [World.frozen?_setCell]; exact hfz j⟩
      case measure => simp [intOf]; omega
    · go_wp2
      go_ret
      refine ⟨rfl, hB, fun i hi => ?_⟩
      obtain ⟨v, hv, h2⟩ := hcs i hi
      rw [Nat.zero_add, hv, h2 (by omega)]

def hist (zs : List Int) (m k : Nat) : Nat := (zs.take m).count (k : Int)
theorem hist_le (zs : List Int) (m k : Nat) : hist zs m k ≤ m := by
  unfold hist
  have := List.count_le_length (a := (k : Int)) (l := zs.take m)
  have := List.length_take_le m zs
  omega

theorem hist_zero (zs : List Int) (k : Nat) : hist zs 0 k = 0 := by unfold hist; simp
theorem hist_succ (zs : List Int) (m k : Nat) (h : m < zs.length) : hist zs (m + 1) k = hist zs m k + if zs.getD m 0 = (k : Int) then 1 else 0 := by
  unfold hist
  rw [List.take_succ_eq_append_getElem h, List.count_append]
  have : zs.getD m 0 = zs[m] := by simp [List.getD, h]
  rw [this, List.count_singleton]
  simp [beq_iff_eq]

/-- the histogram in memory -/
def Hist (w : World) (N : Nat) (c : Nat → Nat) : Prop := ∀ j, j ≤ 52 → w.cell? ⟨N, j, none⟩ = some (.int .i64 (c j : Int))

theorem hist_store {w : World} {N : Nat} {zs : List Int} {m r : Nat} (hm : m < zs.length) (hr : zs.getD m 0 = (r : Int)) (hr2 : r ≤ 52) (h : Hist w N (hist zs m)) :
    Hist (w.setCell ⟨N, r, none⟩ (.int .i64 ((hist zs m r : Int) + 1))) N (hist zs (m + 1)) := by
  intro j hj
  rw [hist_succ zs m j hm, hr]
  by_cases e : j = r
  · subst e
    rw [World.cell?_setCell_same _ _ _ (h j hj)]
    simp
  · rw [World.cell?_setCell_other (a := ⟨N, r, none⟩) (b := ⟨N, j, none⟩) _ _ (by intro h; injection h with _ h2 _; exact e h2.symm), h j hj]
    rw [if_neg (by omega)]; rfl

theorem hist_start (w : World) (zs : List Int) (t : TypeId) : Hist (w.alloc (.cells (Array.replicate 53 (.int .i64 0)) t)) w.heap.size (hist zs 0) := by
  intro j hj
  rw [World.cell?_alloc_new, hist_zero, Array.getElem?_replicate, if_pos (by omega)]; rfl

theorem ret_fl {a b : Nat} (h : a = b) : Ending.returned (.float .f64 a) = .returned (.float .f64 b) := by rw [h]
/-! ### the floats of estimate -/
theorem pT_eq : pT = 2 ^ 1074 := by unfold pT; exact Eq.refl _
theorem floatOfInt_nat (n : Nat) : floatOfInt .f64 (n : Int) = fint n := by
  unfold floatOfInt FloatKind.nearest FloatKind.encode
  have h1 : decide ((n : Int) < 0) = false := decide_eq_false (by omega)
  rw [h1]
  have h2 : ((n : Int)).natAbs = n := by omega
  rw [h2]
  show Ieee.double.nearest false n 0 = _
  rw [nearest_eq]
  unfold fint
  have e1 : ((0 : Int) + 1074).toNat = 1074 := by decide
  have e2 : ((-1074 : Int) - 0).toNat = 0 := by decide
  rewrite [e1, e2, ← pT_eq]
  exact Eq.refl (rnd (n * pT) 0)

theorem tau_all (j : Nat) (hj : j ≤ 8192) (w : World) :
    Calls Try.prog 29 #[.float .f64 (qw j)] w fun e w' => e = .returned (.float .f64 (tu j)) ∧ w' = w := by
  by_cases h0 : j = 0
  · subst h0
    have e : tu 0 = 0 := by unfold tu; rw [if_pos (.inl rfl)]
    rw [qw_zero, e]
    exact tau_zero w
  · by_cases h1 : j = 8192
    · have e : tu j = 0 := by unfold tu; rw [if_pos (.inr h1)]
      rw [e, h1, qw_top]
      exact tau_one w
    · exact tau_any j (by omega) (by omega) w

theorem mul_em_inf : Ieee.double.mul em inf = some inf := by decide +kernel
theorem mul_cln_inf : Ieee.double.mul cln inf = some inf := by decide +kernel
theorem div_em2_inf : Ieee.double.div em2 inf = some 0 := by decide +kernel
theorem add_inf {z : Nat} (hz : z < inf) : Ieee.double.add z inf = some inf := by
  obtain ⟨m, i, h1, _⟩ := read_pos hz
  unfold Ieee.Format.add
  rw [h1, read_inf]
  rfl
theorem div_em2 {y : Nat} (hy : y < inf) : Ieee.double.div em2 y = some (fdiv em2 y) := by
  by_cases h : y = 0
  · subst h
    unfold fdiv; rw [e_inf, Option.getD_some]
  · exact div_some em2_lt' h hy
theorem arith_mul (t : TypeId) {x y r : Nat} (h : Ieee.double.mul x y = some r) : binOp .mul t (.float .f64 x) (.float .f64 y) = pure (.float .f64 r) := by
  have h' : FloatKind.f64.format.mul x y = some r := h
  simp [binOp, Op.floatArith, h']
theorem arith_add (t : TypeId) {x y r : Nat} (h : Ieee.double.add x y = some r) : binOp .add t (.float .f64 x) (.float .f64 y) = pure (.float .f64 r) := by
  have h' : FloatKind.f64.format.add x y = some r := h
  simp [binOp, Op.floatArith, h']

/-- facts on words that arithmetic does not look into -/
structure Fw (x : Nat) : Prop where
  lt : x < inf
structure Sw (y x : Nat) : Prop where
  le : y ≤ x
theorem fw_add (t : TypeId) {x y : Nat} (hx : Fw x) (hy : Fw y) : binOp .add t (.float .f64 x) (.float .f64 y) = pure (.float .f64 (fadd x y)) := bin_add t hx.lt hy.lt
theorem fw_mul (t : TypeId) {x y : Nat} (hx : Fw x) (hy : Fw y) : binOp .mul t (.float .f64 x) (.float .f64 y) = pure (.float .f64 (fmul x y)) := bin_mul t hx.lt hy.lt
theorem fw_sub (t : TypeId) {x y : Nat} (hx : Fw x) (hy : Sw y x) : binOp .sub t (.float .f64 x) (.float .f64 y) = pure (.float .f64 (fsub x y)) := bin_sub t hx.lt hy.le
theorem fw_em : Fw em := ⟨em_lt⟩
theorem fw_one : Fw one := ⟨one_lt⟩
theorem fw_half : Fw half := ⟨half_lt⟩
theorem fw_cln : Fw cln := ⟨cln_lt⟩

section
attribute [local go_sem] fw_add fw_mul fw_sub lit_one lit_half lit_em lit_three lit_cln floatOfInt_nat fw_em fw_one fw_half fw_cln

set_option maxHeartbeats 400000 in
theorem estimate_any (p b off n cap : Nat) (zs : List Int) (w : World) (hp : w.cell? ⟨p, 1, none⟩ = some (.slice (some ⟨b, off, none⟩) n cap)) (hc : Row w b off n zs) (hz : ∀ i, i < n → 0 ≤ zs.getD i 0 ∧ zs.getD i 0 ≤ 52) (hl : n ≤ zs.length) (hn : n ≤ 8192) (hn0 : 0 < n) :
    Calls Try.prog 27 #[.pointer (some ⟨p, 0, none⟩)] w fun e w' => e = .returned (.float .f64 (est (hist zs n))) ∧ Below w.heap.size w w' := by
  have hbl : b < w.heap.size := lt_of_cell (hc 0 hn0)
  have hpl : p < w.heap.size := lt_of_cell hp
  go_enter Try.func27, Try.ntmps27
  go_wp2
  go_loopw [14] (fun i wr => ∃ k : Nat, k ≤ n ∧ i = .int .i64 k ∧ Below w.heap.size w wr ∧ Hist wr w.heap.size (hist zs k) ∧ (∀ j, wr.frozen? ⟨w.heap.size, j, none⟩ = false)) (fun i _ => n - (intOf i).toNat)
  case atStart => exact ⟨0, Nat.zero_le _, rfl, (Below.refl _ _).alloc (Nat.le_refl _) _, hist_start w zs 51, fun j => World.frozen?_alloc_new _ _ _ _⟩
  case round =>
    obtain ⟨k, hk, rfl, hB, hH, hfz⟩ := hrel
    by_cases hlt : k < n
    · have hsrc : wr.cell? ⟨b, off + k, none⟩ = some (.int .u8 (zs.getD k 0)) := by rw [hB.cell (p := ⟨b, off + k, none⟩) hbl]; exact hc k hlt
      obtain ⟨z1, z2⟩ := hz k hlt
      obtain ⟨r, hr⟩ : ∃ r : Nat, zs.getD k 0 = (r : Int) := ⟨(zs.getD k 0).toNat, by omega⟩
      have hr2 : r ≤ 52 := by omega
      have hst := hist_store (show k < zs.length by omega) hr hr2 hH
      have hle := hist_le zs k r
      have hcell := hH r hr2
      have hfr := hfz r
      rw [hr] at hsrc
      have A : Aside (Hist (wr.setCell ⟨w.heap.size, r, none⟩ (.int .i64 ((hist zs k r : Int) + 1))) w.heap.size (hist zs (k + 1))) := hst
      clear hr z1 z2 hst hH hz hc
      go_wp2
      go_roundw
      case rel => exact ⟨k + 1, by omega, by go_num, hB.setCell (Nat.le_refl _) _, A.out, fun j => by rw [World.frozen?_setCell]; exact hfz j⟩
      case measure => simp [intOf]; omega
    · have hE : Hist wr w.heap.size (hist zs n) := by rw [show n = k by omega]; exact hH
      clear hH
      have hc52 := hE 52 (by omega)
      have hc0 := hE 0 (by omega)
      have hcn : ∀ k, hist zs n k ≤ 8192 := fun k => Nat.le_trans (hist_le zs n k) hn
      clear hp hc hz hl hpl hbl hn0
      generalize hce : hist zs n = c at *
      have HC : Hid (hist zs n = c) := hce
      clear hce
      have h52 := hcn 52
      have h00 := hcn 0
      have q52 := bin_quo 37 (div_em h52)
      have hs1 : Sw (qw (c 52)) one := by have h := qw_mono h52; rw [qw_top] at h; exact ⟨h⟩
      have hsub := sub_qw h52
      have htl : Fw (tu (8192 - c 52)) := ⟨Nat.lt_of_le_of_lt tu_le one_lt⟩
      go_wp2_with (go_at_call 29; refine (tau_all _ (by omega) _).mono ?_; rintro e w' ⟨rfl, rfl⟩)
      have hA0 : Aside (∃ zz : Nat, Value.float .f64 (fmul em (tu (8192 - c 52))) = .float .f64 zz ∧ Sw zz em ∧ hor c 51 zz = z1 c) := ⟨_, rfl, ⟨emtu_le _⟩, by unfold z1; rfl⟩
      have hC : Aside (∀ k, c k ≤ 8192) := hcn
      clear htl hsub hs1 q52 hcn h52 hlt hk hn hc52
      go_loopg [7, 8] 51 (fun k z kv wx => ∃ zz : Nat, k ≤ 51 ∧ kv = .int .i64 k ∧ z = .float .f64 zz ∧ Sw zz em ∧ hor c k zz = z1 c ∧ wx = w')
      case atStart =>
        obtain ⟨zz, e1, e2, e3⟩ := hA0.out
        exact ⟨zz, Nat.le_refl _, rfl, e1, e2, e3, rfl⟩
      case round =>
        obtain ⟨zz, hkk, rfl, rfl, hze, hh, rfl⟩ := hrel
        by_cases hpos : 1 ≤ gk
        · obtain ⟨g, rfl⟩ : ∃ g, gk = g + 1 := ⟨gk - 1, by omega⟩
          have hcell := hE (g + 1) (by omega)
          have hstep := hor_step (c := c) (k := g + 1) (hC.out _) hze.le
          have f1 : Fw zz := ⟨Nat.lt_of_le_of_lt hze.le em_lt⟩
          have f2 : Fw (fint (c (g + 1))) := ⟨hstep.1⟩
          have f3 : Fw (fadd zz (fint (c (g + 1)))) := ⟨hstep.2.1⟩
          have A : Aside (Sw (fmul half (fadd zz (fint (c (g + 1))))) em ∧ hor c g (fmul half (fadd zz (fint (c (g + 1))))) = z1 c) := ⟨⟨hstep.2.2⟩, by rw [← hor_succ]; exact hh⟩
          clear hstep hh hze hA0
          go_wp2
          go_roundg g
          case measure => omega
          case rel => exact ⟨_, by omega, by go_num, rfl, A.out.1, A.out.2, rfl⟩
        · have hk0 : gk = 0 := by omega
          subst hk0
          rw [hor_zero] at hh
          have f1 : Fw zz := ⟨Nat.lt_of_le_of_lt hze.le em_lt⟩
          have hh' : Hid (zz = z1 c) := hh
          have hgk : ¬ ((1 : Int) ≤ ((0 : Nat) : Int)) := by omega
          have q0 := bin_quo 37 (div_em h00)
          have hzb : Sw zz em := hze
          clear hA0 hh hze
          by_cases hc8 : c 0 < 8192
          · have g1 : Fw (sg (c 0)) := ⟨Nat.lt_of_le_of_lt (sg_bounds hc8).2 sb_lt⟩
            have g2 : Fw (fmul em (sg (c 0))) := ⟨Nat.lt_of_le_of_lt (emsg_le hc8) em2_lt'⟩
            have g3 : Fw (fadd zz (fmul em (sg (c 0)))) := ⟨by
              rw [hh'.out]; exact Nat.lt_of_le_of_lt (z2_le hC.out hc8) zb_lt⟩
            have g4 := bin_quo 37 (div_em2 (cz2_lt hC.out hc8))
            unfold em2 z2 at g4
            rw [← hh'.out] at g4
            have A : Aside (fdiv (fmul em em) (fmul cln (fadd zz (fmul em (sg (c 0))))) = est c) := by
              show _ = _
              unfold est; rw [if_neg (by omega)]; unfold em2 z2; rw [hh'.out]
            clear hzb
            go_wp2_with (go_at_call 28; refine (sigma_any _ hc8 _).mono ?_; rintro e w' ⟨rfl, rfl⟩)
            go_ret
            exact ⟨ret_fl (by rw [HC.out]; exact A.out), hB⟩
          · have hc9 : c 0 = 8192 := by omega
            have q1 : binOp .quo 37 (.float .f64 (fint (c 0))) (.float .f64 em) = pure (.float .f64 one) := by rw [q0, hc9, qw_top]
            have g2 := arith_mul 37 mul_em_inf
            have g3 := arith_add 37 (add_inf (Nat.lt_of_le_of_lt hzb.le em_lt))
            have g4 := arith_mul 37 mul_cln_inf
            have g5 := bin_quo 37 div_em2_inf
            unfold em2 at g5
            have A : Aside (0 = est c) := by
              show _ = _
              unfold est; rw [if_pos hc9]
            clear q0 hc9 hzb hc8
            go_wp2_with (go_at_call 28; refine (sigma_one _).mono ?_; rintro e w' ⟨rfl, rfl⟩)
            go_ret
            exact ⟨ret_fl (by rw [HC.out]; exact A.out), hB⟩
end
end Go.Proofs.Qxb6604680a
