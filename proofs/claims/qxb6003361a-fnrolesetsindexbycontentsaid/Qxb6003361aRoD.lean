import Derived.Test.Qxb6003361aRoB
namespace Go.Proofs.Qxb6003361a
open Go.RowKit

theorem info9 : (Try.prog.info? 9).map (fun i => (i.zero, i.size, i.bytes)) = some (some (.string ⟨#[]⟩), 1, 16) := by kernel_rfl
theorem info56 : (Try.prog.info? 56).map (fun i => (i.zero, i.size, i.bytes)) = some (some (.slice none 0 0), 1, 24) := by kernel_rfl

theorem nil56_some (x : Addr) (n cap : Nat) (w : World) : (binOp .eql 56 (.slice (some x) n cap) (.slice none 0 0)).run Try.prog w = .ok (.bool false) w := by
  have h := run_equal_slice_nil (P := Try.prog) w 56 _ (some x) n cap Try.underlying56
  simp [binOp, h]
theorem nil56_none (n cap : Nat) (w : World) : (binOp .eql 56 (.slice none n cap) (.slice none 0 0)).run Try.prog w = .ok (.bool true) w := by
  have h := run_equal_slice_nil (P := Try.prog) w 56 _ none n cap Try.underlying56
  simp [binOp, h]
theorem nil49_some (x : Addr) (n cap : Nat) (w : World) : (binOp .eql 49 (.slice (some x) n cap) (.slice none 0 0)).run Try.prog w = .ok (.bool false) w := by
  have h := run_equal_slice_nil (P := Try.prog) w 49 _ (some x) n cap Try.underlying49
  simp [binOp, h]
theorem nil49_none (n cap : Nat) (w : World) : (binOp .eql 49 (.slice none n cap) (.slice none 0 0)).run Try.prog w = .ok (.bool true) w := by
  have h := run_equal_slice_nil (P := Try.prog) w 49 _ none n cap Try.underlying49
  simp [binOp, h]

/-- the cells of the made row, the first k of them filled -/
theorem fill_step {w : World} {N k : Nat} {α : Type} {f : α → Value} {bs : List α} (hk : k < bs.length) (h1 : ∀ i (h : i < bs.length), ∃ v, w.cell? ⟨N, i, none⟩ = some v ∧ (i < k → v = f bs[i])) :
    ∀ i (h : i < bs.length), ∃ v, (w.setCell ⟨N, k, none⟩ (f bs[k])).cell? ⟨N, i, none⟩ = some v ∧ (i < k + 1 → v = f bs[i]) := by
  intro i hi
  by_cases e : i = k
  · subst e
    obtain ⟨v, hv, _⟩ := h1 i hi
    exact ⟨_, World.cell?_setCell_same _ _ _ hv, fun _ => rfl⟩
  · obtain ⟨v, hv, h2⟩ := h1 i hi
    refine ⟨v, ?_, fun h => h2 (by omega)⟩
    rw [World.cell?_setCell_other (a := ⟨N, k, none⟩) (b := ⟨N, i, none⟩) _ _ (by intro h; injection h with _ h2 _; exact e h2.symm)]
    exact hv

theorem lt_of_cell' {w : World} {a : Addr} {i : Nat} {v : Value} (h : w.cell? (a.add i) = some v) : a.block < w.heap.size := by
  by_cases hb : a.block < w.heap.size
  · exact hb
  · exfalso
    have : (a.add i).block = a.block := by unfold Addr.add; split <;> (try split) <;> rfl
    unfold World.cell? at h
    rw [this, Array.getElem?_eq_none (by omega)] at h
    simp at h

theorem add_block (a : Addr) (i : Nat) : (a.add i).block = a.block := by unfold Addr.add; split <;> (try split) <;> rfl

/-- what a clone hands back -/
def SliceIn (w : World) (lo : Nat) (v : Value) (r : List ByteArray) : Prop :=
  ∃ ao c, v = .slice ao r.length c ∧ Strs w ao r ∧ (∀ a, ao = some a → lo ≤ a.block ∧ a.block < w.heap.size)

theorem sliceIn_nil (w : World) (lo : Nat) : SliceIn w lo (.slice none 0 0) [] :=
  ⟨none, 0, rfl, fun i hi => absurd hi (by simp), fun a e => by cases e⟩
theorem add_new (g i : Nat) : (⟨g, 0, none⟩ : Addr).add i = ⟨g, i, none⟩ := by
  unfold Addr.add
  by_cases e : i = 0
  · subst e; simp
  · simp [e]

set_option maxHeartbeats 800000 in
theorem clone50 (w : World) (ao : Option Addr) (n c : Nat) (r : List ByteArray) (h : Strs w ao r) (hl : r.length = n) (hn : n ≤ 1048576) :
    Calls Try.prog 50 #[.slice ao n c] w fun e w' => ∃ v, e = .returned v ∧ SliceIn w' w.heap.size v r ∧ Below w.heap.size w w' := by
  obtain ⟨i, hi, hz, hs, hb⟩ := info_parts info9
  rcases ao with _ | a
  · have h0 : r = [] := by
      cases r with
      | nil => rfl
      | cons x t =>
        obtain ⟨a, e, _⟩ := h 0 (by simp)
        cases e
    subst h0
    have hnil := nil56_none n c
    clear h
    go_enter Try.func50, Try.ntmps50
    go_wp2
    go_ret
    exact ⟨_, rfl, sliceIn_nil _ _, Below.refl _ _⟩
  · have hnil := nil56_some a n c
    have HH : Aside (Strs w (some a) r) := h
    have L : Hid (r.length = n) := hl
    clear h hl
    go_enter Try.func50, Try.ntmps50
    go_wp2_with (at_make; refine wpList_make_full _ rfl _ _ _ rfl w.heap.size 9 i _ 1 Try.underlying56 hi hz hs _ _ _ _ n rfl rfl rfl rfl (by rw [hb]; omega) (by unfold maxLen; omega) (Nat.le_refl _) ?_; intro w1 hown hgrow)
    have hB1 : Below w.heap.size w w1 := (Below.refl _ _).grown hgrow (Nat.le_refl _) (by intro k hk; cases hk)
    have hst : Aside (∀ i (h : i < r.length), ∃ v, w1.cell? ⟨w.heap.size, i, none⟩ = some v ∧ (i < 0 → v = .string r[i])) := by
      intro j hj
      rw [L.out] at hj
      have e : (madeCells (Value.string ⟨#[]⟩).cells (n * 1)).toList = List.replicate n (.string ⟨#[]⟩) := by rw [Nat.mul_one]; exact toList_madeCells_one _ _
      rw [hown.cellAt j (by omega), e, List.getElem?_replicate, if_pos hj]
      exact ⟨_, rfl, fun h => by omega⟩
    have hfr : ∀ j, w1.frozen? ⟨w.heap.size, j, none⟩ = false := fun j => hown.frozenAt j
    have hsz : w.heap.size < w1.heap.size := (hown.lt _ rfl).2
    clear hown hgrow
    go_loopg [4] n (fun g iv wr => ∃ k : Nat, k + g = n ∧ iv = .int .i64 k ∧ Below w.heap.size w wr ∧ (∀ i (h : i < r.length), ∃ v, wr.cell? ⟨w.heap.size, i, none⟩ = some v ∧ (i < k → v = .string r[i])) ∧ (∀ j, wr.frozen? ⟨w.heap.size, j, none⟩ = false) ∧ w.heap.size < wr.heap.size)
    case atStart => exact ⟨0, by omega, rfl, hB1, hst.out, hfr, hsz⟩
    case round =>
      obtain ⟨k, hk, rfl, hB, hcs, hfz, hsz⟩ := hrel
      by_cases hlt : k < n
      · have hkb : k < r.length := by rw [L.out]; exact hlt
        obtain ⟨v, hv, _⟩ := hcs k hkb
        obtain ⟨a', e, q⟩ := HH.out k hkb
        cases e
        have hsrc : wr.cell? (a.add k) = some (.string r[k]) := by rw [hB.cell (by rw [add_block]; exact lt_of_cell' q)]; exact q
        have hfk := hfz k
        have A : Aside (∀ i (h : i < r.length), ∃ v, (wr.setCell ⟨w.heap.size, k, none⟩ (.string r[k])).cell? ⟨w.heap.size, i, none⟩ = some v ∧ (i < k + 1 → v = .string r[i])) := fill_step (f := Value.string) hkb hcs
        clear hcs q
        generalize hs : r[k] = s at hsrc A
        clear hs
        go_wp2
        go_roundg (gk - 1)
        case measure => omega
        case rel => exact ⟨k + 1, by omega, by go_num, hB.setCell (Nat.le_refl _) _, A.out, fun j => by rw [World.frozen?_setCell]; exact hfz j, by simpa using hsz⟩
      · have A : Aside (Strs wr (some ⟨w.heap.size, 0, none⟩) r) := by
          intro i hi
          obtain ⟨v, hv, h2⟩ := hcs i hi
          have := L.out
          refine ⟨_, rfl, ?_⟩
          rw [add_new, hv, h2 (by omega)]
        clear hcs
        go_wp2
        go_ret
        refine ⟨_, rfl, ⟨some ⟨w.heap.size, 0, none⟩, n, by rw [L.out]; rfl, A.out, ?_⟩, hB⟩
        intro a e
        cases e
        exact ⟨Nat.le_refl _, hsz⟩

theorem Strs.below {w w' : World} {ao : Option Addr} {r : List ByteArray} (h : Strs w ao r) (hB : Below w.heap.size w w') : Strs w' ao r := by
  intro i hi
  obtain ⟨a, e, q⟩ := h i hi
  refine ⟨a, e, ?_⟩
  rw [hB.cell (by rw [add_block]; exact lt_of_cell' q)]
  exact q
theorem Script.below {w w' : World} {ao : Option Addr} {R : List (List ByteArray)} (h : Script w ao R) (hB : Below w.heap.size w w') : Script w' ao R := by
  intro i hi
  obtain ⟨a, bo, c, e, q, hS⟩ := h i hi
  refine ⟨a, bo, c, e, ?_, hS.below hB⟩
  rw [hB.cell (by rw [add_block]; exact lt_of_cell' q)]
  exact q
theorem SliceIn.below {w w' : World} {lo : Nat} {v : Value} {r : List ByteArray} (h : SliceIn w lo v r) (hB : Below w.heap.size w w') : SliceIn w' lo v r := by
  obtain ⟨ao, c, e, hS, hb⟩ := h
  exact ⟨ao, c, e, hS.below hB, fun a ha => ⟨(hb a ha).1, Nat.lt_of_lt_of_le (hb a ha).2 hB.size⟩⟩
theorem SliceIn.mono {w : World} {lo lo' : Nat} {v : Value} {r : List ByteArray} (h : SliceIn w lo v r) (hl : lo' ≤ lo) : SliceIn w lo' v r := by
  obtain ⟨ao, c, e, hS, hb⟩ := h
  exact ⟨ao, c, e, hS, fun a ha => ⟨Nat.le_trans hl (hb a ha).1, (hb a ha).2⟩⟩
theorem SliceIn.setCell {w : World} {lo : Nat} {v : Value} {r : List ByteArray} (h : SliceIn w lo v r) {p : Addr} (hp : p.block < lo) (u : Value) : SliceIn (w.setCell p u) lo v r := by
  obtain ⟨ao, c, e, hS, hb⟩ := h
  refine ⟨ao, c, e, ?_, fun a ha => ⟨(hb a ha).1, by simpa using (hb a ha).2⟩⟩
  intro i hi
  obtain ⟨a, ea, q⟩ := hS i hi
  refine ⟨a, ea, ?_⟩
  have h1 := (hb a ea).1
  rw [World.cell?_of_block (w := w) (Below.heap_setCell w p u (a.add i).block (by rw [add_block]; omega))]
  exact q

theorem rows_step {w w1 : World} {N k : Nat} {R : List (List ByteArray)} {v : Value} (hk : k < R.length) (hN : N < w.heap.size) (hB : Below w.heap.size w w1)
    (h1 : ∀ i (h : i < R.length), ∃ v, w.cell? ⟨N, i, none⟩ = some v ∧ (i < k → SliceIn w (N + 1) v R[i])) (hv : SliceIn w1 w.heap.size v R[k]) :
    ∀ i (h : i < R.length), ∃ x, (w1.setCell ⟨N, k, none⟩ v).cell? ⟨N, i, none⟩ = some x ∧ (i < k + 1 → SliceIn (w1.setCell ⟨N, k, none⟩ v) (N + 1) x R[i]) := by
  intro i hi
  obtain ⟨x, hx, h2⟩ := h1 i hi
  have hx' : w1.cell? ⟨N, i, none⟩ = some x := by rw [hB.cell (p := ⟨N, i, none⟩) hN]; exact hx
  by_cases e : i = k
  · subst e
    exact ⟨v, World.cell?_setCell_same _ _ _ hx', fun _ => (hv.mono (by omega)).setCell (by show N < N + 1; omega) _⟩
  · refine ⟨x, ?_, fun h => ((h2 (by omega)).below hB).setCell (by show N < N + 1; omega) _⟩
    rw [World.cell?_setCell_other (a := ⟨N, k, none⟩) (b := ⟨N, i, none⟩) _ _ (by intro h; injection h with _ h2 _; exact e h2.symm)]
    exact hx'

/-- a script whose rows all lie below lim -/
def ScriptLt (w : World) (ao : Option Addr) (R : List (List ByteArray)) (lim : Nat) : Prop :=
  ∀ i (h : i < R.length), ∃ a bo c, ao = some a ∧ w.cell? (a.add i) = some (.slice bo R[i].length c) ∧ Strs w bo R[i] ∧ ∀ b, bo = some b → b.block < lim
theorem ScriptLt.at {w w' : World} {ao : Option Addr} {R : List (List ByteArray)} (h : ScriptLt w ao R w.heap.size) (hB : Below w.heap.size w w') (i : Nat) (hi : i < R.length) :
    ∃ a bo c, ao = some a ∧ w'.cell? (a.add i) = some (.slice bo R[i].length c) ∧ Strs w' bo R[i] ∧ (∀ b, bo = some b → b.block < w.heap.size) ∧ a.block < w.heap.size := by
  obtain ⟨a, bo, c, e, q, hS, hb⟩ := h i hi
  refine ⟨a, bo, c, e, ?_, hS.below hB, hb, lt_of_cell' q⟩
  rw [hB.cell (by rw [add_block]; exact lt_of_cell' q)]
  exact q

set_option maxHeartbeats 800000 in
theorem clone37 (w : World) (ao : Option Addr) (n c : Nat) (R : List (List ByteArray)) (h : Script w ao R) (hS : Small R) (hl : R.length = n) :
    Calls Try.prog 37 #[.slice ao n c] w fun e w' => ∃ v, e = .returned v ∧ (∃ ao' c', v = .slice ao' n c' ∧ ScriptLt w' ao' R w'.heap.size) ∧ Below w.heap.size w w' := by
  obtain ⟨i, hi, hz, hs, hb⟩ := info_parts info56
  obtain ⟨hn, hSm⟩ := hS
  rw [hl] at hn
  rcases ao with _ | a
  · have h0 : R = [] := by
      cases R with
      | nil => rfl
      | cons x t =>
        obtain ⟨a, _, _, e, _⟩ := h 0 (by simp)
        cases e
    subst h0
    have hnil := nil49_none n c
    have H0 : Hid (0 = n) := hl
    clear h hl hSm
    go_enter Try.func37, Try.ntmps37
    go_wp2
    go_ret
    exact ⟨_, rfl, ⟨none, 0, by rw [← H0.out]; rfl, fun i hi => absurd hi (by simp)⟩, Below.refl _ _⟩
  · have hnil := nil49_some a n c
    have HH : Aside (Script w (some a) R) := h
    have HM : Aside (∀ i (h : i < R.length), SmallL R[i]) := hSm
    have L : Hid (R.length = n) := hl
    clear h hl hSm
    go_enter Try.func37, Try.ntmps37
    go_wp2_with (at_make; refine wpList_make_full _ rfl _ _ _ rfl w.heap.size 56 i _ 1 Try.underlying49 hi hz hs _ _ _ _ n rfl rfl rfl rfl (by rw [hb]; omega) (by unfold maxLen; omega) (Nat.le_refl _) ?_; intro w1 hown hgrow)
    have hB1 : Below w.heap.size w w1 := (Below.refl _ _).grown hgrow (Nat.le_refl _) (by intro k hk; cases hk)
    have hst : Aside (∀ i (h : i < R.length), ∃ v, w1.cell? ⟨w.heap.size, i, none⟩ = some v ∧ (i < 0 → SliceIn w1 (w.heap.size + 1) v R[i])) := by
      intro j hj
      rw [L.out] at hj
      have e : (madeCells (Value.slice none 0 0).cells (n * 1)).toList = List.replicate n (.slice none 0 0) := by rw [Nat.mul_one]; exact toList_madeCells_one _ _
      rw [hown.cellAt j (by omega), e, List.getElem?_replicate, if_pos hj]
      exact ⟨_, rfl, fun h => by omega⟩
    have hfr : ∀ j, w1.frozen? ⟨w.heap.size, j, none⟩ = false := fun j => hown.frozenAt j
    have hsz : w.heap.size < w1.heap.size := (hown.lt _ rfl).2
    clear hown hgrow
    go_loopg [4] n (fun g iv wr => ∃ k : Nat, k + g = n ∧ iv = .int .i64 k ∧ Below w.heap.size w wr ∧ (∀ i (h : i < R.length), ∃ v, wr.cell? ⟨w.heap.size, i, none⟩ = some v ∧ (i < k → SliceIn wr (w.heap.size + 1) v R[i])) ∧ (∀ j, wr.frozen? ⟨w.heap.size, j, none⟩ = false) ∧ w.heap.size < wr.heap.size)
    case atStart => exact ⟨0, by omega, rfl, hB1, hst.out, hfr, hsz⟩
    case round =>
      obtain ⟨k, hk, rfl, hB, hcs, hfz, hsz⟩ := hrel
      by_cases hlt : k < n
      · have hkb : k < R.length := by rw [L.out]; exact hlt
        obtain ⟨v0, hv0, _⟩ := hcs k hkb
        obtain ⟨a', bo, cc, e, q, hSk⟩ := HH.out k hkb
        cases e
        have hsrc : wr.cell? (a.add k) = some (.slice bo R[k].length cc) := by rw [hB.cell (by rw [add_block]; exact lt_of_cell' q)]; exact q
        have HSk : Aside (Strs wr bo R[k]) := hSk.below hB
        have hfk := hfz k
        have A : Aside (∀ (w1 : World) (v : Value), Below wr.heap.size wr w1 → SliceIn w1 wr.heap.size v R[k] → ∀ i (h : i < R.length), ∃ x, (w1.setCell ⟨w.heap.size, k, none⟩ v).cell? ⟨w.heap.size, i, none⟩ = some x ∧ (i < k + 1 → SliceIn (w1.setCell ⟨w.heap.size, k, none⟩ v) (w.heap.size + 1) x R[i])) :=
          fun w1 v hB' hv => rows_step hkb hsz hB' hcs hv
        have hM := (HM.out k hkb).1
        clear hcs q hSk
        generalize hs : R[k] = r at hsrc A HSk hM
        clear hs
        obtain ⟨nk, hnk⟩ : ∃ nk, nk = r.length := ⟨_, rfl⟩
        rw [← hnk] at hsrc hM
        have LK : Hid (r.length = nk) := hnk.symm
        clear hnk
        have K := clone50 wr bo nk cc r HSk.out LK.out hM
        go_wp2_with (go_at_call 50; refine K.mono ?_; rintro e w2 ⟨v, rfl, hv, hB2⟩; obtain ⟨bo', c', rfl, hS', hb'⟩ := hv; have hv : Aside (SliceIn w2 wr.heap.size (.slice bo' r.length c') r) := ⟨bo', c', rfl, hS', hb'⟩; clear hS' hb'; have hc2 := (hB2.cell (p := ⟨w.heap.size, k, none⟩) hsz).trans hv0; have hf2 := (hB2.frozen (p := ⟨w.heap.size, k, none⟩) hsz).trans hfk)
        go_roundg (gk - 1)
        case measure => omega
        case rel =>
          refine ⟨k + 1, by omega, by go_num, ?_, A.out w2 _ hB2 hv.out, ?_, ?_⟩
          · exact (hB.trans (hB2.mono (Nat.le_of_lt hsz))).setCell (Nat.le_refl _) _
          · intro j
            rw [World.frozen?_setCell, hB2.frozen (p := ⟨w.heap.size, j, none⟩) hsz]
            exact hfz j
          · have := hB2.size
            simp
            omega
      · have A : Aside (ScriptLt wr (some ⟨w.heap.size, 0, none⟩) R wr.heap.size) := by
          intro i hi
          obtain ⟨v, hv, h2⟩ := hcs i hi
          have := L.out
          obtain ⟨bo, c', e, hS, hb⟩ := h2 (by omega)
          subst e
          refine ⟨_, bo, c', rfl, ?_, hS, fun b e => (hb b e).2⟩
          rw [add_new, hv]
        clear hcs
        go_wp2
        go_ret
        exact ⟨_, rfl, ⟨_, _, rfl, A.out⟩, hB⟩
end Go.Proofs.Qxb6003361a
