import Derived.Test.Qxb6003361aTok
import Derived.RegionTactic
import Derived.Deep.QuietTactic
import Derived.BigQuiet
namespace Go.Proofs.Qxb6003361a
open Go.RowKit

/-- a row of bytes in memory -/
def Bytes (w : World) (b off : Nat) (bs : List UInt8) : Prop := ∀ i (h : i < bs.length), w.cell? ⟨b, off + i, none⟩ = some (.int .u8 (bs[i].toNat : Int))
theorem Bytes.below {w w' : World} {B b off : Nat} {bs : List UInt8} (h : Bytes w b off bs) (hB : Below B w w') (hb : b < B) : Bytes w' b off bs := by
  intro i hi
  rw [hB.cell (p := ⟨b, off + i, none⟩) hb]
  exact h i hi
theorem Bytes.bc {w : World} {b off : Nat} {bs : List UInt8} (h : Bytes w b off bs) : ∀ j u, (Qxb6003361a.bc bs)[j]? = some u → w.cell? ⟨b, off + j, none⟩ = some u := by
  intro j u hu
  obtain ⟨hj, e⟩ := List.getElem?_eq_some_iff.1 hu
  rw [bc_len] at hj
  have e2 : (Qxb6003361a.bc bs)[j]'(by rw [bc_len]; exact hj) = .int .u8 (bs[j].toNat : Int) := by
    unfold Qxb6003361a.bc
    rw [List.getElem_map]
  rw [h j hj, ← e, e2]

theorem eq_nil_some (x : Addr) (n cap : Nat) (w : World) : (binOp .eql 22 (.slice (some x) n cap) (.slice none 0 0)).run Try.prog w = .ok (.bool false) w := by
  have h := run_equal_slice_nil (P := Try.prog) w 22 _ (some x) n cap Try.underlying22
  simp [binOp, h]
theorem eq_nil_none (w : World) : (binOp .eql 22 (.slice none 0 0) (.slice none 0 0)).run Try.prog w = .ok (.bool true) w := by
  have h := run_equal_slice_nil (P := Try.prog) w 22 _ none 0 0 Try.underlying22
  simp [binOp, h]

theorem row_store {w : World} {N k : Nat} {bs : List UInt8} (hk : k < bs.length) (h1 : ∀ i (h : i < bs.length), ∃ v, w.cell? ⟨N, i, none⟩ = some v ∧ (i < k → v = .int .u8 (bs[i].toNat : Int))) :
    ∀ i (h : i < bs.length), ∃ v, (w.setCell ⟨N, k, none⟩ (.int .u8 (bs[k].toNat : Int))).cell? ⟨N, i, none⟩ = some v ∧ (i < k + 1 → v = .int .u8 (bs[i].toNat : Int)) := by
  intro i hi
  by_cases e : i = k
  · subst e
    obtain ⟨v, hv, _⟩ := h1 i hi
    exact ⟨_, World.cell?_setCell_same _ _ _ hv, fun _ => rfl⟩
  · obtain ⟨v, hv, h2⟩ := h1 i hi
    refine ⟨v, ?_, fun h => h2 (by omega)⟩
    rw [World.cell?_setCell_other (a := ⟨N, k, none⟩) (b := ⟨N, i, none⟩) _ _ (by intro h; injection h with _ h2 _; exact e h2.symm)]
    exact hv

theorem clone_nil (w : World) : Calls Try.prog 15 #[.slice none 0 0] w fun e w' => e = .returned (.slice none 0 0) ∧ w' = w := by
  have hnil := eq_nil_none
  go_enter Try.func15, Try.ntmps15
  go_wp2
  go_ret
  exact ⟨rfl, rfl⟩

set_option maxHeartbeats 400000 in
theorem clone_zero (x : Addr) (cap : Nat) (w : World) :
    Calls Try.prog 15 #[.slice (some x) 0 cap] w fun e w' => e = .returned (.slice (some ⟨w.heap.size, 0, none⟩) 0 0) ∧ Below w.heap.size w w' := by
  obtain ⟨i, hi, hz, hs, hb⟩ := info_parts info5
  have hnil := eq_nil_some x 0 cap
  go_enter Try.func15, Try.ntmps15
  go_wp2_with (at_make; refine wpList_make_full _ rfl _ _ _ rfl w.heap.size 5 i _ 1 Try.underlying22 hi hz hs _ _ _ _ 0 rfl rfl rfl rfl (by omega) (by unfold maxLen; omega) (Nat.le_refl _) ?_; intro w1 hown hgrow)
  have hB1 : Below w.heap.size w w1 := (Below.refl _ _).grown hgrow (Nat.le_refl _) (by intro k hk; cases hk)
  clear hown hgrow
  go_wp2
  refine wp_loop_rounds 1 ?_
  rw [rounds_succ]
  go_wp2
  go_ret
  exact ⟨rfl, hB1⟩

set_option maxHeartbeats 400000 in
theorem clone_any (b off n cap : Nat) (bs : List UInt8) (w : World) (hn : n ≤ 1048576) (h0 : 0 < n) (hbs : bs.length = n) (hc : Bytes w b off bs) :
    Calls Try.prog 15 #[.slice (some ⟨b, off, none⟩) n cap] w fun e w' => e = .returned (.slice (some ⟨w.heap.size, 0, none⟩) n n) ∧ Below w.heap.size w w' ∧ Bytes w' w.heap.size 0 bs := by
  obtain ⟨i, hi, hz, hs, hb⟩ := info_parts info5
  have hbl : b < w.heap.size := lt_of_cell (hc 0 (by omega))
  have hnil := eq_nil_some ⟨b, off, none⟩ n cap
  have HB : Hid (bs.length = n) := hbs
  clear hbs
  go_enter Try.func15, Try.ntmps15
  go_wp2_with (at_make; refine wpList_make_full _ rfl _ _ _ rfl w.heap.size 5 i _ 1 Try.underlying22 hi hz hs _ _ _ _ n rfl rfl rfl rfl (by rw [hb]; omega) (by unfold maxLen; omega) (Nat.le_refl _) ?_; intro w1 hown hgrow)
  have hB1 : Below w.heap.size w w1 := (Below.refl _ _).grown hgrow (Nat.le_refl _) (by intro k hk; cases hk)
  have hst : Aside (∀ i (h : i < bs.length), ∃ v, w1.cell? ⟨w.heap.size, i, none⟩ = some v ∧ (i < 0 → v = .int .u8 (bs[i].toNat : Int))) := by
    intro j hj
    rw [HB.out] at hj
    have e : (madeCells (Value.int .u8 0).cells (n * 1)).toList = List.replicate n (.int .u8 0) := by rw [Nat.mul_one]; exact toList_madeCells_one _ _
    rw [hown.cellAt j (by omega), e, List.getElem?_replicate, if_pos hj]
    exact ⟨_, rfl, fun h => by omega⟩
  have hfr : ∀ j, w1.frozen? ⟨w.heap.size, j, none⟩ = false := fun j => hown.frozenAt j
  clear hown hgrow
  go_loopg [4] n (fun g iv wr => ∃ k : Nat, k + g = n ∧ iv = .int .i64 k ∧ Below w.heap.size w wr ∧ (∀ i (h : i < bs.length), ∃ v, wr.cell? ⟨w.heap.size, i, none⟩ = some v ∧ (i < k → v = .int .u8 (bs[i].toNat : Int))) ∧ (∀ j, wr.frozen? ⟨w.heap.size, j, none⟩ = false))
  case atStart => exact ⟨0, by omega, rfl, hB1, hst.out, hfr⟩
  case round =>
    obtain ⟨k, hk, rfl, hB, hcs, hfz⟩ := hrel
    by_cases hlt : k < n
    · have hkb : k < bs.length := by rw [HB.out]; exact hlt
      obtain ⟨v, hv, _⟩ := hcs k hkb
      have hsrc : wr.cell? ⟨b, off + k, none⟩ = some (.int .u8 (bs[k].toNat : Int)) := by rw [hB.cell (p := ⟨b, off + k, none⟩) hbl]; exact hc k hkb
      have hfk := hfz k
      have A : Aside (∀ i (h : i < bs.length), ∃ v, (wr.setCell ⟨w.heap.size, k, none⟩ (.int .u8 (bs[k].toNat : Int))).cell? ⟨w.heap.size, i, none⟩ = some v ∧ (i < k + 1 → v = .int .u8 (bs[i].toNat : Int))) := row_store hkb hcs
      clear hcs
      go_wp2
      go_roundg (gk - 1)
      case measure => omega
      case rel => exact ⟨k + 1, by omega, by go_num, hB.setCell (Nat.le_refl _) _, A.out, fun j => by rw [World.frozen?_setCell]; exact hfz j⟩
    · have A : Aside (Bytes wr w.heap.size 0 bs) := by
        intro i hi
        obtain ⟨v, hv, h2⟩ := hcs i hi
        have := HB.out
        rw [Nat.zero_add, hv, h2 (by omega)]
      clear hcs
      go_wp2
      go_ret
      exact ⟨rfl, hB, A.out⟩

theorem bytes24 (a : Option Addr) (n cap : Nat) (s : ByteArray) (w : World) (hn : n ≤ 9223372036854775807) (hs : s.size ≤ 9223372036854775807) :
    Calls Try.prog 24 #[.slice a n cap, .string s] w fun e w' => e = .returned (.bool (decide (n + s.size ≤ 1048576))) ∧ w' = w := by
  by_cases h1 : n ≤ 1048576
  · by_cases h2 : s.size ≤ 1048576
    · by_cases h3 : n + s.size ≤ 1048576
      · have e : decide (n + s.size ≤ 1048576) = true := decide_eq_true h3
        rw [e]; clear e
        go_enter Try.func24, Try.ntmps24
        go_wp2
        go_ret
        exact ⟨rfl, rfl⟩
      · have e : decide (n + s.size ≤ 1048576) = false := decide_eq_false h3
        rw [e]; clear e
        go_enter Try.func24, Try.ntmps24
        go_wp2
        go_ret
        exact ⟨rfl, rfl⟩
    · have e : decide (n + s.size ≤ 1048576) = false := decide_eq_false (by omega)
      rw [e]; clear e
      go_enter Try.func24, Try.ntmps24
      go_wp2
      go_ret
      exact ⟨rfl, rfl⟩
  · have e : decide (n + s.size ≤ 1048576) = false := decide_eq_false (by omega)
    rw [e]; clear e
    go_enter Try.func24, Try.ntmps24
    go_wp2
    go_ret
    exact ⟨rfl, rfl⟩

theorem member25 (ao : Option Addr) (n : Nat) (olds : List UInt8) (s : ByteArray) (w : World) (hn : n ≤ 524288) (hs : s.size ≤ 524288) (hnone : ao = none → n = 0) (hlo : olds.length = n)
    (holds : ∀ b, ao = some b → ∀ j u, (bc olds)[j]? = some u → w.cell? (b.add j) = some u) (hin : ∀ b, ao = some b → 0 < n → b.block < w.heap.size) :
    Calls Try.prog 25 #[.slice ao n n, .string s] w fun e w' => ∃ v, e = .returned v ∧ w'.ownsRow (w.heap.size + 1) 5 1 v (n + 1 + (esc s.data.toList).length) (bc (joined olds (esc s.data.toList))) ∧ Below w.heap.size w w' := by
  have hm := member_any ao n olds s w hn hs hnone hlo holds hin
  clear holds hin
  go_enter Try.func25, Try.ntmps25
  go_wp2_with (go_at_call 47; refine hm.mono ?_; rintro e w' ⟨v, rfl, h1, h2⟩)
  go_ret
  exact ⟨_, rfl, h1, h2⟩
end Go.Proofs.Qxb6003361a
