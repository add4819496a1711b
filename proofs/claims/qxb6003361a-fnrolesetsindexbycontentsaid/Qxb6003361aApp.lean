import Derived.Test.Qxb6003361aRows
import Derived.WalkKit
import Derived.WalkSpells
import Derived.WalkLawsBesides
import Derived.Deep.LoopGhost
import Derived.Lib.AppendStr
import Derived.Lib.ItoaMem
namespace Go.Proofs.Qxb6003361a
open Go.RowKit

theorem lt_of_cell {w : World} {b o : Nat} {v : Value} (h : w.cell? ⟨b, o, none⟩ = some v) : b < w.heap.size := by
  by_cases hb : b < w.heap.size
  · exact hb
  · exfalso
    have : w.heap[b]? = none := by simp; omega
    simp [World.cell?, this] at h

theorem info5 : (Try.prog.info? 5).map (fun i => (i.zero, i.size, i.bytes)) = some (some (.int .u8 0), 1, 1) := by kernel_rfl

/-- bytes as cells -/
def bc (l : List UInt8) : List Value := l.map fun b => Value.int .u8 (b.toNat : Int)
theorem bc_len (l : List UInt8) : (bc l).length = l.length := by unfold bc; simp
theorem bc_append (a b : List UInt8) : bc (a ++ b) = bc a ++ bc b := by unfold bc; simp
theorem bc_one (l : List UInt8) : ∀ u ∈ bc l, u.oneCell' = true := by
  intro u hu
  unfold bc at hu
  simp only [List.mem_map] at hu
  obtain ⟨b, _, rfl⟩ := hu
  rfl

/-! ### a JSON Pointer's escapes -/
def escB (c : UInt8) : List UInt8 := if c = 126 then [126, 48] else if c = 47 then [126, 49] else [c]
def esc (l : List UInt8) : List UInt8 := l.flatMap escB
theorem escB_len (c : UInt8) : 1 ≤ (escB c).length ∧ (escB c).length ≤ 2 := by
  unfold escB; split
  · simp
  · split <;> simp
theorem esc_snoc (l : List UInt8) (c : UInt8) : esc (l ++ [c]) = esc l ++ escB c := by unfold esc; simp
theorem esc_len (l : List UInt8) : l.length ≤ (esc l).length ∧ (esc l).length ≤ 2 * l.length := by
  induction l with
  | nil => simp [esc]
  | cons c l ih =>
    have := escB_len c
    have e : esc (c :: l) = escB c ++ esc l := by unfold esc; simp
    rw [e]
    simp
    omega
theorem take_snoc (s : ByteArray) (k : Nat) (h : k < s.size) : s.data.toList.take (k + 1) = s.data.toList.take k ++ [s[k]] := by
  rw [List.take_succ_eq_append_getElem (by simpa using h)]; rfl

theorem u8_ne {c d : UInt8} {z : Int} (h : c ≠ d) (hz : (d.toNat : Int) = z) : ((c.toNat : Int) == z) = false := by
  simp only [beq_eq_false_iff_ne]
  intro e
  apply h
  apply UInt8.toNat_inj.1
  omega
/-- a place, a slash, a token -/
def joined (olds e : List UInt8) : List UInt8 := olds ++ 47 :: e
theorem joined_append (olds a b : List UInt8) : joined olds (a ++ b) = joined olds a ++ b := by unfold joined; simp
theorem own_step {w : World} {B : Nat} {v : Value} {n : Nat} {olds e new : List UInt8} {m : Nat} {cs : List Value} (h : w.ownsRow B 5 1 v (n + 1 + e.length + m) (bc (joined olds e) ++ cs)) (hm : m = new.length := by rfl) (hc : cs = bc new := by rfl) :
    w.ownsRow B 5 1 v (n + 1 + (e ++ new).length) (bc (joined olds (e ++ new))) := by
  rw [joined_append, bc_append, List.length_append, ← hm, ← hc, ← Nat.add_assoc]
  exact h

set_option maxHeartbeats 400000 in
theorem member_any (ao : Option Addr) (n : Nat) (olds : List UInt8) (s : ByteArray) (w : World) (hn : n ≤ 524288) (hs : s.size ≤ 524288) (hnone : ao = none → n = 0) (hlo : olds.length = n)
    (holds : ∀ b, ao = some b → ∀ j u, (bc olds)[j]? = some u → w.cell? (b.add j) = some u) (hin : ∀ b, ao = some b → 0 < n → b.block < w.heap.size) :
    Calls Try.prog 47 #[.slice ao n n, .string s] w fun e w' => ∃ v, e = .returned v ∧ w'.ownsRow (w.heap.size + 1) 5 1 v (n + 1 + (esc s.data.toList).length) (bc (joined olds (esc s.data.toList))) ∧ Below w.heap.size w w' := by
  obtain ⟨i, hi, hz, hsz, hb⟩ := info_parts info5
  go_enter Try.func47, Try.ntmps47
  go_wp2_with (at_builtin; refine wpList_append_grows _ rfl _ _ _ rfl 5 i _ 1 1 Try.underlying22 hi hz hsz hb rfl (by decide) ao n n (bc olds) rfl (fun h => ⟨hnone h, hnone h⟩) ?hl ?h1 ⟨w.heap.size, 0, none⟩ 1 1 (bc [47]) rfl rfl ?h2 (bc_one _) (by omega) ?h4 ?h5 ?h3)
  case hl => rw [bc_len, hlo]; omega
  case h4 => unfold maxLen; omega
  case h5 => omega
  case h1 =>
    intro b hb' j u hu
    have hj : j < n := by
      have := (List.getElem?_eq_some_iff.1 hu).1
      rw [bc_len, hlo] at this; exact this
    rw [World.cell?_alloc_lt]
    · exact holds b hb' j u hu
    · have := hin b hb' (by omega)
      unfold Addr.add; split <;> simpa using this
  case h2 =>
    intro j u hu
    have hj : j = 0 := by
      have := (List.getElem?_eq_some_iff.1 hu).1
      rw [bc_len] at this; simp at this; exact this
    subst hj
    rw [Lib.add_plain, World.cell?_alloc_new]
    exact hu
  case h3 =>
    intro v w1 hown hgrow
    have hown1 : w1.ownsRow (w.heap.size + 1) 5 1 v (n + 1 + (esc (s.data.toList.take 0)).length) (bc (joined olds (esc (s.data.toList.take 0)))) := by
      have e1 : esc (s.data.toList.take 0) = [] := by simp [esc]
      rw [e1]
      unfold joined
      rw [bc_append]
      simpa using hown
    have hB1 : Below w.heap.size w w1 := ((Below.refl w.heap.size w).alloc (Nat.le_refl _) _).grown hgrow (by simp) (by intro k hk; cases hk)
    have hs1 : w.heap.size + 1 ≤ w1.heap.size := by have := hgrow.size; simpa using this
    clear hown hgrow holds hin hnone
    go_wp2
    go_loopg [0, 12] s.size (fun g pv iv wr => ∃ k : Nat, k + g = s.size ∧ iv = .int .i64 k ∧ wr.ownsRow (w.heap.size + 1) 5 1 pv (n + 1 + (esc (s.data.toList.take k)).length) (bc (joined olds (esc (s.data.toList.take k)))) ∧ Below w.heap.size w wr ∧ w.heap.size + 1 ≤ wr.heap.size)
    case atStart => exact ⟨0, by omega, rfl, hown1, hB1, hs1⟩
    case round =>
      obtain ⟨k, hk, rfl, hown, hB, hsize⟩ := hrel
      clear hown1 hB1 hs1
      by_cases hlt : k < s.size
      · have hts := take_snoc s k hlt
        have hel := esc_len (s.data.toList.take k)
        have htl : (s.data.toList.take k).length ≤ k := List.length_take_le _ _
        have E : Aside (esc (s.data.toList.take (k + 1)) = esc (s.data.toList.take k) ++ escB s[k]) := by
          show _ = _
          rw [hts, esc_snoc]
        clear hts
        obtain ⟨L, hL⟩ : ∃ L, L = (esc (s.data.toList.take k)).length := ⟨_, rfl⟩
        have hL2 : L ≤ 1048576 := by omega
        by_cases h126 : s[k] = 126
        · have hc : (s[k].toNat : Int) = 126 := by rw [h126]; rfl
          have EB : Aside (escB s[k] = [126, 48]) := by show _ = _; unfold escB; rw [if_pos h126]
          clear h126 hel htl
          go_wp2_with (at_builtin; refine Lib.wpList_append_own_string _ rfl _ _ _ _ rfl (w.heap.size + 1) 5 i Try.underlying22 Try.underlying9 hi hz hsz hb _ _ _ rfl hown ⟨#[126, 48]⟩ rfl ?a1 ?a2 hsize ?a3)
          case a1 => rw [← hL]; unfold maxLen; show n + 1 + L + 2 ≤ _; omega
          case a2 => rw [← hL]; show n + 1 + L + 2 ≤ _; omega
          case a3 =>
            intro v' w2 hown2 hgrow2 _
            have hrow : ∀ b, Value.ownBlock u0 = some b → w.heap.size ≤ b := fun b hb' => by have := (hown.lt b hb').1; omega
            have hB2 := hB.grown hgrow2 (by omega) hrow
            have hs2 : w.heap.size + 1 ≤ w2.heap.size := Nat.le_trans hsize hgrow2.size
            have hown3 : w2.ownsRow (w.heap.size + 1) 5 1 v' (n + 1 + (esc (s.data.toList.take (k + 1))).length) (bc (joined olds (esc (s.data.toList.take (k + 1))))) := by
              rw [E.out, EB.out]
              exact own_step hown2
            clear hown hown2 hgrow2 hB hsize
            go_wp2
            go_roundg (gk - 1)
            case measure => omega
            case rel => exact ⟨k + 1, by omega, by go_num, hown3, hB2, hs2⟩
        · by_cases h47 : s[k] = 47
          · have hc : (s[k].toNat : Int) = 47 := by rw [h47]; rfl
            have EB : Aside (escB s[k] = [126, 49]) := by show _ = _; unfold escB; rw [if_neg h126, if_pos h47]
            clear h126 h47 hel htl
            go_wp2_with (at_builtin; refine Lib.wpList_append_own_string _ rfl _ _ _ _ rfl (w.heap.size + 1) 5 i Try.underlying22 Try.underlying9 hi hz hsz hb _ _ _ rfl hown ⟨#[126, 49]⟩ rfl ?b1 ?b2 hsize ?b3)
            case b1 => rw [← hL]; unfold maxLen; show n + 1 + L + 2 ≤ _; omega
            case b2 => rw [← hL]; show n + 1 + L + 2 ≤ _; omega
            case b3 =>
              intro v' w2 hown2 hgrow2 _
              have hrow : ∀ b, Value.ownBlock u0 = some b → w.heap.size ≤ b := fun b hb' => by have := (hown.lt b hb').1; omega
              have hB2 := hB.grown hgrow2 (by omega) hrow
              have hs2 : w.heap.size + 1 ≤ w2.heap.size := Nat.le_trans hsize hgrow2.size
              have hown3 : w2.ownsRow (w.heap.size + 1) 5 1 v' (n + 1 + (esc (s.data.toList.take (k + 1))).length) (bc (joined olds (esc (s.data.toList.take (k + 1))))) := by
                rw [E.out, EB.out]
                exact own_step hown2
              clear hown hown2 hgrow2 hB hsize
              go_wp2
              go_roundg (gk - 1)
              case measure => omega
              case rel => exact ⟨k + 1, by omega, by go_num, hown3, hB2, hs2⟩
          · have t1 : ((s[k].toNat : Int) == 126) = false := u8_ne h126 rfl
            have t2 : ((s[k].toNat : Int) == 47) = false := u8_ne h47 rfl
            have EB : Aside (escB s[k] = [s[k]]) := by show _ = _; unfold escB; rw [if_neg h126, if_neg h47]
            clear h126 h47 hel htl
            go_wp2_with (at_builtin; refine wpList_append_own _ rfl _ _ _ rfl (w.heap.size + 1) 5 i _ 1 1 Try.underlying22 hi hz hsz hb rfl (by decide) _ _ _ rfl (hown.alloc _) ⟨wr.heap.size, 0, none⟩ 1 1 (bc [s[k]]) rfl rfl ?c0 (bc_one _) ?c1 ?c2 ?c4 ?c3)
            case c0 =>
              intro j u hu
              have hj : j = 0 := by
                have := (List.getElem?_eq_some_iff.1 hu).1
                rw [bc_len] at this; simp at this; exact this
              subst hj
              rw [Lib.add_plain, World.cell?_alloc_new]
              exact hu
            case c1 => rw [← hL]; unfold maxLen; omega
            case c2 => rw [← hL]; omega
            case c4 => simp; omega
            case c3 =>
              intro v' w2 hown2 hgrow2 _
              have hrow : ∀ b, Value.ownBlock u0 = some b → w.heap.size ≤ b := fun b hb' => by have := (hown.lt b hb').1; omega
              have hB2 := (hB.alloc (by omega) _).grown hgrow2 (by simp; omega) hrow
              have hs2 : w.heap.size + 1 ≤ w2.heap.size := by have := hgrow2.size; simp at this; omega
              have hown3 : w2.ownsRow (w.heap.size + 1) 5 1 v' (n + 1 + (esc (s.data.toList.take (k + 1))).length) (bc (joined olds (esc (s.data.toList.take (k + 1))))) := by
                rw [E.out, EB.out]
                exact own_step hown2
              clear hown hown2 hgrow2 hB hsize
              go_wp2
              go_roundg (gk - 1)
              case measure => omega
              case rel => exact ⟨k + 1, by omega, by go_num, hown3, hB2, hs2⟩
      · have hks : k = s.size := by omega
        have hown3 : wr.ownsRow (w.heap.size + 1) 5 1 u0 (n + 1 + (esc s.data.toList).length) (bc (joined olds (esc s.data.toList))) := by
          rw [hks, List.take_of_length_le (by simp)] at hown
          exact hown
        clear hown
        go_wp2
        go_ret
        exact ⟨_, rfl, hown3, hB⟩
end Go.Proofs.Qxb6003361a
