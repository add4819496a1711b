import Derived.Test.Qxb6003361aApp
namespace Go.Proofs.Qxb6003361a
open Go.RowKit

theorem esc_append (a b : List UInt8) : esc (a ++ b) = esc a ++ esc b := by unfold esc; simp
theorem esc_split (s : ByteArray) (k : Nat) (h : k < s.size) : esc s.data.toList = esc (s.data.toList.take k) ++ (escB s[k] ++ esc (s.data.toList.drop (k + 1))) := by
  have e : s.data.toList = s.data.toList.take k ++ ([s[k]] ++ s.data.toList.drop (k + 1)) := by
    have h1 := take_snoc s k h
    have h2 := List.take_append_drop (k + 1) s.data.toList
    rw [h1, List.append_assoc] at h2
    exact h2.symm
  conv => lhs; rw [e]
  rw [esc_append, esc_append]
  congr 2
  unfold esc
  simp
theorem esc_at (s : ByteArray) (k j : Nat) (h : k < s.size) (c : UInt8) (hj : (escB s[k])[j]? = some c) : (bc (esc s.data.toList))[(esc (s.data.toList.take k)).length + j]? = some (.int .u8 (c.toNat : Int)) := by
  rw [esc_split s k h]
  unfold bc
  rw [List.getElem?_map, List.getElem?_append_right (by omega)]
  have hjl : j < (escB s[k]).length := (List.getElem?_eq_some_iff.1 hj).1
  rw [show (esc (s.data.toList.take k)).length + j - (esc (s.data.toList.take k)).length = j by omega, List.getElem?_append_left hjl, hj]
  rfl
theorem esc_fits (s : ByteArray) (k : Nat) (h : k < s.size) : (esc (s.data.toList.take k)).length + (escB s[k]).length ≤ (esc s.data.toList).length := by
  rw [esc_split s k h]
  simp

set_option maxHeartbeats 400000 in
theorem token_empty (x : Addr) (cap : Nat) (w : World) :
    Calls Try.prog 26 #[.slice (some x) 0 cap] w fun e w' => e = .returned (.tuple #[.string ⟨#[]⟩, .bool true]) ∧ Below w.heap.size w w' := by
  obtain ⟨i, hi, hz, hsz, hb⟩ := info_parts info5
  go_enter Try.func26, Try.ntmps26
  go_wp2_with (at_make; refine wpList_make_own _ rfl _ _ _ rfl w.heap.size 5 i _ 1 Try.underlying22 hi hz hsz _ _ _ 0 rfl rfl rfl (by omega) (by unfold maxLen; omega) (Nat.le_refl _) ?_; intro w1 hown hgrow)
  have hB1 : Below w.heap.size w w1 := (Below.refl _ _).grown hgrow (Nat.le_refl _) (by intro k hk; cases hk)
  have hcv : (convert 22 9 (.slice (some ⟨w.heap.size, 0, none⟩) 0 0)).run Try.prog w1 = .ok (.string ⟨#[]⟩) w1 :=
    run_convert_bytes_back (P := Try.prog) w1 22 9 5 ⟨w.heap.size, 0, none⟩ 0 [] Try.underlying22 Try.underlying5 Try.underlying9 (fun j hj => by simp at hj)
  clear hown hgrow
  go_wp2
  refine wp_loop_rounds 1 ?_
  rw [rounds_succ]
  go_wp2
  go_ret2
  exact ⟨rfl, hB1⟩

set_option maxHeartbeats 800000 in
theorem token_any (b off cap : Nat) (s : ByteArray) (w : World) (hs0 : 0 < s.size) (hs : s.size ≤ 524288)
    (hcell : ∀ j u, (bc (esc s.data.toList))[j]? = some u → w.cell? ⟨b, off + j, none⟩ = some u) :
    Calls Try.prog 26 #[.slice (some ⟨b, off, none⟩) (esc s.data.toList).length cap] w fun e w' => e = .returned (.tuple #[.string s, .bool true]) ∧ Below w.heap.size w w' := by
  obtain ⟨i, hi, hz, hsz, hb⟩ := info_parts info5
  have hel := esc_len s.data.toList
  have hlen : s.data.toList.length = s.size := by simp
  rw [hlen] at hel
  have hbl : b < w.heap.size := by
    have h0 := esc_at s 0 0 hs0
    have h1 := (escB_len s[0]).1
    have h2 := h0 ((escB s[0])[0]) (by rw [List.getElem?_eq_getElem])
    have := hcell _ _ h2
    exact lt_of_cell this
  obtain ⟨L, hL⟩ : ∃ L, L = (esc s.data.toList).length := ⟨_, rfl⟩
  have hL1 : L ≤ 1048576 := by omega
  have hL2 : 1 ≤ L := by omega
  rw [← hL]
  have HL : Hid (L = (esc s.data.toList).length) := hL
  clear hL hel hlen
  go_enter Try.func26, Try.ntmps26
  go_wp2_with (at_make; refine wpList_make_own _ rfl _ _ _ rfl w.heap.size 5 i _ 1 Try.underlying22 hi hz hsz _ _ _ L rfl rfl rfl (by rw [hb]; omega) (by unfold maxLen; omega) (Nat.le_refl _) ?_; intro w1 hown hgrow)
  have hB1 : Below w.heap.size w w1 := (Below.refl _ _).grown hgrow (Nat.le_refl _) (by intro k hk; cases hk)
  have hs1 : w.heap.size ≤ w1.heap.size := hgrow.size
  clear hgrow
  go_wp2
  go_loopg [4, 5] s.size (fun g pv iv wr => ∃ k I : Nat, k + g = s.size ∧ Hid (I = (esc (s.data.toList.take k)).length) ∧ iv = .int .i64 I ∧ wr.ownsRow w.heap.size 5 1 pv k (bc (s.data.toList.take k)) ∧ Below w.heap.size w wr)
  case atStart => exact ⟨0, 0, by omega, by simp [Hid, esc], rfl, by simpa [bc] using hown, hB1⟩
  case round =>
    obtain ⟨k, I, hk, HI, rfl, hown2, hB⟩ := hrel
    clear hown hB1 hs1
    by_cases hlt : k < s.size
    · have hfit := esc_fits s k hlt
      rw [← HI.out, ← HL.out] at hfit
      have hat := fun j c h => esc_at s k j hlt c h
      rw [← HI.out] at hat
      have hread : ∀ j c, (escB s[k])[j]? = some c → wr.cell? ⟨b, off + (I + j), none⟩ = some (.int .u8 (c.toNat : Int)) := fun j c h => by
        rw [hB.cell (p := ⟨b, off + (I + j), none⟩) hbl]; exact hcell _ _ (hat j c h)
      have E : Aside ((esc (s.data.toList.take (k + 1))).length = I + (escB s[k]).length) := by
        show _ = _
        rw [take_snoc s k hlt, esc_snoc, List.length_append, ← HI.out]
      have hsn : Aside (bc (s.data.toList.take (k + 1)) = bc (s.data.toList.take k) ++ bc [s[k]]) := by
        show _ = _
        rw [take_snoc s k hlt, bc_append]
      clear hat
      have hszw : w.heap.size ≤ wr.heap.size := hB.size
      by_cases h126 : s[k] = 126
      · have eb : escB s[k] = [126, 48] := by unfold escB; rw [if_pos h126]
        have r0 := hread 0 126 (by rw [eb]; rfl)
        have r1 := hread 1 48 (by rw [eb]; rfl)
        rw [Nat.add_zero] at r0
        rw [eb] at hfit
        have hfit2 : I + 2 ≤ L := hfit
        have EL : Aside ((escB s[k]).length = 2) := by show _ = _; rw [eb]; rfl
        have SK : Aside (s[k] = 126) := h126
        have q1 : ((I : Int) + 1 == (L : Int)) = false := by simp; omega
        clear hread eb hfit h126
        go_wp2_with (at_builtin; refine wpList_append_own _ rfl _ _ _ rfl w.heap.size 5 i _ 1 1 Try.underlying22 hi hz hsz hb rfl (by decide) _ _ _ rfl (hown2.alloc _) ⟨wr.heap.size, 0, none⟩ 1 1 (bc [126]) rfl rfl ?a0 (bc_one _) ?a1 ?a2 ?a4 ?a3)
        case a0 =>
          intro j u hu
          have hj : j = 0 := by
            have := (List.getElem?_eq_some_iff.1 hu).1
            rw [bc_len] at this; simp at this; exact this
          subst hj
          rw [Lib.add_plain, World.cell?_alloc_new]
          exact hu
        case a1 => unfold maxLen; omega
        case a2 => omega
        case a4 => simp; omega
        case a3 =>
          intro v' w2 hown3 hgrow2 _
          have hrow : ∀ b, Value.ownBlock u4 = some b → w.heap.size ≤ b := fun b hb' => (hown2.lt b hb').1
          have hB2 := (hB.alloc (by omega) _).grown hgrow2 (by simp; omega) hrow
          have hown4 : w2.ownsRow w.heap.size 5 1 v' (k + 1) (bc (s.data.toList.take (k + 1))) := by
            rw [hsn.out, SK.out]
            exact hown3
          clear hown2 hown3 hgrow2 hB
          go_wp2
          go_roundg (gk - 1)
          case measure => omega
          case rel => exact ⟨k + 1, I + 2, by omega, by show _ = _; rw [E.out, EL.out], by go_num, hown4, hB2⟩
      · by_cases h47 : s[k] = 47
        · have eb : escB s[k] = [126, 49] := by unfold escB; rw [if_neg h126, if_pos h47]
          have r0 := hread 0 126 (by rw [eb]; rfl)
          have r1 := hread 1 49 (by rw [eb]; rfl)
          rw [Nat.add_zero] at r0
          rw [eb] at hfit
          have hfit2 : I + 2 ≤ L := hfit
          have EL : Aside ((escB s[k]).length = 2) := by show _ = _; rw [eb]; rfl
          have SK : Aside (s[k] = 47) := h47
          have q1 : ((I : Int) + 1 == (L : Int)) = false := by simp; omega
          clear hread eb hfit h126 h47
          go_wp2_with (at_builtin; refine wpList_append_own _ rfl _ _ _ rfl w.heap.size 5 i _ 1 1 Try.underlying22 hi hz hsz hb rfl (by decide) _ _ _ rfl (hown2.alloc _) ⟨wr.heap.size, 0, none⟩ 1 1 (bc [47]) rfl rfl ?c0 (bc_one _) ?c1 ?c2 ?c4 ?c3)
          case c0 =>
            intro j u hu
            have hj : j = 0 := by
              have := (List.getElem?_eq_some_iff.1 hu).1
              rw [bc_len] at this; simp at this; exact this
            subst hj
            rw [Lib.add_plain, World.cell?_alloc_new]
            exact hu
          case c1 => unfold maxLen; omega
          case c2 => omega
          case c4 => simp; omega
          case c3 =>
            intro v' w2 hown3 hgrow2 _
            have hrow : ∀ b, Value.ownBlock u4 = some b → w.heap.size ≤ b := fun b hb' => (hown2.lt b hb').1
            have hB2 := (hB.alloc (by omega) _).grown hgrow2 (by simp; omega) hrow
            have hown4 : w2.ownsRow w.heap.size 5 1 v' (k + 1) (bc (s.data.toList.take (k + 1))) := by
              rw [hsn.out, SK.out]
              exact hown3
            clear hown2 hown3 hgrow2 hB
            go_wp2
            go_roundg (gk - 1)
            case measure => omega
            case rel => exact ⟨k + 1, I + 2, by omega, by show _ = _; rw [E.out, EL.out], by go_num, hown4, hB2⟩
        · have eb : escB s[k] = [s[k]] := by unfold escB; rw [if_neg h126, if_neg h47]
          have r0 := hread 0 s[k] (by rw [eb]; rfl)
          rw [Nat.add_zero] at r0
          rw [eb] at hfit
          have hfit2 : I + 1 ≤ L := hfit
          have EL : Aside ((escB s[k]).length = 1) := by show _ = _; rw [eb]; rfl
          have t1 : ((s[k].toNat : Int) == 126) = false := u8_ne h126 rfl
          have t2 : ((s[k].toNat : Int) == 47) = false := u8_ne h47 rfl
          clear hread eb hfit h126 h47
          go_wp2_with (at_builtin; refine wpList_append_own _ rfl _ _ _ rfl w.heap.size 5 i _ 1 1 Try.underlying22 hi hz hsz hb rfl (by decide) _ _ _ rfl (hown2.alloc _) ⟨wr.heap.size, 0, none⟩ 1 1 (bc [s[k]]) rfl rfl ?d0 (bc_one _) ?d1 ?d2 ?d4 ?d3)
          case d0 =>
            intro j u hu
            have hj : j = 0 := by
              have := (List.getElem?_eq_some_iff.1 hu).1
              rw [bc_len] at this; simp at this; exact this
            subst hj
            rw [Lib.add_plain, World.cell?_alloc_new]
            exact hu
          case d1 => unfold maxLen; omega
          case d2 => omega
          case d4 => simp; omega
          case d3 =>
            intro v' w2 hown3 hgrow2 _
            have hrow : ∀ b, Value.ownBlock u4 = some b → w.heap.size ≤ b := fun b hb' => (hown2.lt b hb').1
            have hB2 := (hB.alloc (by omega) _).grown hgrow2 (by simp; omega) hrow
            have hown4 : w2.ownsRow w.heap.size 5 1 v' (k + 1) (bc (s.data.toList.take (k + 1))) := by
              rw [hsn.out]
              exact hown3
            clear hown2 hown3 hgrow2 hB
            go_wp2
            go_roundg (gk - 1)
            case measure => omega
            case rel => exact ⟨k + 1, I + 1, by omega, by show _ = _; rw [E.out, EL.out], by go_num, hown4, hB2⟩
    · have hks : k = s.size := by omega
      have hIL : I = L := by
        have h1 := HI.out
        rw [hks, List.take_of_length_le (by simp)] at h1
        rw [h1, HL.out]
      rw [hks, List.take_of_length_le (by simp)] at hown2
      subst hIL
      obtain ⟨_, h2⟩ := hown2
      rcases h2 with ⟨_, h0⟩ | ⟨g, cp, cur, hv, hg, hh, hcap, hmx, hcs, htk⟩
      · omega
      · subst hv
        have hown5 : wr.ownsRow w.heap.size 5 1 (.slice (some ⟨g, 0, none⟩) s.size cp) s.size (bc s.data.toList) := ⟨by simp [bc_len], .inr ⟨g, cp, cur, rfl, hg, hh, hcap, hmx, hcs, htk⟩⟩
        have hcv : (convert 22 9 (.slice (some ⟨g, 0, none⟩) s.size cp)).run Try.prog wr = .ok (.string s) wr := by
          have h := run_convert_bytes_back (P := Try.prog) wr 22 9 5 ⟨g, 0, none⟩ cp s.data.toList Try.underlying22 Try.underlying5 Try.underlying9 (fun j hj => by
            rw [Lib.add_plain, hown5.cellAt (0 + j) (by simp at hj ⊢; exact hj), Nat.zero_add]
            unfold bc
            rw [List.getElem?_map, List.getElem?_eq_getElem hj]
            rfl)
          have e1 : s.data.toList.length = s.size := by simp
          rw [e1] at h
          have e2 : (⟨s.data.toList.toArray⟩ : ByteArray) = s := by simp
          rw [e2] at h
          exact h
        clear hown5 hh htk
        go_wp2
        go_ret2
        exact ⟨rfl, hB⟩
end Go.Proofs.Qxb6003361a
