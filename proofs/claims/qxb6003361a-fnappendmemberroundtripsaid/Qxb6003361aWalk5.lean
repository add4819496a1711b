import Derived.Test.Qxb6003361aLaw5
namespace Go.Proofs.Qxb6003361a
open Go.RowKit

theorem Bytes.at {w : World} {b off : Nat} {bs : List UInt8} (h : Bytes w b off bs) {i : Nat} {c : UInt8} (hc : bs[i]? = some c) : w.cell? ⟨b, off + i, none⟩ = some (.int .u8 (c.toNat : Int)) := by
  obtain ⟨hi, e⟩ := List.getElem?_eq_some_iff.1 hc
  rw [h i hi, e]
theorem joined_left {olds e : List UInt8} {k : Nat} (h : k < olds.length) : (joined olds e)[k]? = some olds[k] := by
  unfold joined
  rw [List.getElem?_append_left h, List.getElem?_eq_getElem h]
theorem joined_mid (olds e : List UInt8) : (joined olds e)[olds.length]? = some 47 := by
  unfold joined
  rw [List.getElem?_append_right (Nat.le_refl _)]; simp
theorem joined_right (olds e : List UInt8) (j : Nat) : (joined olds e)[olds.length + 1 + j]? = e[j]? := by
  unfold joined
  rw [List.getElem?_append_right (by omega), show olds.length + 1 + j - olds.length = j + 1 by omega, List.getElem?_cons_succ]

theorem token_gen (x : Addr) (L c : Nat) (s : ByteArray) (w : World) (hL : L = (esc s.data.toList).length) (hs : s.size ≤ 524288)
    (hx : 0 < s.size → ∃ b off, x = ⟨b, off, none⟩ ∧ ∀ j u, (bc (esc s.data.toList))[j]? = some u → w.cell? ⟨b, off + j, none⟩ = some u) :
    Calls Try.prog 26 #[.slice (some x) L c] w fun e w' => e = .returned (.tuple #[.string s, .bool true]) ∧ Below w.heap.size w w' := by
  by_cases h0 : s.size = 0
  · have hl : s.data.toList = [] := by
      apply List.eq_nil_of_length_eq_zero
      have : s.data.toList.length = s.size := by simp
      omega
    have hse : s = ⟨#[]⟩ := by
      apply ByteArray.ext
      exact Array.toList_inj.1 hl
    have e : L = 0 := by rw [hL, hl]; rfl
    subst e
    rw [hse]
    exact token_empty x c w
  · obtain ⟨b, off, rfl, hc⟩ := hx (by omega)
    rw [hL]
    exact token_any b off c s w (by omega) hs hc

set_option maxHeartbeats 400000 in
theorem walk5_big (a : Option Addr) (n cap : Nat) (s : ByteArray) (w : World) (hn : n ≤ 9223372036854775807) (hs : s.size ≤ 9223372036854775807) (h : 1048576 < n + s.size ∨ 524288 < n ∨ 524288 < s.size) :
    Calls Try.prog 5 #[.slice a n cap, .string s] w fun e w' => e = .returned (.bool true) ∧ w' = w := by
  by_cases h1 : n + s.size ≤ 1048576
  · have e1 : decide (n + s.size ≤ 1048576) = true := decide_eq_true h1
    have hcl := bytes24 a n cap s w hn hs
    rw [e1] at hcl
    clear e1
    by_cases h2 : 524288 < n
    · go_enter Try.func5, Try.ntmps5
      go_wp2_with (go_at_call 24; refine hcl.mono ?_; rintro e w' ⟨rfl, hw⟩; have hw := hw.symm; subst hw)
      go_ret
      exact ⟨rfl, rfl⟩
    · have h3 : 524288 < s.size := by omega
      clear h
      go_enter Try.func5, Try.ntmps5
      go_wp2_with (go_at_call 24; refine hcl.mono ?_; rintro e w' ⟨rfl, hw⟩; have hw := hw.symm; subst hw)
      go_ret
      exact ⟨rfl, rfl⟩
  · have e1 : decide (n + s.size ≤ 1048576) = false := decide_eq_false h1
    have hcl := bytes24 a n cap s w hn hs
    rw [e1] at hcl
    clear e1 h
    go_enter Try.func5, Try.ntmps5
    go_wp2_with (go_at_call 24; refine hcl.mono ?_; rintro e w' ⟨rfl, hw⟩; have hw := hw.symm; subst hw)
    go_ret
    exact ⟨rfl, rfl⟩

set_option maxHeartbeats 800000 in
theorem walk5_main (a : Option Addr) (n cap : Nat) (olds : List UInt8) (s : ByteArray) (w : World) (hn : n ≤ 524288) (hs : s.size ≤ 524288) (h : Sr w a n cap olds) :
    Calls Try.prog 5 #[.slice a n cap, .string s] w fun e w' => e = .returned (.bool true) ∧ Below w.heap.size w w' := by
  have hcl := bytes24 a n cap s w (by omega) (by omega)
  rw [decide_eq_true (show n + s.size ≤ 1048576 by omega)] at hcl
  have hd1 : decide ((524288 : Int) < (n : Int)) = false := decide_eq_false (by omega)
  have hd2 : decide ((524288 : Int) < (s.size : Int)) = false := decide_eq_false (by omega)
  go_enter Try.func5, Try.ntmps5
  go_wp2_with (go_at_call 24; refine hcl.mono ?_; rintro e w' ⟨rfl, hw⟩; have hw := hw.symm; subst hw)
  refine (clone_gen a n cap olds w (by omega) h).mono ?_
  rintro e w1 ⟨a1, rfl, hB1, hC1⟩
  clear hcl h
  go_wp2_with fail
  refine (clone_gen a1 n n olds w1 (by omega) hC1.sr).mono ?_
  rintro e w2 ⟨a2, rfl, hB2, hC2⟩
  have hC1' := hC1.below hB2
  go_wp2_with fail
  refine (member_gen a1 n olds s w2 hn hs hC1').mono ?_
  rintro e w3 ⟨g, cp, rfl, hcap, hmx, hR, hB3⟩
  have hC3 := hC2.below hB3
  have hBf : Below w.heap.size w w3 := (hB1.trans (hB2.mono hB1.size)).trans (hB3.mono (Nat.le_trans hB1.size hB2.size))
  have hel := esc_len s.data.toList
  have hsl : s.data.toList.length = s.size := by simp
  rw [hsl] at hel
  obtain ⟨L, hL⟩ : ∃ L, L = (esc s.data.toList).length := ⟨_, rfl⟩
  rw [← hL] at hel hcap ⊢
  have HL : Hid (L = (esc s.data.toList).length) := hL
  have HR : Aside (Bytes w3 g 0 (joined olds (esc s.data.toList))) := hR
  have HC : Aside (Cl w3 a2 n olds) := hC3
  clear hL hR hC3 hC1 hC2 hC1' hB1 hB2 hB3 hsl
  unfold maxLen at hmx
  have hd3 : decide ((n : Int) + 1 + (L : Int) < (n : Int) + 1) = false := decide_eq_false (by omega)
  go_wp2_with fail
  go_loopg [8] n (fun gq iv wr => ∃ k q : Nat, k + gq = n ∧ iv = .int .i64 k ∧ wr = w3.drewN q)
  case atStart => exact ⟨0, 0, by omega, rfl, rfl⟩
  case round =>
    obtain ⟨k, q, hk, rfl, rfl⟩ := hrel
    by_cases hlt : k < n
    · obtain ⟨hlo, hor⟩ := HC.out
      rcases hor with ⟨_, h0⟩ | ⟨N, hN, hb⟩
      · omega
      · subst hN
        have hkl : k < olds.length := by omega
        have c1 : w3.cell? ⟨g, k, none⟩ = some (.int .u8 (olds[k].toNat : Int)) := by
          have := HR.out.at (joined_left (e := esc s.data.toList) hkl)
          rw [Nat.zero_add] at this
          exact this
        have c2 : w3.cell? ⟨N, k, none⟩ = some (.int .u8 (olds[k].toNat : Int)) := by
          have := hb k hkl
          rw [Nat.zero_add] at this
          exact this
        have b1 : (k : Int) < (n : Int) + 1 + (L : Int) := by omega
        have b2 : (k : Int) < (n : Int) := by omega
        generalize (olds[k].toNat : Int) = z at c1 c2
        clear hb hlo
        go_wp2
        go_quiet (fail)
        go_wp2
        go_roundg (gk - 1)
        case measure => omega
        case rel => exact ⟨k + 1, q + nq, by omega, by go_num, rfl⟩
    · have hkn : k = n := by omega
      have h47 : w3.cell? ⟨g, n, none⟩ = some (.int .u8 47) := by
        have hlo := HC.out.1
        have := HR.out.at (joined_mid olds (esc s.data.toList))
        rw [Nat.zero_add, hlo] at this
        exact this
      have b1 : (n : Int) < (n : Int) + 1 + (L : Int) := by omega
      have htok : ∀ j u, (bc (esc s.data.toList))[j]? = some u → (w3.drewN q).cell? ⟨g, n + 1 + j, none⟩ = some u := by
        intro j u hu
        rw [World.cell?_drewN]
        have hlo := HC.out.1
        unfold bc at hu
        rw [List.getElem?_map, Option.map_eq_some_iff] at hu
        obtain ⟨c, hc, e⟩ := hu
        have := HR.out.at ((joined_right olds (esc s.data.toList) j).trans hc)
        rw [Nat.zero_add, hlo] at this
        rw [this, ← e]
      have HT : Aside (∀ j u, (bc (esc s.data.toList))[j]? = some u → (w3.drewN q).cell? ⟨g, n + 1 + j, none⟩ = some u) := htok
      have HS : Aside (s.size ≤ L) := hel.1
      clear htok
      have hBq : Below w.heap.size w (w3.drewN q) := below_drewN hBf _
      go_wp2_with fail
      all_goals
        refine (token_gen _ _ _ s _ HL.out hs ?_).mono ?_
        · intro h0
          have := HS.out
          first
            | exact ⟨g, n + 1, rfl, HT.out⟩
            | (exfalso; omega)
        · rintro e w5 ⟨rfl, hB5⟩
          have hse : (s.toList == s.toList) = true := by simp
          clear HT HR HC
          go_wp2
          go_ret
          exact ⟨rfl, hBq.trans (hB5.mono hBq.size)⟩
end Go.Proofs.Qxb6003361a
