import Derived.Test.Qxb6003361aRoA
namespace Go.Proofs.Qxb6003361a
open Go.RowKit

/-- a slice of slices of strings in memory -/
def Script (w : World) (ao : Option Addr) (R : List (List ByteArray)) : Prop :=
  ∀ i (h : i < R.length), ∃ a bo c, ao = some a ∧ w.cell? (a.add i) = some (.slice bo R[i].length c) ∧ Strs w bo R[i]
/-- nothing is longer than Go's int -/
def Fits (R : List (List ByteArray)) : Prop := ∀ i (h : i < R.length), R[i].length ≤ 9223372036854775807 ∧ ∀ j (h' : j < R[i].length), R[i][j].size ≤ 9223372036854775807
def SmallL (r : List ByteArray) : Prop := r.length ≤ 1048576 ∧ ∀ j (h' : j < r.length), r[j].size ≤ 1048576
def Small (R : List (List ByteArray)) : Prop := R.length ≤ 1048576 ∧ ∀ i (h : i < R.length), SmallL R[i]

theorem inner_step {r : List ByteArray} {j : Nat} (hj : j < r.length) (h : ∀ i (h : i < r.length), i < j → r[i].size ≤ 1048576) (hs : r[j].size ≤ 1048576) :
    ∀ i (h : i < r.length), i < j + 1 → r[i].size ≤ 1048576 := by
  intro i hi hlt
  by_cases e : i = j
  · subst e; exact hs
  · exact h i hi (by omega)
theorem outer_step {R : List (List ByteArray)} {k : Nat} (hk : k < R.length) (h : ∀ i (h : i < R.length), i < k → SmallL R[i]) (hs : SmallL R[k]) :
    ∀ i (h : i < R.length), i < k + 1 → SmallL R[i] := by
  intro i hi hlt
  by_cases e : i = k
  · subst e; exact hs
  · exact h i hi (by omega)

set_option maxHeartbeats 1600000 in
theorem bytes35 (w : World) (ao : Option Addr) (n c : Nat) (R : List (List ByteArray)) (hR : Script w ao R) (hF : Fits R) (hl : R.length = n) (hn : n ≤ 9223372036854775807) :
    Calls Try.prog 35 #[.slice ao n c] w fun e w' => ∃ v, e = .returned v ∧ w' = w ∧ (v = .bool false ∨ v = .bool true ∧ Small R) := by
  have L : Hid (R.length = n) := hl
  clear hl
  go_enter Try.func35, Try.ntmps35
  by_cases hb : n ≤ 1048576
  · go_wp2
    go_loopg [3, 4] n (fun g tv iv wr => ∃ k t : Nat, k + g = n ∧ tv = .int .i64 t ∧ iv = .int .i64 k ∧ t ≤ 1048576 ∧ wr = w ∧ (∀ i (h : i < R.length), i < k → SmallL R[i]))
    case atStart => exact ⟨0, n, by omega, by go_num, rfl, hb, rfl, fun i _ h => by omega⟩
    case round =>
      obtain ⟨k, t, hk, rfl, rfl, ht, hw, hall⟩ := hrel
      have hw := hw.symm
      subst hw
      by_cases hlt : k < n
      · have hkR : k < R.length := by rw [L.out]; exact hlt
        have HA : Aside (∀ i (h : i < R.length), i < k → SmallL R[i]) := hall
        clear hall
        obtain ⟨a, bo, cc, e1, q1, hS⟩ := hR k hkR
        obtain ⟨f1, f2⟩ := hF k hkR
        subst e1
        have Step : Aside (SmallL R[k] → ∀ i (h : i < R.length), i < k + 1 → SmallL R[i]) := outer_step hkR HA.out
        clear HA hR hF
        generalize hr : R[k] = r at q1 hS f1 f2 Step
        clear hr
        obtain ⟨nk, hnk⟩ : ∃ nk, nk = r.length := ⟨_, rfl⟩
        rw [← hnk] at q1 f1
        have LK : Hid (r.length = nk) := hnk.symm
        clear hnk
        have F2 : Aside (∀ j (h' : j < r.length), r[j].size ≤ 9223372036854775807) := f2
        have HS : Aside (Strs w bo r) := hS
        clear f2 hS
        by_cases hb1 : nk ≤ 1048576
        · by_cases hb2 : t + nk ≤ 1048576
          · go_wp2
            go_loopg [3, 5] nk (fun g tv iv wr => ∃ j t : Nat, j + g = nk ∧ tv = .int .i64 t ∧ iv = .int .i64 j ∧ t ≤ 1048576 ∧ wr = w ∧ (∀ i (h : i < r.length), i < j → r[i].size ≤ 1048576))
            case atStart => exact ⟨0, t + nk, by omega, by go_num, rfl, hb2, rfl, fun i _ h => by omega⟩
            case round =>
              obtain ⟨j, t', hj, rfl, rfl, ht', hw, hall⟩ := hrel
              have hw := hw.symm
              subst hw
              by_cases hjlt : j < nk
              · have hjr : j < r.length := by rw [LK.out]; exact hjlt
                have HI : Aside (r[j].size ≤ 1048576 → ∀ i (h : i < r.length), i < j + 1 → r[i].size ≤ 1048576) := inner_step hjr hall
                clear hall
                obtain ⟨a2, e2, q2⟩ := HS.out j hjr
                have g2 := F2.out j hjr
                subst e2
                generalize hs : r[j] = s at q2 g2 HI
                clear hs
                by_cases hs1 : s.size ≤ 1048576
                · by_cases hs2 : t' + s.size ≤ 1048576
                  · go_wp2
                    go_roundg (gk - 1)
                    case measure => omega
                    case rel => exact ⟨j + 1, t' + s.size, by omega, by go_num, by go_num, hs2, rfl, HI.out hs1⟩
                  · go_wp2
                    go_ret
                    exact ⟨_, rfl, rfl, .inl rfl⟩
                · go_wp2
                  go_ret
                  exact ⟨_, rfl, rfl, .inl rfl⟩
              · have hsm : Aside (SmallL r) := ⟨by rw [LK.out]; exact hb1, fun i hi => hall i hi (by have := LK.out; omega)⟩
                clear hall
                go_wp2
                go_roundg (n - (k + 1))
                case measure => omega
                case rel => exact ⟨k + 1, t', by omega, rfl, by go_num, ht', rfl, Step.out hsm.out⟩
          · go_wp2
            go_ret
            exact ⟨_, rfl, rfl, .inl rfl⟩
        · go_wp2
          go_ret
          exact ⟨_, rfl, rfl, .inl rfl⟩
      · have hsm : Aside (Small R) := ⟨by rw [L.out]; exact hb, fun i hi => hall i hi (by have := L.out; omega)⟩
        clear hall hR hF
        go_wp2
        go_ret
        exact ⟨_, rfl, rfl, .inr ⟨rfl, hsm.out⟩⟩
  · clear hR hF
    go_wp2
    go_ret
    exact ⟨_, rfl, rfl, .inl rfl⟩
end Go.Proofs.Qxb6003361a
