import Derived.Test.Qxb6003361aRoB
namespace Go.Proofs.Qxb6003361a
open Go.RowKit

set_option maxHeartbeats 1600000 in
theorem small36 (w : World) (ao : Option Addr) (n c : Nat) (R : List (List ByteArray)) (hR : Script w ao R) (hF : Small R) (hl : R.length = n) :
    Calls Try.prog 36 #[.slice ao n c] w fun e w' => ∃ v, e = .returned v ∧ w' = w ∧ (v = .bool false ∨ v = .bool true) := by
  have L : Hid (R.length = n) := hl
  obtain ⟨hn, hF⟩ := hF
  rw [hl] at hn
  clear hl
  go_enter Try.func36, Try.ntmps36
  by_cases hb : n ≤ 512
  · go_wp2
    go_loopg [3, 4] n (fun g tv iv wr => ∃ k t : Nat, k + g = n ∧ tv = .int .i64 t ∧ iv = .int .i64 k ∧ t ≤ 1048576 ∧ wr = w)
    case atStart => exact ⟨0, 24 * n, by omega, by go_num, rfl, by omega, rfl⟩
    case round =>
      obtain ⟨k, t, hk, rfl, rfl, ht, hw⟩ := hrel
      have hw := hw.symm
      subst hw
      by_cases hlt : k < n
      · have hkR : k < R.length := by rw [L.out]; exact hlt
        obtain ⟨a, bo, cc, e1, q1, hS⟩ := hR k hkR
        obtain ⟨f1, f2⟩ := hF k hkR
        subst e1
        clear hR hF
        generalize hr : R[k] = r at q1 hS f1 f2
        clear hr
        obtain ⟨nk, hnk⟩ : ∃ nk, nk = r.length := ⟨_, rfl⟩
        rw [← hnk] at q1 f1
        have LK : Hid (r.length = nk) := hnk.symm
        clear hnk
        have F2 : Aside (∀ j (h' : j < r.length), r[j].size ≤ 1048576) := f2
        have HS : Aside (Strs w bo r) := hS
        clear f2 hS
        by_cases hb1 : nk ≤ 65536
        · by_cases hb2 : t + (24 + 16 * nk) ≤ 1048576
          · go_wp2
            go_loopg [3, 5] nk (fun g tv iv wr => ∃ j t : Nat, j + g = nk ∧ tv = .int .i64 t ∧ iv = .int .i64 j ∧ t ≤ 1048576 ∧ wr = w)
            case atStart => exact ⟨0, t + (24 + 16 * nk), by omega, by go_num, rfl, hb2, rfl⟩
            case round =>
              obtain ⟨j, t', hj, rfl, rfl, ht', hw⟩ := hrel
              have hw := hw.symm
              subst hw
              by_cases hjlt : j < nk
              · have hjr : j < r.length := by rw [LK.out]; exact hjlt
                obtain ⟨a2, e2, q2⟩ := HS.out j hjr
                have g2 := F2.out j hjr
                subst e2
                generalize hs : r[j] = s at q2 g2
                clear hs
                by_cases hs2 : t' + s.size ≤ 1048576
                · go_wp2
                  go_roundg (gk - 1)
                  case measure => omega
                  case rel => exact ⟨j + 1, t' + s.size, by omega, by go_num, by go_num, hs2, rfl⟩
                · go_wp2
                  go_ret
                  exact ⟨_, rfl, rfl, .inl rfl⟩
              · go_wp2
                go_roundg (n - (k + 1))
                case measure => omega
                case rel => exact ⟨k + 1, t', by omega, rfl, by go_num, ht', rfl⟩
          · go_wp2
            go_ret
            exact ⟨_, rfl, rfl, .inl rfl⟩
        · go_wp2
          go_ret
          exact ⟨_, rfl, rfl, .inl rfl⟩
      · clear hR hF
        go_wp2
        go_ret
        exact ⟨_, rfl, rfl, .inr rfl⟩
  · clear hR hF
    go_wp2
    go_ret
    exact ⟨_, rfl, rfl, .inl rfl⟩
end Go.Proofs.Qxb6003361a
