import Derived.Test.Qxb6003361aMem
import Derived.Deep.Draws
namespace Go.Proofs.Qxb6003361a
open Go.RowKit

/-- a slice of strings in memory -/
def Strs (w : World) (ao : Option Addr) (r : List ByteArray) : Prop := ∀ i (h : i < r.length), ∃ a, ao = some a ∧ w.cell? (a.add i) = some (.string r[i])

theorem cell_drewN (w : World) (n : Nat) (a : Addr) : (w.drewN n).cell? a = w.cell? a := by
  simp

theorem drewN_two (w : World) (m n : Nat) : ∃ k, (w.drewN m).drewN n = w.drewN k := ⟨m + n, by simp⟩

theorem str_eq_true {x y : ByteArray} (h : x = y) : (x.toList == y.toList) = true := by subst h; simp
theorem toList_inj {x y : ByteArray} (h : x.toList = y.toList) : x = y := by
  rw [ByteArray.toList_eq, ByteArray.toList_eq] at h
  exact ByteArray.ext (Array.ext' h)
theorem str_eq_false {x y : ByteArray} (h : x ≠ y) : (x.toList == y.toList) = false := by
  rw [beq_eq_false_iff_ne]
  exact fun e => h (toList_inj e)

set_option maxHeartbeats 800000 in
theorem same40 (w : World) (ao1 ao2 : Option Addr) (n1 n2 c1 c2 : Nat) (r1 r2 : List ByteArray) (h1 : Strs w ao1 r1) (h2 : Strs w ao2 r2) (l1 : r1.length = n1) (l2 : r2.length = n2) (b1 : n1 ≤ 1048576) (b2 : n2 ≤ 1048576) :
    Calls Try.prog 40 #[.slice ao1 n1 c1, .slice ao2 n2 c2] w fun e w' => e = .returned (.bool (decide (r1 = r2))) ∧ ∃ m, w' = w.drewN m := by
  by_cases hl : n1 = n2
  · subst hl
    have L1 : Hid (r1.length = n1) := l1
    have L2 : Hid (r2.length = n1) := l2
    clear l1 l2
    go_enter Try.func40, Try.ntmps40
    go_wp2
    go_loopg [5] n1 (fun g iv wr => ∃ k : Nat, k + g = n1 ∧ iv = .int .i64 k ∧ (∃ m, wr = w.drewN m) ∧ (∀ i (h : i < r1.length) (h' : i < r2.length), i < k → r1[i] = r2[i]))
    case atStart => exact ⟨0, by omega, rfl, ⟨0, rfl⟩, fun i _ _ h => by omega⟩
    case round =>
      obtain ⟨k, hk, rfl, ⟨m, rfl⟩, hall⟩ := hrel
      by_cases hlt : k < n1
      · obtain ⟨a1, e1, q1⟩ := h1 k (by rw [L1.out]; exact hlt)
        obtain ⟨a2, e2, q2⟩ := h2 k (by rw [L2.out]; exact hlt)
        subst e1; subst e2
        have HA : Aside (∀ i (h : i < r1.length) (h' : i < r2.length), i < k → r1[i] = r2[i]) := hall
        clear hall h1 h2
        by_cases es : r1[k]'(by rw [L1.out]; exact hlt) = r2[k]'(by rw [L2.out]; exact hlt)
        · have ht := str_eq_true es
          have ES : Aside (r1[k]'(by rw [L1.out]; exact hlt) = r2[k]'(by rw [L2.out]; exact hlt)) := es
          clear es
          go_wp2
          go_quiet (fail)
          go_wp2
          go_roundg (gk - 1)
          case measure => omega
          case rel =>
            refine ⟨k + 1, by omega, by go_num, ⟨_, rfl⟩, ?_⟩
            intro i h h' hi
            by_cases e : i = k
            · subst e; exact ES.out
            · exact HA.out i h h' (by omega)
        · have ht := str_eq_false es
          have hd : decide (r1 = r2) = false := decide_eq_false (fun e => es (by subst e; rfl))
          clear es
          go_wp2
          go_quiet (fail)
          go_wp2
          go_ret
          exact ⟨by rw [hd]; rfl, drewN_two w m _⟩
      · have hd : decide (r1 = r2) = true := by
          have := L1.out; have := L2.out
          refine decide_eq_true (List.ext_getElem (by omega) ?_)
          intro i h h'
          exact hall i h h' (by omega)
        clear hall h1 h2
        go_wp2
        go_ret
        exact ⟨by rw [hd]; rfl, _, rfl⟩
  · have hd : decide (r1 = r2) = false := decide_eq_false (fun e => hl (by subst e; omega))
    clear l1 l2 h1 h2
    go_enter Try.func40, Try.ntmps40
    go_wp2
    go_ret
    exact ⟨by rw [hd]; rfl, 0, rfl⟩
set_option maxHeartbeats 800000 in
theorem same57 (w : World) (ao1 ao2 : Option Addr) (n1 n2 c1 c2 : Nat) (r1 r2 : List ByteArray) (h1 : Strs w ao1 r1) (h2 : Strs w ao2 r2) (l1 : r1.length = n1) (l2 : r2.length = n2) (b1 : n1 ≤ 1048576) (b2 : n2 ≤ 1048576) :
    Calls Try.prog 57 #[.slice ao1 n1 c1, .slice ao2 n2 c2] w fun e w' => e = .returned (.bool (decide (r1 = r2))) ∧ ∃ m, w' = w.drewN m := by
  by_cases hl : n1 = n2
  · subst hl
    have L1 : Hid (r1.length = n1) := l1
    have L2 : Hid (r2.length = n1) := l2
    clear l1 l2
    go_enter Try.func57, Try.ntmps57
    go_wp2
    go_loopg [13] n1 (fun g iv wr => ∃ k : Nat, k + g = n1 ∧ iv = .int .i64 k ∧ (∃ m, wr = w.drewN m) ∧ (∀ i (h : i < r1.length) (h' : i < r2.length), i < k → r1[i] = r2[i]))
    case atStart => exact ⟨0, by omega, rfl, ⟨0, rfl⟩, fun i _ _ h => by omega⟩
    case round =>
      obtain ⟨k, hk, rfl, ⟨m, rfl⟩, hall⟩ := hrel
      by_cases hlt : k < n1
      · obtain ⟨a1, e1, q1⟩ := h1 k (by rw [L1.out]; exact hlt)
        obtain ⟨a2, e2, q2⟩ := h2 k (by rw [L2.out]; exact hlt)
        subst e1; subst e2
        have HA : Aside (∀ i (h : i < r1.length) (h' : i < r2.length), i < k → r1[i] = r2[i]) := hall
        clear hall h1 h2
        by_cases es : r1[k]'(by rw [L1.out]; exact hlt) = r2[k]'(by rw [L2.out]; exact hlt)
        · have ht := str_eq_true es
          have ES : Aside (r1[k]'(by rw [L1.out]; exact hlt) = r2[k]'(by rw [L2.out]; exact hlt)) := es
          clear es
          go_wp2
          go_quiet (fail)
          go_wp2
          go_roundg (gk - 1)
          case measure => omega
          case rel =>
            refine ⟨k + 1, by omega, by go_num, ⟨_, rfl⟩, ?_⟩
            intro i h h' hi
            by_cases e : i = k
            · subst e; exact ES.out
            · exact HA.out i h h' (by omega)
        · have ht := str_eq_false es
          have hd : decide (r1 = r2) = false := decide_eq_false (fun e => es (by subst e; rfl))
          clear es
          go_wp2
          go_quiet (fail)
          go_wp2
          go_ret
          exact ⟨by rw [hd]; rfl, drewN_two w m _⟩
      · have hd : decide (r1 = r2) = true := by
          have := L1.out; have := L2.out
          refine decide_eq_true (List.ext_getElem (by omega) ?_)
          intro i h h'
          exact hall i h h' (by omega)
        clear hall h1 h2
        go_wp2
        go_ret
        exact ⟨by rw [hd]; rfl, _, rfl⟩
  · have hd : decide (r1 = r2) = false := decide_eq_false (fun e => hl (by subst e; omega))
    clear l1 l2 h1 h2
    go_enter Try.func57, Try.ntmps57
    go_wp2
    go_ret
    exact ⟨by rw [hd]; rfl, 0, rfl⟩
end Go.Proofs.Qxb6003361a
