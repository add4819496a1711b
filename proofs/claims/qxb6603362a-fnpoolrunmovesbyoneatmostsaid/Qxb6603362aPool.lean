import Derived.Test.Qxb6603362aRows
import Derived.WalkKit
import Derived.WalkSpells
import Derived.WalkLawsBesides
import Derived.Deep.QuietTactic
import Derived.BigQuiet
namespace Go.Proofs.Qxb6603362a
open Go.RowKit

/-- a world that is the old one, new blocks and draws -/
theorem bel2 (w : World) (a b : Obj) : Below w.heap.size w ((w.alloc a).alloc b) := ((Below.refl _ _).alloc (Nat.le_refl _) _).alloc (by simp) _

set_option maxHeartbeats 400000 in
theorem run_add (item n : Int)  (w : World) :
    Calls Try.prog 20 #[.agg #[.int .u8 (0), .int .i64 item], .int .i64 n] w fun e w' => e = .returned (.tuple #[.agg #[.int .u8 0, .int .i64 0, .bool false], .int .i64 (wrap64 (n + 1))]) ∧ Below w.heap.size w w' := by
  go_enter Try.func20, Try.ntmps20
  go_wp2
  exact bodyPost_ret (v := .tuple #[.agg #[.int .u8 0, .int .i64 0, .bool false], .int .i64 (wrap64 (n + 1))]) (by simp [results, Try.results20, go_sem]) rfl ⟨rfl, bel2 _ _ _⟩

set_option maxHeartbeats 400000 in
theorem run_rem0 (item : Int)  (w : World) :
    Calls Try.prog 20 #[.agg #[.int .u8 (1), .int .i64 item], .int .i64 0] w fun e w' => e = .returned (.tuple #[.agg #[.int .u8 5, .int .i64 item, .bool false], .int .i64 (0)]) ∧ Below w.heap.size w w' := by
  go_enter Try.func20, Try.ntmps20
  go_wp2
  exact bodyPost_ret (v := .tuple #[.agg #[.int .u8 5, .int .i64 item, .bool false], .int .i64 (0)]) (by simp [results, Try.results20, go_sem]) rfl ⟨rfl, bel2 _ _ _⟩

set_option maxHeartbeats 400000 in
theorem run_rem (item n : Int) (hn : n ≠ 0) (w : World) :
    Calls Try.prog 20 #[.agg #[.int .u8 (1), .int .i64 item], .int .i64 n] w fun e w' => e = .returned (.tuple #[.agg #[.int .u8 4, .int .i64 item, .bool true], .int .i64 (wrap64 (n - 1))]) ∧ Below w.heap.size w w' := by
  have hne : (n == 0) = false := by simpa using hn
  clear hn
  go_enter Try.func20, Try.ntmps20
  go_wp2
  exact bodyPost_ret (v := .tuple #[.agg #[.int .u8 4, .int .i64 item, .bool true], .int .i64 (wrap64 (n - 1))]) (by simp [results, Try.results20, go_sem]) rfl ⟨rfl, bel2 _ _ _⟩

set_option maxHeartbeats 400000 in
theorem run_shr (item n : Int)  (w : World) :
    Calls Try.prog 20 #[.agg #[.int .u8 (2), .int .i64 item], .int .i64 n] w fun e w' => e = .returned (.tuple #[.agg #[.int .u8 0, .int .i64 0, .bool false], .int .i64 (wrap64 (n - 1))]) ∧ Below w.heap.size w w' := by
  go_enter Try.func20, Try.ntmps20
  go_wp2
  exact bodyPost_ret (v := .tuple #[.agg #[.int .u8 0, .int .i64 0, .bool false], .int .i64 (wrap64 (n - 1))]) (by simp [results, Try.results20, go_sem]) rfl ⟨rfl, bel2 _ _ _⟩

set_option maxHeartbeats 400000 in
theorem run_emp (item n : Int) (hn : 0 < n) (w : World) :
    Calls Try.prog 20 #[.agg #[.int .u8 (3), .int .i64 item], .int .i64 n] w fun e w' => e = .returned (.tuple #[.agg #[.int .u8 6, .int .i64 0, .bool false], .int .i64 (n)]) ∧ Below w.heap.size w w' := by
  go_enter Try.func20, Try.ntmps20
  go_wp2
  exact bodyPost_ret (v := .tuple #[.agg #[.int .u8 6, .int .i64 0, .bool false], .int .i64 (n)]) (by simp [results, Try.results20, go_sem]) rfl ⟨rfl, bel2 _ _ _⟩

set_option maxHeartbeats 400000 in
theorem run_emp0 (item n : Int) (hn : n ≤ 0) (w : World) :
    Calls Try.prog 20 #[.agg #[.int .u8 (3), .int .i64 item], .int .i64 n] w fun e w' => e = .returned (.tuple #[.agg #[.int .u8 4, .int .i64 0, .bool false], .int .i64 (n)]) ∧ Below w.heap.size w w' := by
  go_enter Try.func20, Try.ntmps20
  go_wp2
  exact bodyPost_ret (v := .tuple #[.agg #[.int .u8 4, .int .i64 0, .bool false], .int .i64 (n)]) (by simp [results, Try.results20, go_sem]) rfl ⟨rfl, bel2 _ _ _⟩

set_option maxHeartbeats 400000 in
theorem run_cnt (p item n : Int) (hp : 4 ≤ p) (w : World) :
    Calls Try.prog 20 #[.agg #[.int .u8 p, .int .i64 item], .int .i64 n] w fun e w' => e = .returned (.tuple #[.agg #[.int .u8 2, .int .i64 n, .bool false], .int .i64 (n)]) ∧ Below w.heap.size w w' := by
  have p0 : (p == 0) = false := by simp; omega
  have p1 : (p == 1) = false := by simp; omega
  have p2 : (p == 2) = false := by simp; omega
  have p3 : (p == 3) = false := by simp; omega
  go_enter Try.func20, Try.ntmps20
  go_wp2
  exact bodyPost_ret (v := .tuple #[.agg #[.int .u8 2, .int .i64 n, .bool false], .int .i64 (n)]) (by simp [results, Try.results20, go_sem]) rfl ⟨rfl, bel2 _ _ _⟩

set_option maxHeartbeats 400000 in
theorem pool_gen (p item n k r nx : Int) (o : Bool)
    (hr : ∀ w, Calls Try.prog 20 #[.agg #[.int .u8 p, .int .i64 item], .int .i64 n] w fun e w' => e = .returned (.tuple #[.agg #[.int .u8 k, .int .i64 r, .bool o], .int .i64 nx]) ∧ Below w.heap.size w w') (w : World) :
    Calls Try.prog 8 #[.int .u8 p, .int .i64 item, .int .i64 n] w fun e w' => e = .returned (.tuple #[.int .u8 k, .int .i64 r, .bool o, .int .i64 nx]) ∧ Below w.heap.size w w' := by
  go_enter Try.func8, Try.ntmps8
  go_wp2_with (go_at_call 20; refine (hr _).mono ?_; rintro e w1 ⟨rfl, hB1⟩)
  have hB2 : Below w.heap.size w (w1.alloc (.cells #[.int .u8 k, .int .i64 r, .bool o] 42)) := hB1.alloc hB1.size _
  clear hr
  go_quiet (fail)
  go_wp2
  exact bodyPost_ret (v := .tuple #[.int .u8 k, .int .i64 r, .bool o, .int .i64 nx]) (by simp [results, Try.results8, go_sem]) rfl ⟨rfl, below_drewN hB2 _⟩
end Go.Proofs.Qxb6603362a
