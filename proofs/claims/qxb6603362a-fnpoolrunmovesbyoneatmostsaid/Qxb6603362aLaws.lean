import Derived.Test.Qxb6603362aPool
namespace Go.Proofs.Qxb6603362a
open Go.RowKit

theorem lss_true (t : TypeId) (k : IntKind) {a b : Int} (h : a < b) : binOp .lss t (.int k a) (.int k b) = pure (.bool true) := by simp [binOp, Op.intCmp, h]
theorem lss_false (t : TypeId) (k : IntKind) {a b : Int} (h : b ≤ a) : binOp .lss t (.int k a) (.int k b) = pure (.bool false) := by
  have h' : ¬ a < b := by omega
  simp [binOp, Op.intCmp, h']
theorem eql_false (t : TypeId) (k : IntKind) {a b : Int} (h : a ≠ b) : binOp .eql t (.int k a) (.int k b) = pure (.bool false) := by
  have h' : (a == b) = false := by simpa using h
  rw [binOp_eql, h']
theorem eql_true (t : TypeId) (k : IntKind) {a b : Int} (h : a = b) : binOp .eql t (.int k a) (.int k b) = pure (.bool true) := by
  have h' : (a == b) = true := by simpa using h
  rw [binOp_eql, h']

set_option maxHeartbeats 400000 in
theorem walk3_neg (item n : Int) (hn : n < 0) (w : World) : Calls Try.prog 3 #[.int .i64 item, .int .i64 n] w fun e w' => e = .returned (.bool true) ∧ Below w.heap.size w w' := by
  go_enter Try.func3, Try.ntmps3
  go_wp2_with fail
  go_ret
  exact ⟨rfl, Below.refl _ _⟩

set_option maxHeartbeats 800000 in
theorem walk3_main (item n : Int) (hn : 0 ≤ n) (hm : n ≤ 9223372036854775807) (w : World) : Calls Try.prog 3 #[.int .i64 item, .int .i64 n] w fun e w' => e = .returned (.bool true) ∧ Below w.heap.size w w' := by
  obtain ⟨u, hu⟩ : ∃ u, u = wrap64 (n + 1) := ⟨_, rfl⟩
  have hu0 : u ≠ 0 := by unfold wrap64 at hu; omega
  have hub : wrap64 (u - 1) = n := by unfold wrap64 at *; omega
  have hpos : n < 9223372036854775807 → 0 < u := by intro h; unfold wrap64 at hu; omega
  have c1 := fun w => pool_gen 0 item n 0 0 u false (by rw [hu]; exact fun w => run_add item n w) w
  have c2 := fun w => pool_gen 1 item u 4 item n true (by intro w; have := run_rem item u hu0 w; rw [hub] at this; exact this) w
  have c3 := fun w => pool_gen 2 item u 0 0 n false (by intro w; have := run_shr item u w; rw [hub] at this; exact this) w
  have c4 := fun w => pool_gen 4 item u 2 u u false (run_cnt 4 item u (by omega)) w
  have hn0 := lss_false 2 .i64 hn
  by_cases hlt : n < 9223372036854775807
  · have c5 := fun w => pool_gen 3 item u 6 0 u false (run_emp item u (hpos hlt)) w
    have ht := lss_true 2 .i64 hlt
    clear hu hu0 hub hpos hn hm hlt
    go_enter Try.func3, Try.ntmps3
    go_wp2_with fail
    refine (c1 _).mono ?_
    rintro e w1 ⟨rfl, hB1⟩
    go_wp2_with fail
    refine (c2 _).mono ?_
    rintro e w2 ⟨rfl, hB2⟩
    have hB2 := hB1.trans (hB2.mono hB1.size)
    go_wp2_with fail
    refine (c3 _).mono ?_
    rintro e w3 ⟨rfl, hB3⟩
    have hB3 := hB2.trans (hB3.mono hB2.size)
    go_wp2_with fail
    refine (c4 _).mono ?_
    rintro e w4 ⟨rfl, hB4⟩
    have hB4 := hB3.trans (hB4.mono hB3.size)
    go_wp2_with fail
    refine (c5 _).mono ?_
    rintro e w5 ⟨rfl, hB5⟩
    have hB5 := hB4.trans (hB5.mono hB4.size)
    go_wp2_with fail
    go_ret
    exact ⟨rfl, hB5⟩
  · have ht := lss_false 2 .i64 (show (9223372036854775807 : Int) ≤ n by omega)
    clear hu hu0 hub hpos hn hm hlt
    go_enter Try.func3, Try.ntmps3
    go_wp2_with fail
    refine (c1 _).mono ?_
    rintro e w1 ⟨rfl, hB1⟩
    go_wp2_with fail
    refine (c2 _).mono ?_
    rintro e w2 ⟨rfl, hB2⟩
    have hB2 := hB1.trans (hB2.mono hB1.size)
    go_wp2_with fail
    refine (c3 _).mono ?_
    rintro e w3 ⟨rfl, hB3⟩
    have hB3 := hB2.trans (hB3.mono hB2.size)
    go_wp2_with fail
    refine (c4 _).mono ?_
    rintro e w4 ⟨rfl, hB4⟩
    have hB4 := hB3.trans (hB4.mono hB3.size)
    go_wp2_with fail
    go_ret
    exact ⟨rfl, hB4⟩

theorem gtr_false (t : TypeId) (k : IntKind) {a b : Int} (h : a ≤ b) : binOp .gtr t (.int k a) (.int k b) = pure (.bool false) := by
  have h' : ¬ b < a := by omega
  rw [binOp_gtr]; simp [h']
theorem neq_is (t : TypeId) (k : IntKind) {a b : Int} {q : Bool} (h : (a != b) = q) : binOp .neq t (.int k a) (.int k b) = pure (.bool q) := by
  rw [binOp_neq, h]
theorem eql_is (t : TypeId) (k : IntKind) {a b : Int} {q : Bool} (h : (a == b) = q) : binOp .eql t (.int k a) (.int k b) = pure (.bool q) := by
  rw [binOp_eql, h]

set_option maxHeartbeats 400000 in
theorem walk4_out (p item n : Int) (hn : n < 0 ∨ n = 9223372036854775807) (w : World) : Calls Try.prog 4 #[.int .u8 p, .int .i64 item, .int .i64 n] w fun e w' => e = .returned (.bool true) ∧ Below w.heap.size w w' := by
  by_cases h0 : n < 0
  · have t1 := lss_true 2 .i64 h0
    clear hn h0
    go_enter Try.func4, Try.ntmps4
    go_wp2_with fail
    go_ret
    exact ⟨rfl, Below.refl _ _⟩
  · have t1 := lss_false 2 .i64 (show 0 ≤ n by omega)
    have t2 := eql_true 2 .i64 (show n = 9223372036854775807 by omega)
    clear hn h0
    go_enter Try.func4, Try.ntmps4
    go_wp2_with fail
    go_ret
    exact ⟨rfl, Below.refl _ _⟩

/-- the walk behind the call, where its outcome x fits the law -/
theorem walk4_core (p item n k r x : Int) (o : Bool) (hn : 0 ≤ n) (hm : n < 9223372036854775807)
    (hc : ∀ w, Calls Try.prog 8 #[.int .u8 p, .int .i64 item, .int .i64 n] w fun e w' => e = .returned (.tuple #[.int .u8 k, .int .i64 r, .bool o, .int .i64 x]) ∧ Below w.heap.size w w')
    (h1 : n - 1 ≤ x) (h2 : x ≤ n + 1) (h3 : (x == n + 1) = (p == 0)) (h4 : x = n - 1 → p = 1 ∨ p = 2) (h5 : x < 0 → p = 2 ∧ n = 0) (w : World) :
    Calls Try.prog 4 #[.int .u8 p, .int .i64 item, .int .i64 n] w fun e w' => e = .returned (.bool true) ∧ Below w.heap.size w w' := by
  have a1 := lss_false 2 .i64 hn
  have a2 := eql_false 2 .i64 (show n ≠ 9223372036854775807 by omega)
  have s1 : binOp .sub 2 (.int .i64 n) (.int .i64 1) = pure (.int .i64 (n - 1)) := by
    rw [binOp_sub]; simp only [Op.intArith, IntKind.wrap_i64]
    congr 2; omega
  have s2 : binOp .add 2 (.int .i64 n) (.int .i64 1) = pure (.int .i64 (n + 1)) := by
    rw [binOp_add]; simp only [Op.intArith, IntKind.wrap_i64]
    congr 2; omega
  have b1 := lss_false 2 .i64 h1
  have b2 := gtr_false 2 .i64 h2
  obtain ⟨q3, hq3⟩ : ∃ q, q = (p == 0) := ⟨_, rfl⟩
  have b3 := eql_is 2 .i64 (h3.trans hq3.symm)
  have b4 := eql_is 5 .u8 hq3.symm
  obtain ⟨x1, e1⟩ : ∃ y, y = n - 1 := ⟨_, rfl⟩
  obtain ⟨x2, e2⟩ : ∃ y, y = n + 1 := ⟨_, rfl⟩
  rw [← e1] at s1 b1
  rw [← e2] at s2 b2 b3
  by_cases hx : x = n - 1
  · have d1 := eql_true 2 .i64 (show x = x1 by omega)
    by_cases hx0 : x < 0
    · obtain ⟨p2, n0⟩ := h5 hx0
      have d2 := lss_true 2 .i64 hx0
      have d3 := eql_true 2 .i64 n0
      subst p2
      clear h1 h2 h3 h4 h5 hq3 e1 e2 hx hx0 hn hm n0
      go_enter Try.func4, Try.ntmps4
      go_wp2_with fail
      refine (hc _).mono ?_
      rintro e w1 ⟨rfl, hB1⟩
      clear hc
      go_wp2
      go_ret
      exact ⟨rfl, hB1⟩
    · have d2 := lss_false 2 .i64 (show 0 ≤ x by omega)
      rcases h4 hx with hp | hp
      · subst hp
        clear h1 h2 h3 h4 h5 hq3 e1 e2 hx hx0 hn hm
        go_enter Try.func4, Try.ntmps4
        go_wp2_with fail
        refine (hc _).mono ?_
        rintro e w1 ⟨rfl, hB1⟩
        clear hc
        go_wp2
        go_ret
        exact ⟨rfl, hB1⟩
      · subst hp
        clear h1 h2 h3 h4 h5 hq3 e1 e2 hx hx0 hn hm
        go_enter Try.func4, Try.ntmps4
        go_wp2_with fail
        refine (hc _).mono ?_
        rintro e w1 ⟨rfl, hB1⟩
        clear hc
        go_wp2
        go_ret
        exact ⟨rfl, hB1⟩
  · have d1 := eql_false 2 .i64 (show x ≠ x1 by omega)
    have d2 := lss_false 2 .i64 (show 0 ≤ x by omega)
    clear h1 h2 h3 h4 h5 hq3 e1 e2 hx hn hm
    go_enter Try.func4, Try.ntmps4
    go_wp2_with fail
    refine (hc _).mono ?_
    rintro e w1 ⟨rfl, hB1⟩
    clear hc
    go_wp2
    go_ret
    exact ⟨rfl, hB1⟩

theorem walk4_main (p item n : Int) (hp : 0 ≤ p) (hn : 0 ≤ n) (hm : n < 9223372036854775807) (w : World) :
    Calls Try.prog 4 #[.int .u8 p, .int .i64 item, .int .i64 n] w fun e w' => e = .returned (.bool true) ∧ Below w.heap.size w w' := by
  have wu : wrap64 (n + 1) = n + 1 := by unfold wrap64; omega
  have wd : wrap64 (n - 1) = n - 1 := by unfold wrap64; omega
  by_cases p0 : p = 0
  · subst p0
    exact walk4_core 0 item n 0 0 (n + 1) false hn hm (pool_gen 0 item n 0 0 (n + 1) false (by intro w; have := run_add item n w; rw [wu] at this; exact this)) (by omega) (by omega) (by simp) (by omega) (by omega) w
  by_cases p1 : p = 1
  · subst p1
    by_cases n0 : n = 0
    · subst n0
      exact walk4_core 1 item 0 5 item 0 false hn hm (pool_gen 1 item 0 5 item 0 false (run_rem0 item)) (by omega) (by omega) (by decide) (by omega) (by omega) w
    · exact walk4_core 1 item n 4 item (n - 1) true hn hm (pool_gen 1 item n 4 item (n - 1) true (by intro w; have := run_rem item n n0 w; rw [wd] at this; exact this)) (by omega) (by omega) (by simp; omega) (by omega) (by omega) w
  by_cases p2 : p = 2
  · subst p2
    exact walk4_core 2 item n 0 0 (n - 1) false hn hm (pool_gen 2 item n 0 0 (n - 1) false (by intro w; have := run_shr item n w; rw [wd] at this; exact this)) (by omega) (by omega) (by simp; omega) (by omega) (by omega) w
  by_cases p3 : p = 3
  · subst p3
    by_cases n0 : 0 < n
    · exact walk4_core 3 item n 6 0 n false hn hm (pool_gen 3 item n 6 0 n false (run_emp item n n0)) (by omega) (by omega) (by simp; omega) (by omega) (by omega) w
    · exact walk4_core 3 item n 4 0 n false hn hm (pool_gen 3 item n 4 0 n false (run_emp0 item n (by omega))) (by omega) (by omega) (by simp; omega) (by omega) (by omega) w
  · have e : (p == 0) = false := by simpa using p0
    exact walk4_core p item n 2 n n false hn hm (pool_gen p item n 2 n n false (run_cnt p item n (by omega))) (by omega) (by omega) (by rw [e]; simp; omega) (by omega) (by omega) w
end Go.Proofs.Qxb6603362a
