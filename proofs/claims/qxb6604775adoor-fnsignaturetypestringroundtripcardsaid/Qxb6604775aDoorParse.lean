import Derived.Test.Qxb6604775aDoorInj
import Derived.Deep.LoopGhost
namespace Go.Proofs.Qxb6604775aDoor
open Go.RowKit Go.Sort Go.Lib

/-! ### the digits -/
theorem dec_digit (u : Nat) : ∀ c ∈ Lib.decDigits u, 48 ≤ c.toNat ∧ c.toNat ≤ 57 := by
  induction u using Nat.strongRecOn with
  | _ u ih =>
    rw [Lib.decDigits]
    by_cases h : u < 10
    · rw [dif_pos h]
      intro c hc
      simp at hc
      subst hc
      simp
      omega
    · rw [dif_neg h]
      intro c hc
      simp at hc
      rcases hc with hc | hc
      · exact ih (u / 10) (by omega) c hc
      · subst hc
        simp
        omega
theorem dec_head (u : Nat) (h1 : 1 ≤ u) : ∃ c r, Lib.decDigits u = c :: r ∧ c.toNat ≠ 48 := by
  induction u using Nat.strongRecOn with
  | _ u ih =>
    rw [Lib.decDigits]
    by_cases h : u < 10
    · rw [dif_pos h]
      exact ⟨_, [], rfl, by simp; omega⟩
    · rw [dif_neg h]
      obtain ⟨c, r, e, hc⟩ := ih (u / 10) (by omega) (by omega)
      exact ⟨c, r ++ [_], by rw [e]; rfl, hc⟩
theorem dval_mono (l m : List UInt8) : dval l ≤ dval (l ++ m) := by
  induction m generalizing l with
  | nil => simp
  | cons c m ih =>
    have h := ih (l ++ [c])
    rw [dval_snoc, List.append_assoc] at h
    have e : l ++ ([c] ++ m) = l ++ c :: m := rfl
    rw [e] at h
    omega
theorem dval_take {l : List UInt8} {i : Nat} (h : i < l.length) : dval (l.take (i + 1)) = dval (l.take i) * 10 + (l[i].toNat - 48) := by
  rw [List.take_succ_eq_append_getElem h, dval_snoc]
theorem dval_take_le (l : List UInt8) (i : Nat) : dval (l.take i) ≤ dval l := by
  have := dval_mono (l.take i) (l.drop i)
  rwa [List.take_append_drop] at this

theorem idx_of (s : ByteArray) (i : Nat) (h : i < s.size) (w : World) : (Instr.index 9 (.string s) (.int .i64 (i : Int))).run Tryd.prog w = .ok (.int .u8 (s[i].toNat : Int)) w := by
  rw [run_index_string w 9 s .i64 i Tryd.underlying9, dif_pos ⟨by omega, by omega⟩]
  simp

theorem ret_two {a b : Int} (h : a = b) : Ending.returned (.tuple #[.int .u64 a, .bool true]) = .returned (.tuple #[.int .u64 b, .bool true]) := by rw [h]

set_option maxHeartbeats 800000 in
theorem parse_core (s dd : ByteArray) (l u : Nat) (hu : u < 18446744073709551616) (hl1 : 1 ≤ l) (hl2 : l ≤ 20) (hsz : s.size = l + 15) (hdd : dd.size = l)
    (hx1 : s.extract 0 14 = ⟨#[83, 105, 103, 110, 97, 116, 117, 114, 101, 84, 121, 112, 101, 40]⟩) (hx3 : s.extract 14 (l + 14) = dd)
    (hI : ∀ h : l + 14 < s.size, s[l + 14] = 41)
    (hdig : ∀ i (h : i < dd.size), 48 ≤ dd[i].toNat ∧ dd[i].toNat ≤ 57) (c0 : Int) (h0 : ∀ w, (Instr.index 9 (.string dd) (.int .i64 0)).run Tryd.prog w = .ok (.int .u8 c0) w) (hh : (c0 == 48) = false) (hval : dval dd.data.toList = u) (w : World) :
    Calls Tryd.prog 7 #[.string s] w fun e w' => e = .returned (.tuple #[.int .u64 (u : Int), .bool true]) ∧ w' = w := by
  have h41 : ((s[l + 14]'(by omega)).toNat : Int) = 41 := by rw [hI]; rfl
  have hs16 : decide ((l : Int) + 15 < 16) = false := decide_eq_false (by omega)
  have Hsz : Hid (dd.size = l) := hdd
  have Hdig : Hid (∀ i (h : i < dd.size), 48 ≤ dd[i].toNat ∧ dd[i].toNat ≤ 57) := hdig
  have Hval : Hid (dval dd.data.toList = u) := hval
  clear hI hdig hval
  by_cases hl : 1 < l
  all_goals
    go_enter Tryd.func7, Tryd.ntmps7
    go_wp2
    go_loopg [5, 6] l (fun k v i wr => ∃ (q : Nat) (x : Int), q + k = l ∧ i = .int .i64 q ∧ v = .int .u64 x ∧ Hid (x = (dval (dd.data.toList.take q) : Int)) ∧ wr = w)
    case atStart => exact ⟨0, 0, by omega, rfl, rfl, rfl, rfl⟩
    case round =>
      obtain ⟨q, v, hq, rfl, rfl, hv, hwr⟩ := hrel
      have hwr := hwr.symm
      subst hwr
      by_cases hlt : q < l
      · have hlen : q < dd.data.toList.length := by have := Hsz.out; simp; exact this ▸ hlt
        have hqd : q < dd.size := by rw [Hsz.out]; exact hlt
        obtain ⟨d1, d2⟩ := Hdig.out q hqd
        have hix := idx_of dd q hqd
        have hstep := dval_take hlen
        have hle := dval_take_le dd.data.toList (q + 1)
        rw [Hval.out] at hle
        have hcc : (dd.data.toList[q]'hlen).toNat = dd[q].toNat := rfl
        rw [hcc] at hstep
        have hv' := hv.out
        obtain ⟨c, hc⟩ : ∃ c : Int, c = (dd[q].toNat : Int) := ⟨_, rfl⟩
        have c1 : 48 ≤ c := by omega
        have c2 : c ≤ 57 := by omega
        rw [← hc] at hix
        have hfit : v * 10 + (c - 48) ≤ 18446744073709551615 := by omega
        have hnew : Aside (v * 10 + (c - 48) = (dval (dd.data.toList.take (q + 1)) : Int)) := by
          show _ = _
          omega
        have v0 : 0 ≤ v := by omega
        have o1 : binOp .sub 22 (.int .u64 18446744073709551615) (.int .u64 (c - 48)) = pure (.int .u64 (18446744073709551615 - (c - 48))) := by
          rw [binOp_sub]; simp only [Op.intArith, IntKind.wrap_u64]
          rw [Int.emod_eq_of_lt (by omega) (by omega)]
        obtain ⟨y, hy⟩ : ∃ y : Int, y = 18446744073709551615 - (c - 48) := ⟨_, rfl⟩
        rw [← hy] at o1
        have o2 : binOp .quo 22 (.int .u64 y) (.int .u64 10) = pure (.int .u64 (y / 10)) := by
          rw [binOp_quo]
          unfold Op.intDiv
          rw [if_neg (by decide)]
          simp only [IntKind.wrap_u64]
          rw [Int.tdiv_eq_ediv_of_nonneg (by omega), Int.emod_eq_of_lt (by omega) (by omega)]
        obtain ⟨z, hzy⟩ : ∃ z : Int, z = y / 10 := ⟨_, rfl⟩
        rw [← hzy] at o2
        have hvz : v ≤ z := by omega
        have o3 : binOp .gtr 22 (.int .u64 v) (.int .u64 z) = pure (.bool false) := by
          have : ¬ z < v := by omega
          rw [binOp_gtr]
          simp [this]
        have o4 : binOp .mul 22 (.int .u64 v) (.int .u64 10) = pure (.int .u64 (v * 10)) := by
          rw [binOp_mul]; simp only [Op.intArith, IntKind.wrap_u64]
          rw [Int.emod_eq_of_lt (by omega) (by omega)]
        have o5 : binOp .add 22 (.int .u64 (v * 10)) (.int .u64 (c - 48)) = pure (.int .u64 (v * 10 + (c - 48))) := by
          rw [binOp_add]; simp only [Op.intArith, IntKind.wrap_u64]
          rw [Int.emod_eq_of_lt (by omega) (by omega)]
        clear hstep hle hcc hv' hc hfit v0 hy hzy hvz hlen d1 d2
        go_wp2
        go_roundg (gk - 1)
        case measure => omega
        case rel => exact ⟨q + 1, _, by omega, by go_num, rfl, hnew.out, rfl⟩
      · have hql : q = l := by omega
        have hv2 : Aside (v = (u : Int)) := by
          show v = _
          rw [hv.out, hql]
          have hsz2 := Hsz.out
          rw [List.take_of_length_le (by simp; exact Nat.le_of_eq hsz2), Hval.out]
        clear hv
        go_wp2
        go_ret2
        exact ⟨ret_two hv2.out, rfl⟩
end Go.Proofs.Qxb6604775aDoor
