import Derived.Test.Qxb6003361aRoE
namespace Go.Proofs.Qxb6003361a
open Go.RowKit

theorem ofNat_toNat {n : Nat} (h : n < 256) : (UInt8.ofNat n).toNat = n := UInt8.toNat_ofNat_of_lt' (by show n < 256; exact h)

/-- a number's bytes can be told from what follows -/
theorem uv_cut (x : Nat) : ∀ (y : Nat) (p q : List UInt8), uv x ++ p = uv y ++ q → x = y ∧ p = q := by
  induction x using Nat.strongRecOn with
  | _ x ih =>
    intro y p q h
    by_cases hx : x < 128
    · by_cases hy : y < 128
      · rw [uv_small hx, uv_small hy] at h
        simp only [List.cons_append, List.nil_append, List.cons.injEq] at h
        have e := congrArg UInt8.toNat h.1
        rw [ofNat_toNat (by omega), ofNat_toNat (by omega)] at e
        exact ⟨e, h.2⟩
      · rw [uv_small hx, uv_big hy] at h
        simp only [List.cons_append, List.nil_append, List.cons.injEq] at h
        have e := congrArg UInt8.toNat h.1
        rw [ofNat_toNat (by omega), ofNat_toNat (by omega)] at e
        omega
    · by_cases hy : y < 128
      · rw [uv_big hx, uv_small hy] at h
        simp only [List.cons_append, List.nil_append, List.cons.injEq] at h
        have e := congrArg UInt8.toNat h.1
        rw [ofNat_toNat (by omega), ofNat_toNat (by omega)] at e
        omega
      · rw [uv_big hx, uv_big hy] at h
        simp only [List.cons_append, List.cons.injEq] at h
        have e := congrArg UInt8.toNat h.1
        rw [ofNat_toNat (by omega), ofNat_toNat (by omega)] at e
        obtain ⟨e2, e3⟩ := ih (x / 128) (by omega) (y / 128) p q h.2
        exact ⟨by omega, e3⟩

theorem uv_ne (x : Nat) (p : List UInt8) : uv x ++ p ≠ [] := by
  by_cases hx : x < 128
  · rw [uv_small hx]; simp
  · rw [uv_big hx]; simp

theorem bytes_ext {x y : ByteArray} (h : x.data.toList = y.data.toList) : x = y := ByteArray.ext (Array.ext' h)

theorem key_inj : ∀ (r s : List ByteArray), key r = key s → r = s
  | [], [], _ => rfl
  | [], y :: t, h => by
    exfalso
    have : key (y :: t) = uv y.size ++ (y.data.toList ++ key t) := by simp [key]
    rw [this] at h
    exact uv_ne _ _ h.symm
  | x :: r, [], h => by
    exfalso
    have : key (x :: r) = uv x.size ++ (x.data.toList ++ key r) := by simp [key]
    rw [this] at h
    exact uv_ne _ _ h
  | x :: r, y :: t, h => by
    have e1 : key (x :: r) = uv x.size ++ (x.data.toList ++ key r) := by simp [key]
    have e2 : key (y :: t) = uv y.size ++ (y.data.toList ++ key t) := by simp [key]
    rw [e1, e2] at h
    obtain ⟨hs, h⟩ := uv_cut _ _ _ _ h
    have hl : x.data.toList.length = y.data.toList.length := hs
    obtain ⟨h1, h2⟩ := List.append_inj h hl
    rw [bytes_ext h1, key_inj r t h2]

/-- slices.Clone -/
theorem strs_one (r : List ByteArray) : ∀ u ∈ r.map Value.string, u.oneCell' = true := by
  intro u hu
  simp only [List.mem_map] at hu
  obtain ⟨s, _, rfl⟩ := hu
  rfl

set_option maxHeartbeats 800000 in
theorem clone59 (w : World) (B : Nat) (ao : Option Addr) (n c : Nat) (r : List ByteArray) (hr : Strs w ao r) (hl : r.length = n) (hn : n ≤ 1048576) (hB : B ≤ w.heap.size) :
    Calls Try.prog 59 #[.slice ao n c] w fun e w' => ∃ ao' c', e = .returned (.slice ao' n c') ∧ w'.ownsRow B 9 1 (.slice ao' n c') n (r.map .string) ∧ Below w.heap.size w w' := by
  obtain ⟨i, hi, hz, hsz, hb⟩ := info_parts info9
  rcases ao with _ | a
  · have h0 : r = [] := by
      cases r with
      | nil => rfl
      | cons x t =>
        obtain ⟨a, e, _⟩ := hr 0 (by simp)
        cases e
    subst h0
    have hnil := nil56_none n c
    have h0 : n = 0 := by simpa using hl.symm
    subst h0
    clear hr hl
    go_enter Try.func59, Try.ntmps59
    go_wp2
    go_ret
    exact ⟨none, 0, rfl, World.ownsRow_nil _ _ _ _, Below.refl _ _⟩
  · have hnil := nil56_some a n c
    have HR : Aside (Strs w (some a) r) := hr
    have L : Hid (r.length = n) := hl
    clear hr hl
    have hown0 : (w.alloc (.cells #[] 9)).ownsRow B 9 1 (.slice (some ⟨w.heap.size, 0, none⟩) 0 0) 0 [] := World.ownsRow_made w #[] 0 hB (by unfold maxLen; omega) (by simp)
    go_enter Try.func59, Try.ntmps59
    go_wp2_with (at_builtin; refine wpList_append_own_at _ rfl _ _ _ rfl B 9 i _ 1 16 Try.underlying56 hi hz hsz hb rfl (by decide) _ _ _ rfl hown0 a n c (r.map .string) rfl ?c0 ?c1 (strs_one _) ?c2 ?c3 ?c4 ?c5)
    case c0 => rw [List.length_map, L.out, Nat.mul_one]
    case c1 =>
      intro j u hj
      obtain ⟨hj', e⟩ := List.getElem?_eq_some_iff.1 hj
      rw [List.length_map] at hj'
      rw [List.getElem_map] at e
      obtain ⟨a', ea, q⟩ := HR.out j hj'
      cases ea
      rw [World.cell?_of_block (w := w) (Below.heap_alloc w _ (a.add j).block (by rw [add_block]; exact lt_of_cell' q)), q, ← e]
    case c2 => unfold maxLen; omega
    case c3 => omega
    case c4 => simp; omega
    case c5 =>
      intro v' w2 hown2 hgrow2 _ hat
      have hBl : Below w.heap.size w w2 := ((Below.refl _ _).alloc (Nat.le_refl _) _).grown hgrow2 (by simp) (by intro k hk; cases hk; exact Nat.le_refl _)
      have R : Aside (∃ ao' c', v' = .slice ao' n c' ∧ w2.ownsRow B 9 1 (.slice ao' n c') n (r.map .string)) := by
        rcases hown2.2 with ⟨rfl, h0⟩ | ⟨g, cap, cur, rfl, _⟩
        · exact ⟨none, 0, by rw [h0], by rw [h0] at hown2 ⊢; exact hown2⟩
        · exact ⟨_, _, rfl, hown2⟩
      clear hown2 hgrow2 hat hown0
      obtain ⟨ao', c', rfl, hown3⟩ := R.out
      clear R
      go_wp2
      go_ret
      exact ⟨_, _, rfl, hown3, hBl⟩
end Go.Proofs.Qxb6003361a
