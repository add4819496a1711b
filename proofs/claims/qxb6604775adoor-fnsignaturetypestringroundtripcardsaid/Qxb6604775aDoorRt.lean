import Derived.Test.Qxb6604775aDoorParse
namespace Go.Proofs.Qxb6604775aDoor
open Go.RowKit Go.Sort Go.Lib

theorem bytes_ext {a b : ByteArray} (h : a.data.toList = b.data.toList) : a = b := by
  apply ByteArray.ext
  exact Array.toList_inj.1 h
theorem pre_len : pre.length = 14 := rfl
theorem numbered_len (u : Nat) : (numbered u).length = (Lib.decDigits u).length + 15 := by
  unfold numbered
  simp [pre_len]
  omega
theorem ext1 (u : Nat) : (⟨(numbered u).toArray⟩ : ByteArray).extract 0 14 = ⟨#[83, 105, 103, 110, 97, 116, 117, 114, 101, 84, 121, 112, 101, 40]⟩ := by
  apply bytes_ext
  rw [ByteArray.data_extract]
  simp [numbered, pre]
theorem ext3 (u l : Nat) (hl : l = (Lib.decDigits u).length) : (⟨(numbered u).toArray⟩ : ByteArray).extract 14 (l + 14) = ⟨(Lib.decDigits u).toArray⟩ := by
  subst hl
  apply bytes_ext
  rw [ByteArray.data_extract]
  simp [numbered, pre]

theorem parse_any (u : Nat) (h1 : 1 ≤ u) (hu : u < 18446744073709551616) (w : World) :
    Calls Tryd.prog 7 #[.string ⟨(numbered u).toArray⟩] w fun e w' => e = .returned (.tuple #[.int .u64 (u : Int), .bool true]) ∧ w' = w := by
  have hl20 : (Lib.decDigits u).length ≤ 20 := by
    rw [Lib.decDigits_length]
    have := Lib.numDigits_eq u (by omega) hu; split at this <;> omega
  have hl1 : 1 ≤ (Lib.decDigits u).length := by rw [Lib.decDigits_length]; exact Lib.nDigits_pos u
  have hnl := numbered_len u
  obtain ⟨c, r, hcr, hc48⟩ := dec_head u h1
  have hsz : (⟨(Lib.decDigits u).toArray⟩ : ByteArray).size = (Lib.decDigits u).length := by simp [ByteArray.size]
  refine parse_core _ ⟨(Lib.decDigits u).toArray⟩ (Lib.decDigits u).length u hu hl1 hl20 ?_ hsz (ext1 u) (ext3 u _ rfl) ?_ ?_ (c.toNat : Int) ?_ ?_ ?_ w
  · simp [ByteArray.size]; omega
  · intro h
    have e : (⟨(numbered u).toArray⟩ : ByteArray)[(Lib.decDigits u).length + 14] = (numbered u)[(Lib.decDigits u).length + 14]'(by omega) := rfl
    rw [e]
    have e2 : numbered u = (pre ++ Lib.decDigits u) ++ [41] := rfl
    simp only [e2]
    rw [List.getElem_append_right (by simp [pre_len]; omega)]
    simp
  · intro i h
    have e : (⟨(Lib.decDigits u).toArray⟩ : ByteArray)[i] = (Lib.decDigits u)[i]'(by omega) := rfl
    rw [e]
    exact dec_digit u _ (List.getElem_mem _)
  · intro w
    have := idx_of ⟨(Lib.decDigits u).toArray⟩ 0 (by omega) w
    have e : (⟨(Lib.decDigits u).toArray⟩ : ByteArray)[0]'(by omega) = (Lib.decDigits u)[0]'(by omega) := rfl
    rw [e] at this
    have e2 : (Lib.decDigits u)[0]'(by omega) = c := by simp [hcr]
    rw [e2] at this
    exact this
  · simp; omega
  · show dval (Lib.decDigits u) = u
    exact dval_dec u

set_option maxHeartbeats 800000 in
theorem walk3 (u : Nat) (hu : u < 18446744073709551616) (w : World) (htab : Tab w) :
    Calls Tryd.prog 3 #[.int .u64 (u : Int)] w fun e w' => e = .returned (.bool true) ∧ Below w.heap.size w w' := by
  by_cases h0 : u = 0
  · subst h0
    go_enter Tryd.func3, Tryd.ntmps3
    go_wp2_with fail
    refine (string6 0 (by omega) _ htab).mono ?_
    rintro e w1 ⟨rfl, k1, os1, hw1⟩
    have hB1 : Below w.heap.size w w1 := by rw [hw1]; exact Lib.below_grow _ _ (Nat.le_refl _) _ _
    clear hw1
    have et : textOf 0 = [100, 105, 103, 101, 115, 116, 45, 115, 104, 97, 50, 53, 54] := rfl
    rw [et]
    go_wp2
    go_ret
    exact ⟨rfl, hB1⟩
  · by_cases h4 : u = 4
    · subst h4
      go_enter Tryd.func3, Tryd.ntmps3
      go_wp2_with fail
      refine (string6 4 (by omega) _ htab).mono ?_
      rintro e w1 ⟨rfl, k1, os1, hw1⟩
      have hB1 : Below w.heap.size w w1 := by rw [hw1]; exact Lib.below_grow _ _ (Nat.le_refl _) _ _
      clear hw1
      have et : textOf 4 = [104, 109, 97, 99, 45, 115, 104, 97, 50, 53, 54] := rfl
      rw [et]
      go_wp2
      go_ret
      exact ⟨rfl, hB1⟩
    · have e0 : ((u : Int) == 0) = false := by simp; omega
      have e4 : ((u : Int) == 4) = false := by simp; omega
      have et : textOf u = numbered u := by unfold textOf; rw [if_neg h0, if_neg h4]
      have hS := string6 u hu w htab
      rw [et] at hS
      have hP := fun w => parse_any u (by omega) hu w
      clear et
      generalize (⟨(numbered u).toArray⟩ : ByteArray) = s at *
      go_enter Tryd.func3, Tryd.ntmps3
      go_wp2_with fail
      refine hS.mono ?_
      rintro e w1 ⟨rfl, k1, os1, hw1⟩
      have hB1 : Below w.heap.size w w1 := by rw [hw1]; exact Lib.below_grow _ _ (Nat.le_refl _) _ _
      clear hw1 h0 h4
      go_wp2_with fail
      refine (hP w1).mono ?_
      rintro e w2 ⟨rfl, rfl⟩
      go_wp2
      go_ret
      exact ⟨rfl, hB1⟩
end Go.Proofs.Qxb6604775aDoor
