import Derived.Test.Qxb6604775aDoorRows
import Derived.Test.Qxb6604775aDoorNum
import Derived.Lib.ItoaMem
import Derived.Lib.Walk
import Derived.WalkKit
import Derived.WalkSpells
import Derived.WalkLawsBesides
import Derived.BigCall
import Derived.BigGuard
import Derived.Lib.AppendIntMem
namespace Go.Proofs.Qxb6604775aDoor
open Go.RowKit Go.Sort Go.Lib

/-- the name of the table of the powers of ten, as the row has it -/
def powName : String := Rows.fnSignatureTypeStringRoundTripRow.named.headD ""
/-- the table is as its initialiser lays it -/
def Tab (w : World) : Prop := Lib.TabIs Tryd.prog w powName .u64 Lib.pow10Tab

theorem nd_any (u : Nat) (h1 : 1 ≤ u) (h2 : u < 18446744073709551616) (w : World) (htab : Tab w) :
    Calls Tryd.prog 15 #[.int .u64 u] w fun e w' => e = .returned (.int .i64 (Lib.nDigits u)) ∧ w' = w := Any.internal_strconv_numDigits Tryd.laysM284 u h1 h2 w htab

/-- The new block's bytes are a row of zeros. -/
theorem holds_zero0 (w : World) (T : TypeId) (nd : Nat) (hs : nd ≤ 24) : Holds (fun (b : UInt8) => Value.int .u8 (b.toNat : Int)) (w.alloc (.cells zeros24 T)) w.heap.size 0 (Array.replicate nd (0 : UInt8)) := fun j hj => by
  have hj' : j < nd := by simpa using hj
  refine ⟨?_, World.frozen?_alloc_new _ _ _ _⟩
  rw [World.cell?_alloc_new, zeros24_at _ (by omega), getElem!_pos _ j hj]
  simp

theorem fin0 (w : World) (o : Obj) (dk : Array UInt8) (k : Nat) : ∃ os, (putRow (fun (b : UInt8) => Value.int .u8 (b.toNat : Int)) (w.alloc o) w.heap.size 0 dk).drewN k = grow (w.drewN k) os := by
  rw [alloc_eq_grow]
  obtain ⟨os', _, e⟩ := putRow_grow_new (fun (b : UInt8) => Value.int .u8 (b.toNat : Int)) w #[o] w.heap.size 0 dk (Nat.le_refl _)
  exact ⟨os', by rw [e]; rfl⟩

set_option maxHeartbeats 1600000 in
set_option maxRecDepth 100000 in
theorem fmt12 (u : Nat) (hu64 : u < 18446744073709551616) (w : World) (htab : Tab w) :
    Calls Tryd.prog 12 #[.int .u64 u, .int .i64 10] w fun e w' => e = .returned (.string ⟨(Lib.decDigits u).toArray⟩) ∧ ∃ k os, w' = grow (w.drewN k) os := by
  by_cases hs : u < 100
  · go_enter Tryd.func12, Tryd.ntmps12
    go_wp2_with (go_at_call 14; refine (Tryd.internal_strconv_small u hs _).mono ?_; rintro e w' ⟨rfl, rfl⟩)
    go_ret
    exact ⟨rfl, 0, #[], by simp [World.drewN_zero]⟩
  · have hu1 : 1 ≤ u := by omega
    have hnd20 : Lib.nDigits u ≤ 20 := by have := Lib.numDigits_eq u hu1 hu64; split at this <;> omega
    have hal : Tryd.prog.arrayLen 42 = 24 := by simp [Program.arrayLen, Tryd.underlying42]
    have hsl1 : ∀ W, (Instr.sliceAt 42 (.pointer (some ⟨w.heap.size, 0, none⟩)) none (some (.int .i64 (Lib.nDigits u : Int))) none).run Tryd.prog W = .ok (.slice (some ⟨w.heap.size, 0, none⟩) (Lib.nDigits u) 24) W := fun W => by
      rw [run_sliceAt_array_h W 42 ⟨w.heap.size, 0, none⟩ (by simp [Program.arrayLen, Program.elem, Tryd.underlying42]) .i64 (Lib.nDigits u : Int) (by omega) (by rw [hal]; omega)]
      go_simp
    have hH0 := holds_zero0 w 42 (Lib.nDigits u) (by omega)
    have hfmt := Any.internal_strconv_formatBase10 Tryd.lays285 w.heap.size 0 24 u (Array.replicate (Lib.nDigits u) 0) (w.alloc (.cells Lib.zeros24 42)) hH0 (by rw [Array.size_replicate]; exact Lib.lt_pow_nDigits u) hu64 (by rw [Array.size_replicate]; omega)
    rw [Array.size_replicate] at hfmt
    have HH0 := Lib.hid hH0
    clear hH0 hal
    go_enter Tryd.func12, Tryd.ntmps12
    go_wp2_with (go_at_call 15; refine (nd_any u hu1 hu64 _ (Lib.tabIs_alloc htab _)).mono ?_; rintro e w' ⟨rfl, rfl⟩)
    refine hfmt.mono ?_
    rintro e w' ⟨rfl, k, v', dk, rfl, hF⟩
    have hcv : (convert 45 9 (.slice (some ⟨w.heap.size, 0, none⟩) (Lib.nDigits u) 24)).run Tryd.prog ((putRow (fun (b : UInt8) => Value.int .u8 (b.toNat : Int)) (w.alloc (.cells Lib.zeros24 42)) w.heap.size 0 dk).drewN k) = .ok (.string ⟨(Lib.decDigits u).toArray⟩) ((putRow (fun (b : UInt8) => Value.int .u8 (b.toNat : Int)) (w.alloc (.cells Lib.zeros24 42)) w.heap.size 0 dk).drewN k) := by
      have h := run_convert_bytes_back (P := Tryd.prog) ((putRow (fun (b : UInt8) => Value.int .u8 (b.toNat : Int)) (w.alloc (.cells Lib.zeros24 42)) w.heap.size 0 dk).drewN k) 45 9 5 ⟨w.heap.size, 0, none⟩ 24 (Lib.decDigits u) Tryd.underlying45 Tryd.underlying5 Tryd.underlying9 (fun j hj => by
        rw [Lib.row_is_numeral hF j hj, Lib.add_plain, World.cell?_drewN]
        exact cell?_putRow (fun (b : UInt8) => Value.int .u8 (b.toNat : Int)) _ w.heap.size 0 _ dk HH0.out (by rw [hF.size, Array.size_replicate]) j (by rw [hF.size]; rw [Lib.decDigits_length] at hj; exact hj))
      rw [Lib.decDigits_length] at h
      exact h
    go_wp2
    go_ret
    obtain ⟨os, eo⟩ := fin0 w (.cells Lib.zeros24 42) dk k
    exact ⟨rfl, k, os, eo⟩

theorem fmt10 (u : Nat) (hu64 : u < 18446744073709551616) (w : World) (htab : Tab w) :
    Calls Tryd.prog 10 #[.int .u64 u, .int .i64 10] w fun e w' => e = .returned (.string ⟨(Lib.decDigits u).toArray⟩) ∧ ∃ k os, w' = grow (w.drewN k) os := by
  go_enter Tryd.func10, Tryd.ntmps10
  go_wp2_with (go_at_call 12; refine (fmt12 u hu64 _ htab).mono ?_; rintro e w' ⟨rfl, k, os, hw⟩)
  go_ret
  exact ⟨rfl, k, os, rfl⟩

theorem ret_str {a b : ByteArray} (h : a = b) : Ending.returned (.string a) = .returned (.string b) := by rw [h]
/-! ### the text of a type -/
def pre : List UInt8 := [83, 105, 103, 110, 97, 116, 117, 114, 101, 84, 121, 112, 101, 40]
def numbered (u : Nat) : List UInt8 := pre ++ Lib.decDigits u ++ [41]
def textOf (u : Nat) : List UInt8 := if u = 0 then [100, 105, 103, 101, 115, 116, 45, 115, 104, 97, 50, 53, 54] else if u = 4 then [104, 109, 97, 99, 45, 115, 104, 97, 50, 53, 54] else numbered u

set_option maxHeartbeats 800000 in
theorem string6 (u : Nat) (hu64 : u < 18446744073709551616) (w : World) (htab : Tab w) :
    Calls Tryd.prog 6 #[.int .u64 u] w fun e w' => e = .returned (.string ⟨(textOf u).toArray⟩) ∧ ∃ k os, w' = grow (w.drewN k) os := by
  by_cases h0 : u = 0
  · subst h0
    go_enter Tryd.func6, Tryd.ntmps6
    go_wp2
    go_ret
    exact ⟨rfl, 0, #[], by simp [World.drewN_zero]⟩
  · by_cases h4 : u = 4
    · subst h4
      go_enter Tryd.func6, Tryd.ntmps6
      go_wp2
      go_ret
      exact ⟨rfl, 0, #[], by simp [World.drewN_zero]⟩
    · have e0 : ((u : Int) == 0) = false := by simp; omega
      have e4 : ((u : Int) == 4) = false := by simp; omega
      have hl : (Lib.decDigits u).length ≤ 20 := by
        rw [Lib.decDigits_length]
        have := Lib.numDigits_eq u (by omega) hu64; split at this <;> omega
      have A : Hid (textOf u = numbered u) := by unfold Hid textOf; rw [if_neg h0, if_neg h4]
      generalize hd : Lib.decDigits u = d at *
      have HD : Hid (Lib.decDigits u = d) := hd
      have hf := fun w htab => fmt10 u hu64 w htab
      rw [hd] at hf
      clear hd h0 h4
      go_enter Tryd.func6, Tryd.ntmps6
      go_wp2_with (go_at_call 10; refine (hf _ htab).mono ?_; rintro e w' ⟨rfl, k, os, rfl⟩)
      go_ret
      refine ⟨?_, k, os, rfl⟩
      rw [A.out]
      unfold numbered
      rw [HD.out]
      refine ret_str ?_
      apply ByteArray.ext
      apply Array.toList_inj.1
      simp [pre]
end Go.Proofs.Qxb6604775aDoor
