/-
  THE PROOF OF 'Rows.FnRoleSetsIndexByContentSaid'.
-/
import Derived.Test.Qxb6003361aRows
import Derived.Test.Qxb6003361aRoP
import Derived.WalkKit
import Derived.ProofKit
import Derived.OpenShut
import Derived.ChangeOld
import Derived.Below
import Derived.Deep.Slices
import Derived.Deep.Strs
namespace Go.Proofs.Qxb6003361a.fnRoleSetsIndexByContent
open Go.ChangeShapes Go.WideShapes Go.ChangeAt Go.RowKit

theorem own : ownKnob Try.prog.godebug = none := by kernel_rfl
theorem laidOut : laidOutB Try.prog = true := by kernel_rfl
theorem cells9 : Try.prog.cellsOf 9 = 1 := by kernel_rfl
theorem cells56 : Try.prog.cellsOf 56 = 1 := by kernel_rfl

/-- one list of strings that came in -/
theorem row_of {H : Type} {enc : TypeId × Value → H} {W : World} {fuel : Nat} {v : Value} {x : DataW H × List MemPlace} (h : DataW.trod enc Try.prog W 0 (fun _ => true) true fuel 56 [v] = some x) :
    ∃ (r : List ByteArray) (bo : Option Addr) (c : Nat), v = .slice bo r.length c ∧ Strs W bo r ∧ r.length ≤ 9223372036854775807 ∧ ∀ j (h' : j < r.length), r[j].size ≤ 9223372036854775807 := by
  rcases Go.Deep.open_strs Try.underlying56 Try.underlying9 cells9 h with ⟨hcs, _⟩ | ⟨a, len, cap, m, Sx, hcs, _, hl, hm, hmm, _, hx⟩
  · injection hcs with hcs
    exact ⟨[], none, 0, hcs, fun i hi => absurd hi (by simp), by simp, fun j hj => absurd hj (by simp)⟩
  · injection hcs with hcs
    have hlm : len ≤ m := by rw [hmm]; simp; exact hl
    refine ⟨(List.range len).map Sx, some a, cap, by simpa using hcs, ?_, ?_, ?_⟩
    · intro i hi
      have hi' : i < len := by simpa using hi
      exact ⟨a, rfl, by rw [(hx i (by omega)).1]; simp⟩
    · unfold maxLen at hm
      simp; omega
    · intro j hj
      have hj' : j < len := by simpa using hj
      have := (hx j (by omega)).2
      unfold maxLen at this
      simpa using this

/-- the lists that came in -/
theorem script_of {H : Type} {enc : TypeId × Value → H} {W : World} {fuel : Nat} {a0 : Option Addr} {len0 cap0 : Nat} {x : DataW H × List MemPlace} (h : DataW.trod enc Try.prog W 0 (fun _ => true) true fuel 49 [.slice a0 len0 cap0] = some x) :
    ∃ R, Script W a0 R ∧ Fits R ∧ R.length = len0 ∧ len0 ≤ 9223372036854775807 := by
  rcases Go.Deep.open_slice1 Try.underlying49 cells56 h with ⟨hcs, _⟩ | ⟨a, len, cap, m, k, V, D, Pl, hcs, _, hl, hm, hmm, _, hx⟩
  · injection hcs with hcs
    injection hcs with e1 e2 e3
    subst e2
    exact ⟨[], fun i hi => absurd hi (by simp), fun i hi => absurd hi (by simp), rfl, by omega⟩
  · injection hcs with hcs
    injection hcs with e1 e2 e3
    subst e1; subst e2; subst e3
    have hlm : len0 ≤ m := by rw [hmm]; simp; exact hl
    unfold maxLen at hm
    obtain ⟨f, hf⟩ := Go.Deep.choose_lt (α := List ByteArray) (n := len0) (p := fun i r => ∃ (bo : Option Addr) (c : Nat), V i = .slice bo r.length c ∧ Strs W bo r ∧ r.length ≤ 9223372036854775807 ∧ ∀ j (h' : j < r.length), r[j].size ≤ 9223372036854775807)
      (fun i hi => row_of (hx i (by omega)).2)
    refine ⟨(List.range len0).map f, ?_, ?_, by simp, by omega⟩
    · intro i hi
      have hi' : i < len0 := by simpa using hi
      obtain ⟨bo, c, hv, hS, _⟩ := hf i hi'
      have eg : ((List.range len0).map f)[i] = f i := by simp
      rw [eg]
      exact ⟨a, bo, c, rfl, by rw [(hx i (by omega)).1, hv], hS⟩
    · intro i hi
      have hi' : i < len0 := by simpa using hi
      obtain ⟨bo, c, hv, hS, h3⟩ := hf i hi'
      have eg : ((List.range len0).map f)[i] = f i := by simp
      rw [eg]
      exact h3

set_option maxRecDepth 100000 in
theorem lifted (os : Os) (started : os.Started) (H : Type) (enc : TypeId × Value → H) :
    ReturnsInHanded {} Try.checked os 9 .any (Rows.fnRoleSetsIndexByContentSpec.pre6 enc Try.prog Try.f9 Rows.fnRoleSetsIndexByContentRow.domain false) (Rows.fnRoleSetsIndexByContentSpec.post enc Try.prog Try.f9 false true false false) := by
  refine returnsInHanded_of_change (C := Try.checked) own started (by kernel_rfl) Try.func9
    (ChangeSpec.witness6 (enc := enc) (C := Try.checked) false ⟨#[], #[.slice none 0 0], []⟩ 8 (by kernel_rfl) (by kernel_rfl) (by kernel_rfl) (by kernel_rfl)) ?_
  intro W base args ds gs before hval0 hW hcnd _
  have hval : ∀ (j : Nat) t v, Try.f9.params[j]? = some t → args[j]? = some v → Value.okWide Try.prog W .any base t v := hval0
  have hW' := hW
  obtain ⟨p, q, hA0, hV, rfl, hfz, hnd⟩ := hW
  have hA : DataW.TrodAll enc Try.prog W 0 (fun _ => true) true Try.f9.params.toList args.toList ds p := hA0
  rw [Try.params9] at hA hval
  obtain ⟨v0, vs0, d0, ds0, p0, q0, hargs, rfl, rfl, h0, r0⟩ := trodAll_cons hA
  obtain ⟨rfl, rfl, rfl⟩ := trodAll_nil r0
  obtain rfl : args = #[v0] := by cases args; simp_all
  obtain ⟨rfl, rfl⟩ := trodVars_none hV
  obtain ⟨a0, len0, cap0, rfl⟩ := okWide_slice Try.underlying49 (hval 0 49 v0 rfl rfl)
  have k0 := h0
  have lt0 : ∀ x ∈ p0, x.block < W.heap.size := by obtain ⟨m, hm⟩ := k0; exact DataW.trod_lt m _ _ _ hm
  obtain ⟨R, hS, hF, hl, hn⟩ : ∃ R, Script W a0 R ∧ Fits R ∧ R.length = len0 ∧ len0 ≤ 9223372036854775807 := by
    obtain ⟨fuel, hf⟩ := h0
    exact script_of (by simpa [Value.cells] using hf)
  clear hA0 hval0
  refine (law_walk W a0 len0 cap0 R hS hF hl hn).mono fun e W' ⟨he, bel⟩ => ?_
  subst he
  exact ⟨_, rfl, _, _, _, [], _, [], hW', trodAll_mk1 (shut_bool Try.underlying4 _), (trodAll_cons_mk (Below.trod laidOut (by kernel_rfl) (of_decide_eq_true (by kernel_rfl)) k0 bel lt0) trodAll_mk0), rfl, bel.frame _, fun h => by cases h⟩

theorem over : Rows.fnRoleSetsIndexByContentRow.holds Try.pinned (OpenSpec.ofChange Rows.fnRoleSetsIndexByContentSpec) :=
  OpenClaim.holds_of_wide 9 Try.f9 rfl rfl rfl rfl rfl rfl rfl ⟨rfl, rfl, rfl, rfl, rfl⟩ rfl rfl rfl rfl rfl (by kernel_rfl) Try.func9 (by kernel_rfl)
    (of_decide_eq_true (by kernel_rfl)) (by unfold Func.isWrapper; first | (rw [if_pos (by decide +kernel)]; kernel_rfl) | (rw [if_neg (by decide +kernel)]; exact ⟨rfl, rfl⟩))
    (fun os started H enc _ => lifted os started H enc)

/-- THE STATEMENT -/
theorem proved : Rows.FnRoleSetsIndexByContentSaid := over
end Go.Proofs.Qxb6003361a.fnRoleSetsIndexByContent
