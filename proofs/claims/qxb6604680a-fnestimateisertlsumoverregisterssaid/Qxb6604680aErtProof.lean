/-
  THE PROOF OF 'Rows.FnEstimateIsErtlSumOverRegistersSaid', in the frame that the kit's proof-skeleton.mjs wrote for it; the walk is the prover's own.
-/
import Derived.Test.Qxb6604680aRows
import Derived.Test.Qxb6604680aErtM
import Derived.WalkKit
import Derived.ProofKit
import Derived.OpenShut
import Derived.ShutString
import Derived.ChangeOld
import Derived.Below
namespace Go.Proofs.Qxb6604680a.fnEstimateIsErtlSumOverRegisters
open Go.ChangeShapes Go.WideShapes Go.ChangeAt Go.RowKit
open Go.ChangeMaps (open_string shut_string)
set_option linter.unusedVariables false

theorem own : ownKnob Try.prog.godebug = none := by kernel_rfl
theorem laidOut : laidOutB Try.prog = true := by kernel_rfl

/-! ### STEP 1: THE WALK -/
theorem walk (a0 : Option Addr) (len0 cap0 : Nat) (z0 : List Int) (w : World) (w0 : IsRow .u8 w a0 len0 cap0 z0) :
    Calls Try.prog 5 #[.slice a0 len0 cap0] w fun e w' => e = .returned (.bool true) ∧ Below w.heap.size w w' := by
  rcases w0 with ⟨rfl, rfl, rfl, rfl⟩ | ⟨x, rfl, hl, hm, hz, hc, hwf⟩
  · exact walk5_other none 0 0 w (by omega) (by omega)
  · unfold maxLen at hm
    by_cases h8 : len0 = 8192
    · have h0 : w.cell? (x.add 0) = some (.int .u8 (z0.getD 0 0)) := hc 0 (by omega)
      obtain ⟨b, off, sp⟩ := x
      cases sp with
      | some s => simp [World.cell?, Addr.add] at h0; split at h0 <;> simp_all
      | none =>
        have hg : ∀ i, i < len0 → (z0.take len0).getD i 0 = z0.getD i 0 := by
          intro i hi
          simp [List.getD, hi]
        refine walk5_main b off len0 cap0 (z0.take len0) w (by omega) (by omega) (fun i hi => ?_) (fun i hi => ?_) (by simp; omega)
        · have := hc i (by omega)
          have ea : Addr.add ⟨b, off, none⟩ i = ⟨b, off + i, none⟩ := by
            unfold Addr.add
            split
            · simp_all
            · rfl
          rw [← ea, hg i hi]
          exact this
        · have hi' : i < z0.length := by omega
          have hgi : z0.getD i 0 = z0[i] := by simp [List.getD, hi']
          have := hwf _ (List.getElem_mem hi')
          rw [hg i hi, hgi]
          have := bounds_u8 this
          omega
    · exact walk5_other (some x) len0 cap0 w (by omega) h8

/-! ### THE ROW's STEP: WRITTEN OUT: LEAVE IT -/
set_option maxRecDepth 100000 in
theorem lifted (os : Os) (started : os.Started) (H : Type) (enc : TypeId × Value → H) :
    ReturnsInHanded {} Try.checked os 5 .any (Rows.fnEstimateIsErtlSumOverRegistersSpec.pre6 enc Try.prog Try.f5 Rows.fnEstimateIsErtlSumOverRegistersRow.domain false) (Rows.fnEstimateIsErtlSumOverRegistersSpec.post enc Try.prog Try.f5 false true false false) := by
  refine returnsInHanded_of_change (C := Try.checked) own started (by kernel_rfl) Try.func5
    (ChangeSpec.witness6 (enc := enc) (C := Try.checked) false ⟨#[], #[.slice none 0 0], []⟩ 8 (by kernel_rfl) (by kernel_rfl) (by kernel_rfl) (by kernel_rfl)) ?_
  intro W base args ds gs before hval0 hW hcnd _
  have hval : ∀ (j : Nat) t v, Try.f5.params[j]? = some t → args[j]? = some v → Value.okWide Try.prog W .any base t v := hval0
  have hW' := hW
  obtain ⟨p, q, hA0, hV, rfl, hfz, hnd⟩ := hW
  have hA : DataW.TrodAll enc Try.prog W 0 (fun _ => true) true Try.f5.params.toList args.toList ds p := hA0
  rw [Try.params5] at hA hval
  obtain ⟨v0, vs0, d0, ds0, p0, q0, hargs, rfl, rfl, h0, r0⟩ := trodAll_cons hA
  obtain ⟨rfl, rfl, rfl⟩ := trodAll_nil r0
  obtain rfl : args = #[v0] := by cases args; simp_all
  obtain ⟨rfl, rfl⟩ := trodVars_none hV
  obtain ⟨a0, len0, cap0, rfl⟩ := okWide_slice Try.underlying25 (hval 0 25 v0 rfl rfl)
  have k0 := h0
  have lt0 : ∀ x ∈ p0, x.block < W.heap.size := by obtain ⟨m, hm⟩ := k0; exact DataW.trod_lt m _ _ _ hm
  obtain ⟨z0, w0⟩ : ∃ zs, IsRow .u8 W a0 len0 cap0 zs := by
    obtain ⟨fuel, hf⟩ := h0
    rcases open_ints Try.underlying25 Try.underlying5 (by kernel_rfl) hf with ⟨hcs, _⟩ | ⟨x, l, c, zs, hcs, _, hl, hm, hz, _, hcell, hwz⟩
    · simp [Value.cells] at hcs
      obtain ⟨rfl, rfl, rfl⟩ := hcs
      exact ⟨[], .inl ⟨rfl, rfl, rfl, rfl⟩⟩
    · simp [Value.cells] at hcs
      obtain ⟨rfl, rfl, rfl⟩ := hcs
      exact ⟨zs, .inr ⟨_, rfl, hl, hm, by simpa using hz, hcell, hwz⟩⟩
  clear hA0 hval0
  refine (walk a0 len0 cap0 z0 W w0).mono fun e W' ⟨he, bel⟩ => ?_
  subst he
  exact ⟨_, rfl, _, _, _, [], _, [], hW', trodAll_mk1 (shut_bool Try.underlying4 _), (trodAll_cons_mk (Below.trod laidOut (by kernel_rfl) (of_decide_eq_true (by kernel_rfl)) k0 bel lt0) trodAll_mk0), rfl, bel.frame _, fun h => by cases h⟩

theorem over : Rows.fnEstimateIsErtlSumOverRegistersRow.holds Try.pinned (OpenSpec.ofChange Rows.fnEstimateIsErtlSumOverRegistersSpec) :=
  OpenClaim.holds_of_wide 5 Try.f5 rfl rfl rfl rfl rfl rfl rfl ⟨rfl, rfl, rfl, rfl, rfl⟩ rfl rfl rfl rfl rfl (by kernel_rfl) Try.func5 (by kernel_rfl)
    (of_decide_eq_true (by kernel_rfl)) (by unfold Func.isWrapper; first | (rw [if_pos (by decide +kernel)]; kernel_rfl) | (rw [if_neg (by decide +kernel)]; exact ⟨rfl, rfl⟩))
    (fun os started H enc _ => lifted os started H enc)

/-- THE STATEMENT -/
theorem proved : Rows.FnEstimateIsErtlSumOverRegistersSaid := over
end Go.Proofs.Qxb6604680a.fnEstimateIsErtlSumOverRegisters
