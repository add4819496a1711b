/-
  THE PROOF OF 'Rows.FnSignatureTypeStringInjectiveCardSaid'. The frame is after the kit's worked example Mapy; the walk is the prover's own.
-/
import Derived.Test.Qxb6604775aDoorInj
import Derived.Test.Qxb6604775aDoorTie
import Derived.Test.Qxb6604775aDoorCards
import Derived.ProofKit
import Derived.LaidMore
import Derived.OpenShut
import Derived.Stop.Joined
import Derived.Stop.LaidErr
import Derived.SevenTiedAt
namespace Go.Proofs.Qxb6604775aDoor
open Go.ChangeShapes Go.WideShapes Go.ChangeAt Go.RowKit Go.Lib

theorem own : ownKnob Tryd.prog.godebug = none := by kernel_rfl

/-- what both rows list -/
def laid3 : List (String × DataW Unit) := Rows.fnSignatureTypeStringInjectiveRow.laid

theorem door_met (os : Os) (args : Array Value) : laidMetH Tryd.prog laid3 ((World.doorLaid Tryd.prog 400 os).forCall (fun _ _ => 0) ⟨#[], args, []⟩).memory :=
  laidMetH_of_parts3 (fuel := 8) (laidMet_of_run' 8 (by kernel_rfl) (by kernel_rfl)) (by kernel_rfl) (by kernel_rfl)

theorem tab_of_laid {W : World} (h : laidMetH Tryd.prog laid3 W) : Tab W := by
  rw [MakeChecks.laidMetH_plain _ _ _ (by kernel_rfl)] at h
  have h1 : laidMet Tryd.prog (laid3.getD 0 (powName, .nil) :: laid3.getD 1 (powName, .nil) :: (powName, tabData .u64 pow10Tab) :: []) W := h
  exact tabIs_of_head (P := Tryd.prog) (W := W) (name := powName) (k := .u64) (zs := pow10Tab) (rest := []) (g := 1) (t := 63) (e := 22) (n := 20) (by kernel_rfl) (by kernel_rfl) Tryd.underlying63 Tryd.underlying22 (by kernel_rfl) (by kernel_rfl) (laidMet.tail (laidMet.tail h1))

set_option maxRecDepth 100000 in
theorem inj_lifted (os : Os) (started : os.Started) (H : Type) (enc : TypeId × Value → H) :
    ReturnsInHanded {} Tryd.checked os 4 .any (fun w args => (Rows.fnSignatureTypeStringInjectiveSpec.pre enc Tryd.prog Tryd.f4 [] false w args ∧ laidMetH Tryd.prog laid3 w) ∧ sizedMet enc Tryd.prog Tryd.f4 (OpenSpec.ofChange Rows.fnSignatureTypeStringInjectiveSpec) false w args)
      (Rows.fnSignatureTypeStringInjectiveSpec.post enc Tryd.prog Tryd.f4 false true false false) := by
  refine returnsInHanded_of_change_and (C := Tryd.checked) (X := fun w _ => laidMetH Tryd.prog laid3 w) (fun _ _ _ hh h => h.of_heap hh) own started (by kernel_rfl) Tryd.func4
    (ChangeSpec.witness_shaped (enc := enc) (C := Tryd.checked) (os := os) (X := fun w _ => laidMetH Tryd.prog laid3 w) false (World.doorLaid Tryd.prog 400 os) #[.int .u64 0, .int .u64 0] 8 rfl (World.shaped_of_RefB (by kernel_rfl) (by kernel_rfl)) (by kernel_rfl) (by kernel_rfl) (by kernel_rfl) (door_met os _)) ?_
  intro W base args ds gs before hval0 hW _ _ hL _
  have hval : ∀ (j : Nat) t v, Tryd.f4.params[j]? = some t → args[j]? = some v → Value.okWide Tryd.prog W .any base t v := hval0
  have hW' := hW
  obtain ⟨p, q, hA0, hV, rfl, hfz, hnd⟩ := hW
  have hA : DataW.TrodAll enc Tryd.prog W 0 (fun _ => true) true Tryd.f4.params.toList args.toList ds p := hA0
  rw [Tryd.params4] at hA hval
  obtain ⟨v0, v1, d0, d1, p0, p1, rfl, rfl, rfl, h0, h1⟩ := trodAll_two hA
  obtain ⟨rfl, rfl⟩ := trodVars_none hV
  obtain ⟨a0, rfl, rfl, rfl, w0⟩ := open_int Tryd.underlying22 (hval 0 22 v0 rfl rfl) h0
  obtain ⟨a1, rfl, rfl, rfl, w1⟩ := open_int Tryd.underlying22 (hval 1 22 v1 rfl rfl) h1
  clear hA0 hval0
  simp only [List.append_nil] at hW'
  have htab := tab_of_laid hL
  obtain ⟨b0, b0'⟩ := bounds_u64 w0
  obtain ⟨b1, b1'⟩ := bounds_u64 w1
  obtain ⟨x, rfl⟩ : ∃ x : Nat, a0 = x := ⟨a0.toNat, by omega⟩
  obtain ⟨y, rfl⟩ : ∃ y : Nat, a1 = y := ⟨a1.toNat, by omega⟩
  refine (walk4 x y (by omega) (by omega) W htab).mono fun e W' ⟨he, bel⟩ => ?_
  subst he
  exact ⟨_, rfl, _, _, _, [], [], [], hW', trodAll_mk1 (shut_bool Tryd.underlying4 _), trodAll_mk2 (shut_int Tryd.underlying22 w0) (shut_int Tryd.underlying22 w1), rfl, bel.frame _, fun h => by cases h⟩

theorem inj_row : Rows.FnSignatureTypeStringInjectiveSaid :=
  OpenClaim.holds_of_wide 4 Tryd.f4 rfl rfl rfl rfl rfl rfl rfl ⟨rfl, rfl, rfl, rfl, rfl⟩ rfl rfl rfl rfl rfl (by kernel_rfl) Tryd.func4 (by kernel_rfl)
    (of_decide_eq_true (by kernel_rfl)) (by unfold Func.isWrapper; first | (rw [if_pos (by decide +kernel)]; kernel_rfl) | (rw [if_neg (by decide +kernel)]; exact ⟨rfl, rfl⟩))
    (fun os started H enc _ => inj_lifted os started H enc)
end Go.Proofs.Qxb6604775aDoor
