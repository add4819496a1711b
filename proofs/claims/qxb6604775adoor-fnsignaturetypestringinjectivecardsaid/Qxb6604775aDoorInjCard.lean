/-
  THE CARD OF 'FnSignatureTypeStringInjective': the proved row, closed by the builder's one call over the given tie.
-/
import Derived.Test.Qxb6604775aDoorInjProof
namespace Go.Proofs.Qxb6604775aDoor
open Go

/-- THE STATEMENT -/
theorem injective_card : Rows.FnSignatureTypeStringInjectiveCardSaid :=
  Claim7.holds_tied_plain_at .later [] [.data, .data, .data] true (true, "aabb19023260ec99db2a2215ae01c40e01d74b30a5bb84a3f6adc3db7da73d9a") true
    inj_row (fun _ h => by cases h) (by kernel_rfl) (fun _ h => by cases h) fnSignatureTypeStringInjective_row_tie rfl ⟨rfl, rfl⟩ (by kernel_rfl) rfl
    (fun f fn hf hfn => by
      obtain rfl : f = 4 := Option.some.inj ((show Tryd.prog.funcNamed Rows.fnSignatureTypeStringInjectiveRow.func = some 4 by kernel_rfl).symm.trans hf) |>.symm
      obtain rfl : fn = Tryd.f4 := (Option.some.inj (Tryd.func4.symm.trans hfn)).symm
      exact ⟨by kernel_rfl, fun j t ht => by
        rw [Tryd.params4] at ht
        have h3 : t = 22 := by
          rcases j with _ | _ | j
          · simpa using ht.symm
          · simpa using ht.symm
          · simp at ht
        subst h3
        exact (show Tryd.prog.wantsStandIn 22 = false by kernel_rfl)⟩)
    (by kernel_rfl)
end Go.Proofs.Qxb6604775aDoor
