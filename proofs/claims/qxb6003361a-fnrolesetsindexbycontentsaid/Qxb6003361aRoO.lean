import Derived.Test.Qxb6003361aRoN
import Derived.Test.Qxb6003361aRoC
namespace Go.Proofs.Qxb6003361a
open Go.RowKit Go.Maps

/-- the outer loop's invariant: k lists are done -/
structure Outer (R : List (List ByteArray)) (w1 : World) (σ k : Nat) (fv : Value) (wr : World) (D : List (List ByteArray)) (fs : List Value) : Prop where
  st : State wr σ fv D fs
  fo : FirstsOk wr σ D fs
  bl : Below σ w1 wr
  nd : D.Nodup
  from_ : ∀ d ∈ D, d ∈ R
  len : D.length ≤ k

theorem adds_len {D D' : List (List ByteArray)} {r : List ByteArray} (h : Adds D r D') : D'.length ≤ D.length + 1 := by
  rcases h with ⟨_, rfl⟩ | ⟨_, rfl⟩ <;> simp
theorem adds_nodup {D D' : List (List ByteArray)} {r : List ByteArray} (h : Adds D r D') (nd : D.Nodup) : D'.Nodup := by
  rcases h with ⟨_, rfl⟩ | ⟨h, rfl⟩
  · exact nd
  · rw [List.nodup_append]
    exact ⟨nd, by simp, fun a ha b hb => by simp at hb; subst hb; intro e; subst e; exact h ha⟩
theorem nodup_idx {D : List (List ByteArray)} (nd : D.Nodup) {i j : Nat} {r : List ByteArray} (h1 : D[i]? = some r) (h2 : D[j]? = some r) : i = j := by
  obtain ⟨hi, e1⟩ := List.getElem?_eq_some_iff.1 h1
  obtain ⟨hj, e2⟩ := List.getElem?_eq_some_iff.1 h2
  have hp := List.pairwise_iff_getElem.1 nd
  rcases Nat.lt_trichotomy i j with h | h | h
  · exact absurd (e1.trans e2.symm) (hp i j hi hj h)
  · exact h
  · exact absurd (e2.trans e1.symm) (hp j i hj hi h)
end Go.Proofs.Qxb6003361a
