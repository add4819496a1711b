import Derived.Test.Qxb6003361aRoM
namespace Go.Proofs.Qxb6003361a
open Go.RowKit Go.Maps

/-- the law's own list of first lists -/
def FirstsOk (w : World) (σ : Nat) (D : List (List ByteArray)) (fs : List Value) : Prop :=
  fs.length = D.length ∧ ∀ (i : Nat) (d : List ByteArray) (x : Value), D[i]? = some d → fs[i]? = some x → ∃ ao c, x = .slice ao d.length c ∧ Strs w ao d ∧ ∀ a, ao = some a → a.block < σ
theorem FirstsOk.below {w w' : World} {σ : Nat} {D : List (List ByteArray)} {fs : List Value} (h : FirstsOk w σ D fs) (hB : Below σ w w') : FirstsOk w' σ D fs := by
  refine ⟨h.1, fun i d x h1 h2 => ?_⟩
  obtain ⟨ao, c, e, hS, hb⟩ := h.2 i d x h1 h2
  exact ⟨ao, c, e, hS.lower hB hb, hb⟩
theorem FirstsOk.push {w : World} {σ : Nat} {D : List (List ByteArray)} {fs : List Value} (h : FirstsOk w σ D fs) {ao : Option Addr} {c : Nat} {r : List ByteArray} (hr : Strs w ao r) (hb : ∀ a, ao = some a → a.block < σ) :
    FirstsOk w σ (D ++ [r]) (fs ++ [.slice ao r.length c]) := by
  refine ⟨by simp [h.1], fun i d x h1 h2 => ?_⟩
  by_cases hi : i < D.length
  · rw [List.getElem?_append_left hi] at h1
    rw [List.getElem?_append_left (by rw [h.1]; exact hi)] at h2
    exact h.2 i d x h1 h2
  · have hi' : i = D.length := by
      have := (List.getElem?_eq_some_iff.1 h1).1
      simp at this; omega
    subst hi'
    rw [List.getElem?_append_right (Nat.le_refl _)] at h1
    rw [List.getElem?_append_right (by rw [h.1]; exact Nat.le_refl _)] at h2
    simp [h.1] at h1 h2
    subst h1; subst h2
    exact ⟨ao, c, rfl, hr, hb⟩

theorem State.below {w w' : World} {σ : Nat} {fv : Value} {D : List (List ByteArray)} {fs : List Value} (h : State w σ fv D fs) (hB : Below w.heap.size w w') : State w' σ fv D fs := by
  rcases h with ⟨rfl, h⟩ | ⟨lv, sv, b, last, cs, h, hm, h2⟩
  · exact .inl ⟨rfl, h.below hB⟩
  · exact .inr ⟨lv, sv, b, last, cs, h.below hB, hm.same fun k _ _ hk => hB.block k (lt_of_block hk), h2⟩
theorem State.drewN {w : World} {σ : Nat} {fv : Value} {D : List (List ByteArray)} {fs : List Value} (h : State w σ fv D fs) (n : Nat) : State (w.drewN n) σ fv D fs :=
  h.below (Below.drewN' _ _ _)
theorem State.first {w w' : World} {σ : Nat} {fv : Value} {D : List (List ByteArray)} {fs : List Value} (h : State w σ fv D fs) {x fv' : Value} (hg : w.grownBy w' fv.ownBlock)
    (ho : w'.ownsRow (σ + 1) 56 1 fv' (fs.length + 1) (fs ++ [x])) (hat : fv'.ownBlock = fv.ownBlock ∨ fv'.ownBlock = some w.heap.size) : State w' σ fv' D (fs ++ [x]) := by
  rcases h with ⟨rfl, h⟩ | ⟨lv, sv, b, last, cs, h, hm, h2⟩
  · exact .inl ⟨rfl, h.first hg ho hat⟩
  · refine .inr ⟨lv, sv, b, last, cs, h.first hg ho hat, hm.same fun k es cl hk => hg.block k (lt_of_block hk) ?_, h2⟩
    intro e1
    rcases h.firsts.2 with ⟨rfl, _⟩ | ⟨g, cap, cur', rfl, _, hh, _⟩
    · cases e1
    · cases e1
      rw [hk] at hh
      cases hh

theorem Script.lower {w w' : World} {σ : Nat} {ao : Option Addr} {R : List (List ByteArray)} (h : Script w ao R) (hσ : w.heap.size ≤ σ) (hB : Below σ w w') : Script w' ao R :=
  h.below (hB.mono hσ)

theorem state_new (w : World) : State (w.alloc (.cells #[.slice none 0 0, .map none, .slice none 0 0, .int .u32 0] 68)) w.heap.size (.slice none 0 0) [] [] := by
  refine .inl ⟨rfl, ?_, World.ownsRow_nil _ _ _ _, ?_, World.ownsRow_nil _ _ _ _, .inl rfl, ⟨0, [], World.ownsRow_nil _ _ _ _⟩⟩
  · exact heap_alloc_new w _
  · intro i d c h1
    simp at h1
end Go.Proofs.Qxb6003361a
