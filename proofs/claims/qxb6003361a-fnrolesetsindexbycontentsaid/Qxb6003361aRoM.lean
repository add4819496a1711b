import Derived.Test.Qxb6003361aRoL
namespace Go.Proofs.Qxb6003361a
open Go.RowKit Go.Maps

/-- the state of the role sets that hold the lists D, beside the law's own row fv with the values fs -/
def State (w : World) (σ : Nat) (fv : Value) (D : List (List ByteArray)) (fs : List Value) : Prop :=
  (D = [] ∧ Mem w σ (.slice none 0 0) (.slice none 0 0) fv none 0 [] [] fs) ∨
  ∃ lv sv b last cs, Mem w σ lv sv fv (some b) last D cs fs ∧ MapOk w (some b) D ∧ σ < b ∧ last < D.length

theorem State.mem {w : World} {σ : Nat} {fv : Value} {D : List (List ByteArray)} {fs : List Value} (h : State w σ fv D fs) : ∃ lv sv mo last cs, Mem w σ lv sv fv mo last D cs fs := by
  rcases h with ⟨rfl, h⟩ | ⟨lv, sv, b, last, cs, h, _⟩
  · exact ⟨_, _, _, _, _, h⟩
  · exact ⟨_, _, _, _, _, h⟩

theorem of51 {w : World} {σ : Nat} {fv : Value} {D : List (List ByteArray)} {fs : List Value} (h : State w σ fv D fs) (ao : Option Addr) (n c : Nat) (r : List ByteArray)
    (hb : D.length ≤ 1048576) (hr : Strs w ao r) (hin : ∀ a, ao = some a → a.block < σ) (hn : r.length = n) (hs : SmallL r) (hD : ∀ d ∈ D, SmallL d) :
    Calls Try.prog 51 #[.pointer (some ⟨σ, 0, none⟩), .slice ao n c] w fun e w' => ∃ i D', e = .returned (.int .u32 (i : Nat)) ∧ Adds D r D' ∧ D'[i]? = some r ∧ State w' σ fv D' fs ∧ Below σ w w' := by
  have hn2 : n ≤ 1048576 := by rw [← hn]; exact hs.1
  rcases h with ⟨rfl, h⟩ | ⟨lv, sv, b, last, cs, h, hm, hbm, hl⟩
  · refine (of_first h ao n c r hr hin hn hs).mono ?_
    rintro e w' ⟨lv', sv', cs', b, rfl, h1, h2, h3, h4⟩
    exact ⟨0, [r], rfl, .inr ⟨by simp, rfl⟩, rfl, .inr ⟨_, _, _, _, _, h1, h2, h3, by simp⟩, h4⟩
  · by_cases e : D[last]? = some r
    · refine (of_hit h ao n c r e hb hr hn hn2).mono ?_
      rintro e1 w' ⟨rfl, m, rfl⟩
      exact ⟨last, D, rfl, .inl ⟨List.mem_of_getElem? e, rfl⟩, e, .inr ⟨_, _, _, _, _, h.drewN m, hm.drewN m, hbm, hl⟩, Below.drewN' _ _ _⟩
    · by_cases hmem : r ∈ D
      · obtain ⟨i, hi⟩ := List.getElem?_of_mem hmem
        refine (of_found h hm ao n c i r hl e hb hr hin hn hs hi hD).mono ?_
        rintro e1 w' ⟨sv', rfl, h1, h2, h3⟩
        exact ⟨i, D, rfl, .inl ⟨hmem, rfl⟩, hi, .inr ⟨_, _, _, _, _, h1, h2, hbm, (List.getElem?_eq_some_iff.1 hi).1⟩, h3⟩
      · refine (of_new h hm ao n c r hl e hb hr hin hn hs hmem hbm hD).mono ?_
        rintro e1 w' ⟨lv', sv', cs', rfl, h1, h2, h3⟩
        exact ⟨D.length, D ++ [r], rfl, .inr ⟨hmem, rfl⟩, by simp, .inr ⟨_, _, _, _, _, h1, h2, hbm, by simp⟩, h3⟩

theorem of39 {w : World} {σ : Nat} {fv : Value} {D : List (List ByteArray)} {fs : List Value} (h : State w σ fv D fs) (ao : Option Addr) (n c : Nat) (r : List ByteArray)
    (hb : D.length ≤ 1048576) (hr : Strs w ao r) (hin : ∀ a, ao = some a → a.block < σ) (hn : r.length = n) (hs : SmallL r) (hD : ∀ d ∈ D, SmallL d) :
    Calls Try.prog 39 #[.pointer (some ⟨σ, 0, none⟩), .slice ao n c] w fun e w' => ∃ i D', e = .returned (.int .u32 (i : Nat)) ∧ Adds D r D' ∧ D'[i]? = some r ∧ State w' σ fv D' fs ∧ Below σ w w' := by
  have K := of51 h ao n c r hb hr hin hn hs hD
  clear h hr hin hn hs hD hb
  go_enter Try.func39, Try.ntmps39
  go_wp2_with (go_at_call 51; refine K.mono ?_; rintro e w' ⟨i, D', rfl, h1, h2, h3, h4⟩)
  go_ret
  exact ⟨i, D', rfl, h1, h2, h3, h4⟩
end Go.Proofs.Qxb6003361a
