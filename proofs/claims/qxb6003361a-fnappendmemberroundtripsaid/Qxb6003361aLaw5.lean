import Derived.Test.Qxb6003361aMem
namespace Go.Proofs.Qxb6003361a
open Go.RowKit

/-- what a slice of bytes may be that is cloned -/
def Sr (w : World) (a : Option Addr) (n cap : Nat) (olds : List UInt8) : Prop :=
  olds.length = n ∧ ((a = none ∧ n = 0 ∧ cap = 0) ∨ (n = 0 ∧ ∃ x, a = some x) ∨ (0 < n ∧ ∃ b off, a = some ⟨b, off, none⟩ ∧ Bytes w b off olds))
/-- what a clone is -/
def Cl (w : World) (a : Option Addr) (n : Nat) (olds : List UInt8) : Prop :=
  olds.length = n ∧ ((a = none ∧ n = 0) ∨ (∃ N, a = some ⟨N, 0, none⟩ ∧ Bytes w N 0 olds))
theorem Cl.sr {w : World} {a : Option Addr} {n : Nat} {olds : List UInt8} (h : Cl w a n olds) : Sr w a n n olds := by
  obtain ⟨h1, h2⟩ := h
  refine ⟨h1, ?_⟩
  rcases h2 with ⟨e, e0⟩ | ⟨N, e, hb⟩
  · exact .inl ⟨e, e0, e0⟩
  · by_cases h0 : n = 0
    · exact .inr (.inl ⟨h0, _, e⟩)
    · exact .inr (.inr ⟨by omega, N, 0, e, hb⟩)
theorem Cl.lt {w : World} {N n : Nat} {olds : List UInt8} (h : Cl w (some ⟨N, 0, none⟩) n olds) (h0 : 0 < n) : N < w.heap.size := by
  obtain ⟨h1, h2⟩ := h
  rcases h2 with ⟨e, _⟩ | ⟨M, e, hb⟩
  · cases e
  · cases e; exact lt_of_cell (hb 0 (by omega))
theorem Cl.below {w w' : World} {a : Option Addr} {n : Nat} {olds : List UInt8} (h : Cl w a n olds) (hB : Below w.heap.size w w') : Cl w' a n olds := by
  obtain ⟨h1, h2⟩ := h
  refine ⟨h1, ?_⟩
  rcases h2 with ⟨e, e0⟩ | ⟨N, e, hb⟩
  · exact .inl ⟨e, e0⟩
  · refine .inr ⟨N, e, ?_⟩
    intro i hi
    have hlt : N < w.heap.size := lt_of_cell (hb i hi)
    exact hb.below hB hlt i hi

theorem clone_gen (a : Option Addr) (n cap : Nat) (olds : List UInt8) (w : World) (hn : n ≤ 1048576) (h : Sr w a n cap olds) :
    Calls Try.prog 15 #[.slice a n cap] w fun e w' => ∃ ao, e = .returned (.slice ao n n) ∧ Below w.heap.size w w' ∧ Cl w' ao n olds := by
  obtain ⟨h1, h2⟩ := h
  rcases h2 with ⟨e, e0, ec⟩ | ⟨e0, x, e⟩ | ⟨h0, b, off, e, hb⟩
  · subst e; subst e0; subst ec
    refine (clone_nil w).mono ?_
    rintro e w' ⟨rfl, rfl⟩
    exact ⟨none, rfl, Below.refl _ _, h1, .inl ⟨rfl, rfl⟩⟩
  · subst e; subst e0
    refine (clone_zero x cap w).mono ?_
    rintro e w' ⟨rfl, hB⟩
    exact ⟨_, rfl, hB, h1, .inr ⟨_, rfl, fun i hi => by omega⟩⟩
  · subst e
    refine (clone_any b off n cap olds w hn h0 h1 hb).mono ?_
    rintro e w' ⟨rfl, hB, hR⟩
    exact ⟨_, rfl, hB, h1, .inr ⟨_, rfl, hR⟩⟩

theorem member_gen (ao : Option Addr) (n : Nat) (olds : List UInt8) (s : ByteArray) (w : World) (hn : n ≤ 524288) (hs : s.size ≤ 524288) (h : Cl w ao n olds) :
    Calls Try.prog 25 #[.slice ao n n, .string s] w fun e w' => ∃ g cp, e = .returned (.slice (some ⟨g, 0, none⟩) (n + 1 + (esc s.data.toList).length) cp) ∧ n + 1 + (esc s.data.toList).length ≤ cp ∧ cp ≤ maxLen ∧ Bytes w' g 0 (joined olds (esc s.data.toList)) ∧ Below w.heap.size w w' := by
  obtain ⟨h1, h2⟩ := h
  have hlenj : (joined olds (esc s.data.toList)).length = n + 1 + (esc s.data.toList).length := by unfold joined; simp; omega
  refine (member25 ao n olds s w hn hs ?_ h1 ?_ ?_).mono ?_
  · intro e
    rcases h2 with ⟨_, e0⟩ | ⟨N, e2, _⟩
    · exact e0
    · rw [e] at e2; cases e2
  · intro b e j u hu
    rcases h2 with ⟨e0, _⟩ | ⟨N, e2, hb⟩
    · rw [e] at e0; cases e0
    · rw [e2] at e; cases e
      rw [Lib.add_plain]
      exact hb.bc j u hu
  · intro b e h0
    rcases h2 with ⟨e0, _⟩ | ⟨N, e2, hb⟩
    · rw [e] at e0; cases e0
    · rw [e2] at e; cases e
      exact lt_of_cell (hb 0 (by omega))
  · rintro e w' ⟨v, rfl, hown, hB⟩
    have hown0 := hown
    obtain ⟨_, h4⟩ := hown
    rcases h4 with ⟨_, hx⟩ | ⟨g, cp, cur, hv, hg, hh, hcap, hmx, hcs, htk⟩
    · omega
    · subst hv
      refine ⟨g, cp, rfl, hcap, hmx, ?_, hB⟩
      intro i hi
      rw [hown0.cellAt (0 + i) (by rw [hlenj] at hi; omega), Nat.zero_add]
      unfold bc
      rw [List.getElem?_map, List.getElem?_eq_getElem hi]
      rfl
end Go.Proofs.Qxb6003361a
