import Derived.Test.Qxb6003361aRoH
namespace Go.Proofs.Qxb6003361a
open Go.RowKit Go.Maps

/-- what the walk of 'of' is told of the last list -/
theorem last_facts {w : World} {σ : Nat} {lv sv fv : Value} {mo : Option Nat} {last : Nat} {D : List (List ByteArray)} {cs fs : List Value} (h : Mem w σ lv sv fv mo last D cs fs) (hl : last < D.length) :
    ∃ a c bo cc d, lv = .slice (some a) D.length c ∧ w.cell? (a.add last) = some (.slice bo d.length cc) ∧ Strs w bo d ∧ D[last]? = some d := by
  have hlen : cs.length = D.length := by have := h.lists.1; omega
  have he := h.each last D[last] cs[last] (List.getElem?_eq_getElem hl) (List.getElem?_eq_getElem (by omega))
  obtain ⟨bo, c', hc'⟩ := own_shape he
  rw [hc'] at he
  obtain ⟨ao, c, rfl⟩ := own_shape h.lists
  obtain ⟨a, e, q⟩ := own_cells h.lists last (by omega)
  subst e
  rw [hc'] at q
  exact ⟨a, c, bo, c', D[last], rfl, q, own_strs he, List.getElem?_eq_getElem hl⟩

set_option maxHeartbeats 1600000 in
theorem of_hit {w : World} {σ : Nat} {lv sv fv : Value} {mo : Option Nat} {last : Nat} {D : List (List ByteArray)} {cs fs : List Value} (h : Mem w σ lv sv fv mo last D cs fs) (ao : Option Addr) (n c : Nat) (r : List ByteArray)
    (hl : D[last]? = some r) (hb : D.length ≤ 1048576) (hr : Strs w ao r) (hn : r.length = n) (hn2 : n ≤ 1048576) :
    Calls Try.prog 51 #[.pointer (some ⟨σ, 0, none⟩), .slice ao n c] w fun e w' => e = .returned (.int .u32 last) ∧ ∃ m, w' = w.drewN m := by
  obtain ⟨c0, c1, c2, c3⟩ := h.cell
  have hlt : last < D.length := (List.getElem?_eq_some_iff.1 hl).1
  obtain ⟨a, cp, bo, cc, d, rfl, q, hS, hd⟩ := last_facts h hlt
  rw [hl] at hd
  cases hd
  have H1 : Aside (Strs w ao r) := hr
  have H2 : Aside (Strs w bo r) := hS
  have L : Hid (r.length = n) := hn
  rw [hn] at q
  clear h hr hS hl hn
  generalize D.length = N at c0 hlt hb
  go_enter Try.func51, Try.ntmps51
  go_wp2_with (fail)
  go_quiet ((go_at_call 57; exact Calls.quiet_of (same57 _ bo ao n n cc c r r H2.out H1.out L.out L.out hn2 hn2)))
  go_wp2
  go_ret
  exact ⟨rfl, _, rfl⟩
end Go.Proofs.Qxb6003361a
