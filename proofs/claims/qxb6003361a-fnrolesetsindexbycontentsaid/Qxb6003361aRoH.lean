import Derived.Test.Qxb6003361aRoG
import Derived.Laws.IdiomStrings
import Derived.Lib.BufferRead
namespace Go.Proofs.Qxb6003361a
open Go.RowKit Go.Maps

def ks (r : List ByteArray) : ByteArray := ⟨(key r).toArray⟩
def kl (r : List ByteArray) : Lit := .string (key r)
theorem kl_inj {r s : List ByteArray} (h : kl r = kl s) : r = s := by
  unfold kl at h
  injection h with h
  exact key_inj r s h
theorem law9 : Keyed Try.prog 9 := string_keyed Try.underlying9
theorem zero54 (w : World) : (zeroValue 54).run Try.prog w = .ok (.int .u32 0) w := by kernel_rfl
theorem key_total {r : List ByteArray} (h : SmallL r) : (key r).length ≤ 2199024304128 := by
  have h1 := key_len h r.length (Nat.le_refl _)
  rw [List.take_length] at h1
  have := h.1
  omega
theorem keyOf_ks {r : List ByteArray} (h : SmallL r) : keyOf Try.prog 9 (.string (ks r)) = some (kl r) := by
  have := Go.WideMaps.keyOf_string_mk (P := Try.prog) Try.underlying9 (s := ks r) (by
    have := key_total h
    show (key r).toArray.size ≤ _
    unfold maxLen
    rw [List.size_toArray]
    omega)
  rw [this]
  rfl

/-- the map of the role sets -/
def MapOk (w : World) (mo : Option Nat) (D : List (List ByteArray)) : Prop :=
  (mo = none ∧ D = []) ∨ (D ≠ [] ∧ ∃ b M, mo = some b ∧ w.ownsMap (H := Unit) Try.prog 9 (plainElem Try.prog 54) b D.length M ∧ (∀ r, Maps.has M (kl r) = true ↔ r ∈ D) ∧
    ∀ i (h : i < D.length), M.atKey (kl D[i]) (.lit (.int .u32 0)) = .lit (.int .u32 (i : Int)))

theorem MapOk.same {w w' : World} {mo : Option Nat} {D : List (List ByteArray)} (h : MapOk w mo D) (hs : ∀ (b : Nat) (es : Array MapEntry) (cl : Nat), w.heap[b]? = some (.map es cl) → w'.heap[b]? = w.heap[b]?) : MapOk w' mo D := by
  rcases h with h | ⟨h0, b, M, e, ⟨es, clock, hb, h2⟩, h3⟩
  · exact .inl h
  · exact .inr ⟨h0, b, M, e, ⟨es, clock, by rw [hs b es clock hb]; exact hb, h2⟩, h3⟩

/-- the lists with one more, if it is new -/
def Adds (D : List (List ByteArray)) (r : List ByteArray) (D' : List (List ByteArray)) : Prop := (r ∈ D ∧ D' = D) ∨ (r ∉ D ∧ D' = D ++ [r])

theorem new38 (w : World) : Calls Try.prog 38 #[] w fun e w' => e = .returned (.pointer (some ⟨w.heap.size, 0, none⟩)) ∧ w' = w.alloc (.cells #[.slice none 0 0, .map none, .slice none 0 0, .int .u32 0] 68) := by
  go_enter Try.func38, Try.ntmps38
  go_wp2
  go_ret
  exact ⟨rfl, rfl⟩

theorem count41 {w : World} {σ : Nat} {lv sv fv : Value} {mo : Option Nat} {last : Nat} {D : List (List ByteArray)} {cs fs : List Value} (h : Mem w σ lv sv fv mo last D cs fs) :
    Calls Try.prog 41 #[.pointer (some ⟨σ, 0, none⟩)] w fun e w' => e = .returned (.int .i64 D.length) ∧ w' = w := by
  have c0 := h.cell.1
  obtain ⟨ao, c, rfl⟩ := own_shape h.lists
  clear h
  go_enter Try.func41, Try.ntmps41
  go_wp2
  go_ret
  exact ⟨rfl, rfl⟩

theorem list42 {w : World} {σ : Nat} {lv sv fv : Value} {mo : Option Nat} {last : Nat} {D : List (List ByteArray)} {cs fs : List Value} (h : Mem w σ lv sv fv mo last D cs fs) (i : Nat) (hi : i < D.length) :
    Calls Try.prog 42 #[.pointer (some ⟨σ, 0, none⟩), .int .i64 i] w fun e w' => ∃ ao c, e = .returned (.slice ao D[i].length c) ∧ w' = w ∧ Strs w ao D[i] := by
  have hlen : cs.length = D.length := by have := h.lists.1; omega
  have he := h.each i D[i] cs[i] (List.getElem?_eq_getElem hi) (List.getElem?_eq_getElem (by omega))
  obtain ⟨bo, c', hc'⟩ := own_shape he
  rw [hc'] at he
  have c0 := h.cell.1
  obtain ⟨ao, c, rfl⟩ := own_shape h.lists
  obtain ⟨a, e, q⟩ := own_cells h.lists i (by omega)
  subst e
  rw [hc'] at q
  have S : Aside (Strs w bo D[i]) := own_strs he
  clear h he hc'
  generalize D[i] = d at q S
  generalize hn : D.length = n at c0 hi hlen
  clear hn hlen
  go_enter Try.func42, Try.ntmps42
  go_wp2
  go_ret
  exact ⟨_, _, rfl, rfl, S.out⟩
end Go.Proofs.Qxb6003361a
