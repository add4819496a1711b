import Derived.Test.Qxb6003361aRoF
import Derived.Maps.Own
import Derived.Maps.OwnSet
import Derived.Maps.Views
namespace Go.Proofs.Qxb6003361a
open Go.RowKit Go.Maps

theorem own_same {w w' : World} {B : Nat} {e : TypeId} {s : Nat} {v : Value} {n : Nat} {xs : List Value} (h : w.ownsRow B e s v n xs)
    (hs : ∀ g cur, v.ownBlock = some g → B ≤ g → w.heap[g]? = some (.cells cur e (0, 0)) → w'.heap[g]? = w.heap[g]?) : w'.ownsRow B e s v n xs := by
  obtain ⟨h1, h2⟩ := h
  refine ⟨h1, ?_⟩
  rcases h2 with h0 | ⟨g, cap, cur, rfl, hb, hh, h3⟩
  · exact .inl h0
  · exact .inr ⟨g, cap, cur, rfl, hb, by rw [hs g cur rfl hb hh]; exact hh, h3⟩
theorem own_shape {w : World} {B : Nat} {e : TypeId} {s : Nat} {v : Value} {n : Nat} {xs : List Value} (h : w.ownsRow B e s v n xs) : ∃ ao c, v = .slice ao n c := by
  rcases h.2 with ⟨rfl, rfl⟩ | ⟨g, cap, cur, rfl, _⟩
  · exact ⟨none, 0, rfl⟩
  · exact ⟨_, _, rfl⟩
theorem own_cells {w : World} {B : Nat} {e : TypeId} {ao : Option Addr} {c n : Nat} {xs : List Value} (h : w.ownsRow B e 1 (.slice ao n c) n xs) :
    ∀ i (hi : i < xs.length), ∃ a, ao = some a ∧ w.cell? (a.add i) = some xs[i] := by
  intro i hi
  rcases h.2 with ⟨e1, rfl⟩ | ⟨g, cap, cur, e1, hb, hh, h3⟩
  · have := h.1; omega
  · injection e1 with e1 e2 e3
    subst e1
    exact ⟨_, rfl, h.cells (g := g) rfl i _ (List.getElem?_eq_getElem hi)⟩
theorem own_strs {w : World} {B : Nat} {ao : Option Addr} {c n : Nat} {r : List ByteArray} (h : w.ownsRow B 9 1 (.slice ao n c) n (r.map .string)) : Strs w ao r := by
  intro i hi
  obtain ⟨a, e, q⟩ := own_cells h i (by simpa using hi)
  exact ⟨a, e, by rw [q, List.getElem_map]⟩

/-- the memory of the role sets: the struct, its lists, its scratch, and the law's own row beside them -/
structure Mem (w : World) (σ : Nat) (lv sv fv : Value) (mo : Option Nat) (last : Nat) (D : List (List ByteArray)) (cs fs : List Value) : Prop where
  blk : w.heap[σ]? = some (.cells #[lv, .map mo, sv, .int .u32 last] 68 (0, 0))
  lists : w.ownsRow (σ + 1) 56 1 lv D.length cs
  each : ∀ (i : Nat) (d : List ByteArray) (c : Value), D[i]? = some d → cs[i]? = some c → w.ownsRow (σ + 1) 9 1 c d.length (d.map .string)
  firsts : w.ownsRow (σ + 1) 56 1 fv fs.length fs
  apart : fv.ownBlock = none ∨ fv.ownBlock ≠ lv.ownBlock
  scr : ∃ n bs, w.ownsRow (σ + 1) 5 1 sv n bs

section
variable {w w' : World} {σ : Nat} {lv sv fv : Value} {mo : Option Nat} {last : Nat} {D : List (List ByteArray)} {cs fs : List Value}
theorem Mem.lt (h : Mem w σ lv sv fv mo last D cs fs) : σ < w.heap.size := lt_of_block h.blk
theorem Mem.cell (h : Mem w σ lv sv fv mo last D cs fs) : w.cell? ⟨σ, 0, none⟩ = some lv ∧ w.cell? ⟨σ, 1, none⟩ = some (.map mo) ∧ w.cell? ⟨σ, 2, none⟩ = some sv ∧ w.cell? ⟨σ, 3, none⟩ = some (.int .u32 last) := by
  refine ⟨?_, ?_, ?_, ?_⟩ <;> simp [World.cell?, h.blk]
theorem Mem.free (h : Mem w σ lv sv fv mo last D cs fs) (i : Nat) : w.frozen? ⟨σ, i, none⟩ = false := by
  simp [World.frozen?, h.blk]
/-- blocks that stay -/
theorem Mem.same (h : Mem w σ lv sv fv mo last D cs fs) (hs : ∀ k cur e, (k = σ ∨ σ < k) → w.heap[k]? = some (.cells cur e (0, 0)) → w'.heap[k]? = w.heap[k]?) : Mem w' σ lv sv fv mo last D cs fs where
  blk := by rw [hs σ _ _ (.inl rfl) h.blk]; exact h.blk
  lists := own_same h.lists fun g cur _ hb hh => hs g cur _ (.inr hb) hh
  each := fun i d c h1 h2 => own_same (h.each i d c h1 h2) fun g cur _ hb hh => hs g cur _ (.inr hb) hh
  firsts := own_same h.firsts fun g cur _ hb hh => hs g cur _ (.inr hb) hh
  apart := h.apart
  scr := by
    obtain ⟨n, bs, hn⟩ := h.scr
    exact ⟨n, bs, own_same hn fun g cur _ hb hh => hs g cur _ (.inr hb) hh⟩
theorem Mem.below (h : Mem w σ lv sv fv mo last D cs fs) (hB : Below w.heap.size w w') : Mem w' σ lv sv fv mo last D cs fs :=
  h.same fun k _ _ _ hh => hB.block k (lt_of_block hh)
theorem Mem.alloc (h : Mem w σ lv sv fv mo last D cs fs) (o : Obj) : Mem (w.alloc o) σ lv sv fv mo last D cs fs := h.below ((Below.refl _ _).alloc (Nat.le_refl _) o)
theorem Mem.drewN (h : Mem w σ lv sv fv mo last D cs fs) (n : Nat) : Mem (w.drewN n) σ lv sv fv mo last D cs fs := h.same fun _ _ _ _ _ => rfl
/-- a map's block alone is written -/
theorem Mem.map (h : Mem w σ lv sv fv mo last D cs fs) {b : Nat} (hg : w.grownBy w' (some b)) (hb : ∀ cur e fz, w.heap[b]? ≠ some (.cells cur e fz)) : Mem w' σ lv sv fv mo last D cs fs :=
  h.same fun k cur e _ hh => hg.block k (lt_of_block hh) (fun e1 => by cases e1; exact hb _ _ _ hh)

theorem blk_set (i : Nat) (u : Value) {cur : Array Value} {t : TypeId} (h : w.heap[σ]? = some (.cells cur t (0, 0))) :
    (w.setCell ⟨σ, i, none⟩ u).heap[σ]? = some (.cells (cur.set! i u) t (0, 0)) := by
  have hlt := lt_of_block h
  have h' : w.heap[σ] = .cells cur t (0, 0) := by simpa [Array.getElem?_eq_getElem hlt] using h
  show (w.heap.modify σ _)[σ]? = _
  rw [Array.getElem?_eq_getElem (by simpa using hlt), Array.getElem_modify_self, h']
  simp

theorem own_set {B : Nat} {e : TypeId} {s : Nat} {v : Value} {n : Nat} {xs : List Value} (h : w.ownsRow B e s v n xs) (hB : σ < B) (i : Nat) (u : Value) : (w.setCell ⟨σ, i, none⟩ u).ownsRow B e s v n xs :=
  ownsRow_setCell_below h (a := ⟨σ, i, none⟩) hB u

/-- the scratch is written anew -/
theorem Mem.scratch (h : Mem w σ lv sv fv mo last D cs fs) (hk : Kept5 (σ + 1) w w') {sv' : Value} {n : Nat} {bs : List Value} (hs : w'.ownsRow (σ + 1) 5 1 sv' n bs) :
    Mem (w'.setCell ⟨σ, 2, none⟩ sv') σ lv sv' fv mo last D cs fs := by
  have h56 : ∀ (e : TypeId), e ≠ 5 → ∀ (g : Nat) (cur : Array Value), w.heap[g]? = some (.cells cur e (0, 0)) → w'.heap[g]? = w.heap[g]? := by
    intro e he g cur hh
    refine hk.block g (lt_of_block hh) (.inr fun cur' fz e1 => ?_)
    rw [hh] at e1
    cases e1
    exact he rfl
  have hblk : w'.heap[σ]? = some (.cells #[lv, .map mo, sv, .int .u32 last] 68 (0, 0)) := by rw [hk.block σ h.lt (.inl (Nat.lt_succ_self _))]; exact h.blk
  refine ⟨?_, ?_, ?_, ?_, h.apart, ⟨n, bs, own_set hs (Nat.lt_succ_self _) _ _⟩⟩
  · rw [blk_set 2 sv' hblk]; rfl
  · exact own_set (own_same h.lists fun g cur _ _ hh => h56 56 (by decide) g cur hh) (Nat.lt_succ_self _) _ _
  · exact fun i d c h1 h2 => own_set (own_same (h.each i d c h1 h2) fun g cur _ _ hh => h56 9 (by decide) g cur hh) (Nat.lt_succ_self _) _ _
  · exact own_set (own_same h.firsts fun g cur _ _ hh => h56 56 (by decide) g cur hh) (Nat.lt_succ_self _) _ _

theorem Mem.setMap (h : Mem w σ lv sv fv mo last D cs fs) (mo' : Option Nat) : Mem (w.setCell ⟨σ, 1, none⟩ (.map mo')) σ lv sv fv mo' last D cs fs := by
  obtain ⟨n, bs, hn⟩ := h.scr
  refine ⟨?_, own_set h.lists (Nat.lt_succ_self _) _ _, fun i d c h1 h2 => own_set (h.each i d c h1 h2) (Nat.lt_succ_self _) _ _, own_set h.firsts (Nat.lt_succ_self _) _ _, h.apart, ⟨n, bs, own_set hn (Nat.lt_succ_self _) _ _⟩⟩
  rw [blk_set 1 _ h.blk]; rfl
theorem Mem.setLast (h : Mem w σ lv sv fv mo last D cs fs) (l : Nat) : Mem (w.setCell ⟨σ, 3, none⟩ (.int .u32 l)) σ lv sv fv mo l D cs fs := by
  obtain ⟨n, bs, hn⟩ := h.scr
  refine ⟨?_, own_set h.lists (Nat.lt_succ_self _) _ _, fun i d c h1 h2 => own_set (h.each i d c h1 h2) (Nat.lt_succ_self _) _ _, own_set h.firsts (Nat.lt_succ_self _) _ _, h.apart, ⟨n, bs, own_set hn (Nat.lt_succ_self _) _ _⟩⟩
  rw [blk_set 3 _ h.blk]; rfl

theorem type_ne {w : World} {v : Value} {g : Nat} {B : Nat} {e : TypeId} {s n : Nat} {xs : List Value} (h : w.ownsRow B e s v n xs) (hv : v.ownBlock = some g) {cur : Array Value} {e' : TypeId} (hh : w.heap[g]? = some (.cells cur e' (0, 0))) : e' = e := by
  rcases h.2 with ⟨rfl, _⟩ | ⟨g', cap, cur', rfl, hb, hh', _⟩
  · cases hv
  · cases hv
    rw [hh] at hh'
    cases hh'
    rfl
theorem own_ge {w : World} {v : Value} {g : Nat} {B : Nat} {e : TypeId} {s n : Nat} {xs : List Value} (h : w.ownsRow B e s v n xs) (hv : v.ownBlock = some g) : B ≤ g := (h.lt g hv).1

/-- a list is added -/
theorem Mem.push (h : Mem w σ lv sv fv mo last D cs fs) {c : Value} {r : List ByteArray} (hc : w.ownsRow (σ + 1) 9 1 c r.length (r.map .string)) {lv' : Value}
    (hg : w.grownBy w' lv.ownBlock) (ho : w'.ownsRow (σ + 1) 56 1 lv' (D.length + 1) (cs ++ [c])) (hat : lv'.ownBlock = lv.ownBlock ∨ lv'.ownBlock = some w.heap.size) :
    Mem (w'.setCell ⟨σ, 0, none⟩ lv') σ lv' sv fv mo last (D ++ [r]) (cs ++ [c]) fs := by
  have hlen : cs.length = D.length := by have := h.lists.1; omega
  have keep : ∀ (e : TypeId), e ≠ 56 → ∀ (g : Nat) (cur : Array Value), w.heap[g]? = some (.cells cur e (0, 0)) → w'.heap[g]? = w.heap[g]? := by
    intro e he g cur hh
    refine hg.block g (lt_of_block hh) (fun e1 => he (type_ne h.lists e1.symm hh))
  have hblk : w'.heap[σ]? = some (.cells #[lv, .map mo, sv, .int .u32 last] 68 (0, 0)) := by rw [keep 68 (by decide) σ _ h.blk]; exact h.blk
  obtain ⟨n, bs, hn⟩ := h.scr
  refine ⟨?_, ?_, ?_, ?_, ?_, ⟨n, bs, own_set (own_same hn fun g cur _ _ hh => keep 5 (by decide) g cur hh) (Nat.lt_succ_self _) _ _⟩⟩
  · rw [blk_set 0 lv' hblk]; rfl
  · rw [List.length_append]; exact own_set ho (Nat.lt_succ_self _) _ _
  · intro i d x h1 h2
    refine own_set ?_ (Nat.lt_succ_self _) _ _
    by_cases hi : i < D.length
    · rw [List.getElem?_append_left hi] at h1
      rw [List.getElem?_append_left (by omega)] at h2
      exact own_same (h.each i d x h1 h2) fun g cur _ _ hh => keep 9 (by decide) g cur hh
    · have hi' : i = D.length := by
        have := (List.getElem?_eq_some_iff.1 h1).1
        simp at this; omega
      subst hi'
      rw [List.getElem?_append_right (Nat.le_refl _)] at h1
      rw [List.getElem?_append_right (by omega)] at h2
      simp [hlen] at h1 h2
      subst h1; subst h2
      exact own_same hc fun g cur _ _ hh => keep 9 (by decide) g cur hh
  · refine own_set (own_same h.firsts fun g cur e1 _ hh => hg.block g (lt_of_block hh) ?_) (Nat.lt_succ_self _) _ _
    intro e2
    rcases h.apart with h0 | h0
    · rw [h0] at e1; cases e1
    · exact h0 (e1.trans e2)
  · cases hf : fv.ownBlock with
    | none => exact .inl rfl
    | some g =>
      right
      have hlt := (h.firsts.lt g hf).2
      rcases hat with e | e
      · rw [e]
        rcases h.apart with h0 | h0
        · rw [h0] at hf; cases hf
        · rw [hf] at h0; exact h0
      · rw [e]; intro e2; cases e2; omega

/-- the law's own row grows -/
theorem Mem.first (h : Mem w σ lv sv fv mo last D cs fs) {x fv' : Value} (hg : w.grownBy w' fv.ownBlock) (ho : w'.ownsRow (σ + 1) 56 1 fv' (fs.length + 1) (fs ++ [x])) (hat : fv'.ownBlock = fv.ownBlock ∨ fv'.ownBlock = some w.heap.size) :
    Mem w' σ lv sv fv' mo last D cs (fs ++ [x]) := by
  have keep : ∀ (e : TypeId), e ≠ 56 → ∀ (g : Nat) (cur : Array Value), w.heap[g]? = some (.cells cur e (0, 0)) → w'.heap[g]? = w.heap[g]? := by
    intro e he g cur hh
    refine hg.block g (lt_of_block hh) (fun e1 => he (type_ne h.firsts e1.symm hh))
  obtain ⟨n, bs, hn⟩ := h.scr
  refine ⟨by rw [keep 68 (by decide) σ _ h.blk]; exact h.blk, ?_, fun i d c h1 h2 => own_same (h.each i d c h1 h2) fun g cur _ _ hh => keep 9 (by decide) g cur hh, ?_, ?_, ⟨n, bs, own_same hn fun g cur _ _ hh => keep 5 (by decide) g cur hh⟩⟩
  · refine own_same h.lists fun g cur e1 _ hh => hg.block g (lt_of_block hh) ?_
    intro e2
    rcases h.apart with h0 | h0
    · rw [h0] at e2; cases e2
    · exact h0 (e2.symm.trans e1.symm)
  · rw [List.length_append]; exact ho
  · rcases hat with e | e
    · rw [e]; exact h.apart
    · right
      rw [e]
      intro e2
      have := (h.lists.lt _ e2.symm).2
      omega
end
end Go.Proofs.Qxb6003361a
