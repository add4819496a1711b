import Derived.Test.Qxb6003361aRoJ
import Derived.Deep.AppendLies
import Derived.Deep.RegionLaw
namespace Go.Proofs.Qxb6003361a
open Go.RowKit Go.Maps

theorem map_not_nil (b : Nat) (w : World) : (binOp .eql 66 (.map (some b)) (.map none)).run Try.prog w = .ok (.bool false) w := by
  have h := run_equal_map_nil (P := Try.prog) w 66 _ _ (some b) Try.underlying66
  simp [binOp, h]
theorem map_nil (w : World) : (binOp .eql 66 (.map none) (.map none)).run Try.prog w = .ok (.bool true) w := by
  have h := run_equal_map_nil (P := Try.prog) w 66 _ _ none Try.underlying66
  simp [binOp, h]
theorem look_missing0 {w : World} {b : Nat} {D : List (List ByteArray)} {r : List ByteArray} (h : MapOk w (some b) D) (hi : r ∉ D) (hs : SmallL r) :
    (Instr.lookup 66 (.map (some b)) (.string (ks r)) true).run Try.prog w = .ok (.tuple #[.int .u32 0, .bool false]) w := by
  rcases h with ⟨e, _⟩ | ⟨_, b', M, e, hown, hhas, hat⟩
  · cases e
  · cases e
    obtain ⟨v, ps, hrun, hv⟩ := hown.look_ok law9 Try.underlying66 (zero54 w) (plainElem_int (H := Unit) Try.underlying54 (by decide : (Lit.int .u32 0).wf = true)) (keyOf_ks hs)
    have hf : Maps.has M (kl r) = false := by
      cases e : Maps.has M (kl r) with
      | false => rfl
      | true => exact absurd ((hhas r).1 e) hi
    rw [hf] at hrun
    rw [Maps.atKey_of_not_has hf] at hv
    obtain ⟨c, rfl, hc, _⟩ := plainElem_int_inv Try.underlying54 hv
    simp only [Prod.mk.injEq] at hc
    have hc := hc.1
    injection hc with hc
    injection hc with _ hc
    rw [hrun, hc]
theorem Mem.like {w w' : World} {σ : Nat} {lv sv fv : Value} {mo : Option Nat} {last : Nat} {D : List (List ByteArray)} {cs fs : List Value} (h : Mem w σ lv sv fv mo last D cs fs) (he : w'.heap = w.heap) : Mem w' σ lv sv fv mo last D cs fs :=
  h.same fun k _ _ _ _ => by rw [he]
theorem Strs.lower {w w' : World} {σ : Nat} {ao : Option Addr} {r : List ByteArray} (h : Strs w ao r) (hB : Below σ w w') (hin : ∀ a, ao = some a → a.block < σ) : Strs w' ao r := by
  intro i hi
  obtain ⟨a, e, q⟩ := h i hi
  refine ⟨a, e, ?_⟩
  rw [hB.cell (by rw [add_block]; exact hin a e)]
  exact q

theorem head_kept {w w4 : World} {σ k : Nat} {lv sv fv : Value} {mo : Option Nat} {last : Nat} {D : List (List ByteArray)} {cs fs : List Value} (h : Mem w σ lv sv fv mo last D cs fs) (hg : w.grownBy w4 (some k)) (hk : k ≠ σ) :
    w4.cell? ⟨σ, 0, none⟩ = some lv ∧ ∀ i, w4.frozen? ⟨σ, i, none⟩ = false := by
  have e := hg.block σ h.lt (by intro e; injection e with e; exact hk e.symm)
  exact ⟨(World.cell?_of_block (w := w) (a := ⟨σ, 0, none⟩) e).trans h.cell.1, fun i => (World.frozen?_of_block (w := w) (a := ⟨σ, i, none⟩) e).trans (h.free i)⟩

theorem MapOk.push {w w4 : World} {σ B n : Nat} {v : Value} {xs : List Value} {mo : Option Nat} {D : List (List ByteArray)} (h : MapOk w mo D) (hrow : w.ownsRow B 56 1 v n xs) (hg : w.grownBy w4 v.ownBlock)
    {cur : Array Value} {e : TypeId} (hσ : w.heap[σ]? = some (.cells cur e (0, 0))) (i : Nat) (u : Value) : MapOk (w4.setCell ⟨σ, i, none⟩ u) mo D := by
  refine h.same fun b es cl hb => ?_
  rw [Below.heap_setCell _ _ _ _ (by rintro rfl; rw [hσ] at hb; cases hb)]
  refine hg.block b (lt_of_block hb) ?_
  intro e1
  rcases hrow.2 with ⟨rfl, _⟩ | ⟨g, cap, cur', rfl, _, hh, _⟩
  · cases e1
  · cases e1
    rw [hb] at hh
    cases hh
theorem own5_push {w w4 : World} {σ B n n' : Nat} {v sv : Value} {xs bs : List Value} (h : w.ownsRow (σ + 1) 5 1 sv n' bs) (hrow : w.ownsRow B 56 1 v n xs) (hg : w.grownBy w4 v.ownBlock) (i : Nat) (u : Value) : (w4.setCell ⟨σ, i, none⟩ u).ownsRow (σ + 1) 5 1 sv n' bs := by
  refine own_set (own_same h fun g cur _ _ hh => hg.block g (lt_of_block hh) fun e1 => ?_) (Nat.lt_succ_self _) _ _
  have := type_ne hrow e1.symm hh
  cases this
theorem upd_new {w : World} {b : Nat} {D : List (List ByteArray)} {r : List ByteArray} (h : MapOk w (some b) D) (hr : r ∉ D) (hs : SmallL r) (hb : D.length ≤ 1048576) :
    ∃ w6, (Instr.mapUpdate 66 (.map (some b)) (.string (ks r)) (.int .u32 D.length)).run Try.prog w = .ok () w6 ∧ MapOk w6 (some b) (D ++ [r]) ∧ w.grownBy w6 (some b) ∧ (∀ cur e fz, w.heap[b]? ≠ some (.cells cur e fz)) := by
  rcases h with ⟨e, _⟩ | ⟨_, b', M, e, hown, hhas, hat⟩
  · cases e
  · cases e
    have hmap : ∀ cur e fz, w.heap[b]? ≠ some (.cells cur e fz) := by
      obtain ⟨es, cl, hb', _⟩ := hown
      intro cur e fz e1
      rw [hb'] at e1
      cases e1
    have hi := hown.isMap
    have hwf : (Lit.int .u32 (D.length : Int)).wf = true := by
      exact WalkArith.wf_u32 ⟨by omega, by omega⟩
    obtain ⟨w6, hrun, hown6, hg⟩ := hown.update law9 Try.underlying66 (by unfold maxLen; omega) (keyOf_ks hs) (plainElem_int (H := Unit) Try.underlying54 hwf)
    refine ⟨w6, hrun, .inr ⟨by simp, b, _, rfl, by rw [List.length_append]; exact hown6, ?_, ?_⟩, hg, hmap⟩
    · intro s
      by_cases e : s = r
      · subst e
        rw [Maps.has_put_same hi (by simp [WideAt.IsKeyLit, kl])]
        simp
      · rw [Maps.has_put_other (fun e1 => e (kl_inj e1)), hhas s]
        simp [e]
    · intro i hil
      by_cases hi' : i < D.length
      · rw [List.getElem_append_left hi']
        rw [Maps.atKey_put_other (fun e1 => hr (by rw [← kl_inj e1]; exact List.getElem_mem hi'))]
        exact hat i hi'
      · have hi2 : i = D.length := by simp at hil; omega
        subst hi2
        rw [List.getElem_append_right (Nat.le_refl _)]
        simp only [Nat.sub_self, List.getElem_cons_zero]
        exact Maps.atKey_put_same hi (by simp [WideAt.IsKeyLit, kl]) _ _
theorem n59 : (Try.f59.name == "runtime.NumGoroutine") = false := by kernel_rfl
theorem b59 : Try.f59.body.isNone = false := by kernel_rfl
theorem call59 (vs : Array Value) (w : World) : (callFunc 59 vs).run Try.prog w = .ok (.enter 59 vs) w := by
  have h1 : Try.f59.name ≠ "runtime.NumGoroutine" := by
    intro e
    have := n59
    rw [e] at this
    simp at this
  have h2 : Try.f59.body ≠ none := by
    intro e
    have := b59
    rw [e] at this
    simp at this
  simp [callFunc, go_sem, Try.func59, h1, h2]
theorem step_call {P : Program} {ops : Array Oper} {o : Oper} {a : Act} {w : World} {K : Act → World → Prop} {Q : Exit → Act → World → Prop} {E : Prop} (hgd : o.guard = none) (f : Nat) (x : Operand) (t : TypeId) (v : Value)
    (ho : o.op = .call { callee := .value (.func f), args := #[x], argTypes := #[t] }) (hv : a.eval x = v) (hc : ∀ vs w, (callFunc f vs).run P w = .ok (.enter f vs) w)
    (h : Calls P f #[v] w fun e w' => ∃ u, e = .returned u ∧ K (a.put o.dst u) w') : if Region.wanted o (yielded ops a.tmps) = true then Oper.wp P o a w K Q else E := by
  have hw : Region.wanted o (yielded ops a.tmps) = true := by simp [Region.wanted, hgd]
  rw [if_pos hw]
  have hr : ∀ ρ : Operand → Value, ρ x = v → ρ (.func f) = .func (.func f) #[] #[] → (execOp ρ o).run P w = .ok (.enter f #[v]) w := by
    intro ρ h1 h2
    simp [execOp, ho, resolve, h1, h2, go_sem, hc]
  unfold Oper.wp
  rw [hr a.eval hv rfl]
  refine h.mono ?_
  rintro e w' ⟨u, rfl, hK⟩
  exact hK

set_option maxHeartbeats 1600000 in
theorem of_new {w : World} {σ : Nat} {lv sv fv : Value} {b : Nat} {last : Nat} {D : List (List ByteArray)} {cs fs : List Value} (h : Mem w σ lv sv fv (some b) last D cs fs) (hm : MapOk w (some b) D) (ao : Option Addr) (n c : Nat) (r : List ByteArray)
    (hl : last < D.length) (hne : D[last]? ≠ some r) (hb : D.length ≤ 1048576) (hr : Strs w ao r) (hin : ∀ a, ao = some a → a.block < σ) (hn : r.length = n) (hs : SmallL r) (hi : r ∉ D) (hbm : σ < b) (hD : ∀ d ∈ D, SmallL d) :
    Calls Try.prog 51 #[.pointer (some ⟨σ, 0, none⟩), .slice ao n c] w fun e w' => ∃ lv' sv' cs', e = .returned (.int .u32 D.length) ∧ Mem w' σ lv' sv' fv (some b) D.length (D ++ [r]) cs' fs ∧ MapOk w' (some b) (D ++ [r]) ∧ Below σ w w' := by
  obtain ⟨c0, c1, c2, c3⟩ := h.cell
  have hn2 : n ≤ 1048576 := by rw [← hn]; exact hs.1
  obtain ⟨a, cp, bo, cc, d, hlv, q, hS, hd⟩ := last_facts h hl
  have hdr : d ≠ r := fun e => hne (by rw [hd, e])
  have hdec : decide (d = r) = false := decide_eq_false hdr
  have hdl : d.length ≤ 1048576 := (hD d (List.mem_of_getElem? hd)).1
  obtain ⟨sn, sbs, hscr⟩ := h.scr
  obtain ⟨sv0, hcut, hown0⟩ := cut_own hscr
  have H1 : Aside (Strs w ao r) := hr
  have H2 : Aside (Strs w bo d) := hS
  have HH : Aside (Mem w σ lv sv fv (some b) last D cs fs) := h
  have HM : Aside (MapOk w (some b) D) := hm
  have HI : Aside (∀ a, ao = some a → a.block < σ + 1) := fun a e => Nat.lt_succ_of_lt (hin a e)
  have HI0 : Aside (∀ a, ao = some a → a.block < σ) := hin
  have HS : Aside (SmallL r) := hs
  have HD : Aside (r ∉ D) := hi
  have H0 : Aside (w.ownsRow (σ + 1) 5 1 sv0 0 []) := hown0
  have hsz : σ + 1 ≤ w.heap.size := h.lt
  have L : Hid (r.length = n) := hn
  obtain ⟨dn, hdn⟩ : ∃ dn, dn = d.length := ⟨_, rfl⟩
  rw [← hdn] at q hdl
  have LD : Hid (d.length = dn) := hdn.symm
  have HLV : Aside (lv = .slice (some a) D.length cp) := hlv
  rw [hlv] at c0
  clear h hr hS hn hm hin hs hi hscr hown0 hdn hlv hd hne hdr hD
  generalize hN : D.length = N at c0 hl hb HLV ⊢
  have HN : Hid (D.length = N) := hN
  clear hN
  go_enter Try.func51, Try.ntmps51
  go_wp2_with (fail)
  go_quiet ((go_at_call 57; exact Calls.quiet_of (same57 _ bo ao dn n cc c d r H2.out H1.out LD.out L.out hdl hn2)))
  go_wp2_with (go_at_call 58; refine (key58 (w.drewN nq) (σ + 1) sv0 ao n c r H1.out HI.out HS.out L.out hsz H0.out).mono ?_; rintro e w2 ⟨v2, rfl, hown2, hk2⟩; obtain ⟨so2, sc2, rfl⟩ := own_shape hown2; obtain ⟨d0, d1, d2, d3, df⟩ := cells_kept (HH.out.drewN nq) hk2; have df2 := df 2)
  have HM2 : Aside (Mem (w2.setCell ⟨σ, 2, none⟩ (.slice so2 (key r).length sc2)) σ lv (.slice so2 (key r).length sc2) fv (some b) last D cs fs) := Mem.scratch (HH.out.drewN nq) hk2 hown2
  have HP2 : Aside (MapOk (w2.setCell ⟨σ, 2, none⟩ (.slice so2 (key r).length sc2)) (some b) D) := MapOk.scratch (HM.out.drewN nq) hk2 (HH.out.drewN nq).blk _ _
  have HO2 : Aside ((w2.setCell ⟨σ, 2, none⟩ (.slice so2 (key r).length sc2)).ownsRow (σ + 1) 5 1 (.slice so2 (key r).length sc2) (key r).length (bc (key r))) := own_set hown2 (Nat.lt_succ_self _) _ _
  have HB2 : Aside (Below σ w (w2.setCell ⟨σ, 2, none⟩ (.slice so2 (key r).length sc2))) := ((Below.drewN' σ w nq).trans ((hk2.below hsz).mono (Nat.le_succ _))).setCell (Nat.le_refl _) _
  clear hown2 hk2 d0 d1 d2 d3 df df2 c0 c1 c2 c3
  generalize hW : w2.setCell ⟨σ, 2, none⟩ (.slice so2 (key r).length sc2) = W at *
  clear hW
  obtain ⟨c0, c1, c2, c3⟩ := HM2.out.cell
  have f3 := HM2.out.free 3
  have hconv : ∀ m, (convert 22 9 (.slice so2 (key r).length sc2)).run Try.prog (W.drewN m) = .ok (.string (ks r)) (W.drewN m) := fun m => conv_own (w := W.drewN m) HO2.out
  have hlook : ∀ m, (Instr.lookup 66 (.map (some b)) (.string (ks r)) true).run Try.prog (W.drewN m) = .ok (.tuple #[.int .u32 0, .bool false]) (W.drewN m) := fun m => look_missing0 (HP2.out.drewN m) HD.out HS.out
  have hmn := map_not_nil b
  rw [HLV.out] at c0
  have H1W : Aside (Strs W ao r) := H1.out.lower HB2.out HI0.out
  have hszW : σ + 1 ≤ W.heap.size := HM2.out.lt
  have hNb : N ≤ 1048576 := hb
  generalize hkn : (key r).length = kn at *
  have HKN : Hid ((key r).length = kn) := hkn
  clear hkn
  go_quiet (fail)
  go_wp2_with (fail)
  have HM3 : Aside (Mem (W.drewN nq) σ lv (.slice so2 kn sc2) fv (some b) last D cs fs) := HM2.out.drewN nq
  have HP3 : Aside (MapOk (W.drewN nq) (some b) D) := HP2.out.drewN nq
  have HO3 : Aside ((W.drewN nq).ownsRow (σ + 1) 5 1 (.slice so2 kn sc2) kn (bc (key r))) := HO2.out
  have HB3 : Aside (Below σ w (W.drewN nq)) := HB2.out.trans (Below.drewN' _ _ _)
  have H1V : Aside (Strs (W.drewN nq) ao r) := H1W.out
  clear HM2 HP2 HO2 HB2 H1W hconv hlook hmn c0 c1 c2 c3 f3 H1 H2 HH HM H0 hsz hszW
  generalize W.drewN nq = V at *
  obtain ⟨c0, c1, c2, c3⟩ := HM3.out.cell
  rw [HLV.out] at c0
  have f0 := HM3.out.free 0
  have hszV : σ + 1 ≤ V.heap.size := HM3.out.lt
  have hσV : σ < V.heap.size := HM3.out.lt
  obtain ⟨i0, hi0, hz0, hsz0, hb0⟩ := info_parts info56
  have hab : σ + 1 ≤ a.block := by
    have := HM3.out.lists
    rw [HLV.out] at this
    exact own_ge this rfl
  go_region_law
    (first
      | (refine step_call (by rfl) 59 (.tmp 81) 56 (.slice ao n c) (by rfl) (by rfl) call59 ((clone59 _ (σ + 1) ao n c r (by exact H1V.out) L.out hn2 (by exact hszV)).mono ?_); rintro e w3 ⟨ao3, c33, rfl, hown3, hB3⟩; have cS : w3.cell? ⟨σ, 0, none⟩ = some (.slice (some a) N cp) := (hB3.cell (p := ⟨σ, 0, none⟩) (by exact hσV)).trans (by exact c0); have hs3 : σ + 1 ≤ w3.heap.size := Nat.le_trans hszV (by exact hB3.size); have cA : ∀ o, (w3.alloc o).cell? ⟨σ, 0, none⟩ = some (.slice (some a) N cp) := (fun o => (World.cell?_of_block (w := w3) (w' := w3.alloc o) (a := ⟨σ, 0, none⟩) (Below.heap_alloc w3 o σ hs3)).trans cS); have HC4 : Aside (w3.ownsRow (σ + 1) 9 1 (.slice ao3 n c33) r.length (r.map .string)) := (by rw [L.out]; exact hown3); have HB4 : Aside (Below σ w w3) := HB3.out.trans (Below.trans (b := V.drew) ⟨rfl, rfl, rfl, Nat.le_refl _, fun _ _ => rfl⟩ (Below.mono hB3 (by exact Nat.le_of_lt hσV))); have HP4 : Aside (MapOk w3 (some b) D) := HP3.out.same (fun k es cl hk => by exact hB3.block k (lt_of_block hk)); have HO4 : Aside (w3.ownsRow (σ + 1) 5 1 (.slice so2 kn sc2) kn (bc (key r))) := own_same HO3.out (fun g cur _ _ hk => by exact hB3.block g (lt_of_block hk)); have HM4 : Aside (Mem w3 σ lv (.slice so2 kn sc2) fv (some b) last D cs fs) := Mem.below (Mem.like HM3.out (by exact rfl)) hB3; have HL4 : Aside (w3.ownsRow (σ + 1) 56 1 (.slice (some a) N cp) N cs) := (by have := HM4.out.lists; rw [HLV.out, HN.out] at this; exact this); refine ⟨_, rfl, ?_⟩)
      | (refine step_append_lies _ (by rfl) (.tmp 80) (.tmp 83) 49 (by rfl) (σ + 1) 56 i0 _ 1 24 Try.underlying49 hi0 hz0 hsz0 hb0 rfl (by omega) (.slice (some a) N cp) N cs (by rfl) (by exact HL4.out.alloc _) ⟨w3.heap.size, 0, none⟩ 1 1 [.slice ao3 n c33] (by rfl) (by rfl) (World.news_of_block (cs := #[.slice ao3 n c33]) (t := 56) (fr := (0, 0)) (heap_alloc_new w3 _)) (by simp [Value.oneCell']) (by omega) (by unfold maxLen; omega) (by omega) (by simp; omega) (w3.heap.size + 1) (by simp) ?_; intro g4 cap4 w4 hown4 hgrow4 hat4 hlt4; obtain ⟨c4, f4⟩ := head_kept (k := a.block) (HM4.out.alloc _) (by exact hgrow4) (by omega); rw [HLV.out] at c4; have f40 := f4 0; have HM5 : Aside (Mem (w4.setCell ⟨σ, 0, none⟩ (.slice (some ⟨g4, 0, none⟩) (N + 1) cap4)) σ (.slice (some ⟨g4, 0, none⟩) (N + 1) cap4) (.slice so2 kn sc2) fv (some b) last (D ++ [r]) (cs ++ [.slice ao3 n c33]) fs) := (Mem.push (HM4.out.alloc _) (HC4.out.alloc _) (by rw [HLV.out]; exact hgrow4) (by rw [HN.out]; exact hown4) (by rw [HLV.out]; rcases hat4 with e | e; exact .inl e.symm; exact .inr (by subst e; simp [Value.ownBlock]))); have HP5 : Aside (MapOk (w4.setCell ⟨σ, 0, none⟩ (.slice (some ⟨g4, 0, none⟩) (N + 1) cap4)) (some b) D) := (MapOk.push (HP4.out.same (fun k es cl hk => Below.heap_alloc w3 _ k (lt_of_block hk))) (HL4.out.alloc _) hgrow4 (HM4.out.alloc _).blk _ _); have HO5 : Aside ((w4.setCell ⟨σ, 0, none⟩ (.slice (some ⟨g4, 0, none⟩) (N + 1) cap4)).ownsRow (σ + 1) 5 1 (.slice so2 kn sc2) kn (bc (key r))) := (own5_push (HO4.out.alloc _) (HL4.out.alloc _) hgrow4 _ _); have HB5 : Aside (Below σ w (w4.setCell ⟨σ, 0, none⟩ (.slice (some ⟨g4, 0, none⟩) (N + 1) cap4))) := (((HB4.out.alloc (Nat.le_of_succ_le hs3) _).grown hgrow4 (by simp; omega) (by intro k hk; cases hk; omega)).setCell (Nat.le_refl _) _)))
  all_goals
    (clear hown4 hgrow4 hat4 hlt4 c4 f4 f40 HM4 HL4 HC4 HB4 HP4 HO4 cA hs3 cS hown3 hB3 HM3 HP3 HO3 HB3 H1V c0 c1 c2 c3 f0 hszV hσV
     generalize w4.setCell ⟨σ, 0, none⟩ (.slice (some ⟨g4, 0, none⟩) (N + 1) cap4) = V5 at *)
  all_goals
    (obtain ⟨c0, c1, c2, c3⟩ := HM5.out.cell
     have HM6 : Aside (∃ w6, (Instr.mapUpdate 66 (.map (some b)) (.string (ks r)) (.int .u32 N)).run Try.prog V5.drew = .ok () w6 ∧ MapOk w6 (some b) (D ++ [r]) ∧ V5.drew.grownBy w6 (some b) ∧ (∀ cur e fz, V5.drew.heap[b]? ≠ some (.cells cur e fz))) := by
       have := upd_new (w := V5.drew) (HP5.out.same fun _ _ _ _ => rfl) HD.out HS.out (by rw [HN.out]; exact hNb)
       rw [HN.out] at this
       exact this
     obtain ⟨w6, hupd, hmap6, hg6, hnc6⟩ := HM6.out
     have HMM : Aside (MapOk w6 (some b) (D ++ [r])) := hmap6
     have HM7 : Aside (Mem w6 σ (.slice (some ⟨g4, 0, none⟩) (N + 1) cap4) (.slice so2 kn sc2) fv (some b) last (D ++ [r]) (cs ++ [.slice ao3 n c33]) fs) := Mem.map (Mem.like HM5.out (w' := V5.drew) rfl) hg6 hnc6
     have HB7 : Aside (Below σ w w6) := (HB5.out.drew).grown hg6 (by exact Nat.le_of_lt HM5.out.lt) (by intro k hk; cases hk; exact Nat.le_of_lt hbm)
     have hconv : (convert 22 9 (.slice so2 kn sc2)).run Try.prog V5.drew = .ok (.string (ks r)) V5.drew := by
       have := conv_own (w := V5.drew) (so := so2) (sc := sc2) (l := key r) (by rw [HKN.out]; exact HO5.out)
       rw [HKN.out] at this
       exact this
     have f63 := HM7.out.free 3
     have c63 := HM7.out.cell.2.2.2
     clear hmap6 hg6 hnc6 HM6 HM5 HP5 HO5 HB5
     go_wp2)
  all_goals go_region
  all_goals go_wp2
  all_goals go_ret
  all_goals exact ⟨_, _, _, rfl, HM7.out.setLast N, HMM.out.set HM7.out.blk _ _, HB7.out.setCell (Nat.le_refl _) _⟩
end Go.Proofs.Qxb6003361a
