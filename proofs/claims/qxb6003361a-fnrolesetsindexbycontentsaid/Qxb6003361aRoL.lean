import Derived.Test.Qxb6003361aRoK
namespace Go.Proofs.Qxb6003361a
open Go.RowKit Go.Maps

/-- the map just made -/
def MapE (w : World) (b : Nat) : Prop := w.ownsMap (H := Unit) Try.prog 9 (plainElem Try.prog 54) b 0 (.map [])
theorem MapE.same {w w' : World} {b : Nat} (h : MapE w b) (hs : ∀ (b : Nat) (es : Array MapEntry) (cl : Nat), w.heap[b]? = some (.map es cl) → w'.heap[b]? = w.heap[b]?) : MapE w' b := by
  obtain ⟨es, clock, hb, h2⟩ := h
  exact ⟨es, clock, by rw [hs b es clock hb]; exact hb, h2⟩
theorem MapE.set {w : World} {σ : Nat} {b : Nat} (h : MapE w b) {cur : Array Value} {e : TypeId} (hσ : w.heap[σ]? = some (.cells cur e (0, 0))) (i : Nat) (u : Value) : MapE (w.setCell ⟨σ, i, none⟩ u) b := by
  refine h.same fun b es cl hb => ?_
  rw [Below.heap_setCell _ _ _ _ (by rintro rfl; rw [hσ] at hb; cases hb)]
theorem MapE.push {w w4 : World} {σ : Nat} {b : Nat} (h : MapE w b) (hg : w.grownBy w4 none) {cur : Array Value} {e : TypeId} (hσ : w.heap[σ]? = some (.cells cur e (0, 0))) (i : Nat) (u : Value) : MapE (w4.setCell ⟨σ, i, none⟩ u) b := by
  refine h.same fun b es cl hb => ?_
  rw [Below.heap_setCell _ _ _ _ (by rintro rfl; rw [hσ] at hb; cases hb)]
  exact hg.block b (lt_of_block hb) (by simp)
theorem upd_first {w : World} {b : Nat} {r : List ByteArray} (hown : MapE w b) (hs : SmallL r) :
    ∃ w6, (Instr.mapUpdate 66 (.map (some b)) (.string (ks r)) (.int .u32 0)).run Try.prog w = .ok () w6 ∧ MapOk w6 (some b) [r] ∧ w.grownBy w6 (some b) ∧ (∀ cur e fz, w.heap[b]? ≠ some (.cells cur e fz)) := by
  have hmap : ∀ cur e fz, w.heap[b]? ≠ some (.cells cur e fz) := by
    obtain ⟨es, cl, hb', _⟩ := hown
    intro cur e fz e1
    rw [hb'] at e1
    cases e1
  have hi : IsMap (.map [] : DataW Unit) := isMap_empty
  obtain ⟨w6, hrun, hown6, hg⟩ := World.ownsMap.update hown law9 Try.underlying66 (by unfold maxLen; omega) (keyOf_ks hs) (plainElem_int (H := Unit) Try.underlying54 (by decide : (Lit.int .u32 0).wf = true))
  refine ⟨w6, hrun, .inr ⟨by simp, b, _, rfl, hown6, ?_, ?_⟩, hg, hmap⟩
  · intro s
    by_cases e : s = r
    · subst e
      rw [Maps.has_put_same hi (by simp [WideAt.IsKeyLit, kl])]
      simp
    · rw [Maps.has_put_other (fun e1 => e (kl_inj e1))]
      simp [e, Maps.has]
  · intro i hil
    have hi2 : i = 0 := by simp at hil; omega
    subst hi2
    exact Maps.atKey_put_same (k := kl r) hi (by simp [WideAt.IsKeyLit, kl]) _ _
theorem head_kept0 {w w4 : World} {σ : Nat} {lv sv fv : Value} {mo : Option Nat} {last : Nat} {D : List (List ByteArray)} {cs fs : List Value} (h : Mem w σ lv sv fv mo last D cs fs) (hg : w.grownBy w4 none) :
    w4.cell? ⟨σ, 0, none⟩ = some lv ∧ ∀ i, w4.frozen? ⟨σ, i, none⟩ = false := by
  have e := hg.block σ h.lt (by simp)
  exact ⟨(World.cell?_of_block (w := w) (a := ⟨σ, 0, none⟩) e).trans h.cell.1, fun i => (World.frozen?_of_block (w := w) (a := ⟨σ, i, none⟩) e).trans (h.free i)⟩

set_option maxHeartbeats 1600000 in
theorem of_first {w : World} {σ : Nat} {fv : Value} {fs : List Value} (h : Mem w σ (.slice none 0 0) (.slice none 0 0) fv none 0 [] [] fs) (ao : Option Addr) (n c : Nat) (r : List ByteArray)
    (hr : Strs w ao r) (hin : ∀ a, ao = some a → a.block < σ) (hn : r.length = n) (hs : SmallL r) :
    Calls Try.prog 51 #[.pointer (some ⟨σ, 0, none⟩), .slice ao n c] w fun e w' => ∃ lv' sv' cs' b, e = .returned (.int .u32 0) ∧ Mem w' σ lv' sv' fv (some b) 0 [r] cs' fs ∧ MapOk w' (some b) [r] ∧ σ < b ∧ Below σ w w' := by
  obtain ⟨c0, c1, c2, c3⟩ := h.cell
  have hn2 : n ≤ 1048576 := by rw [← hn]; exact hs.1
  have hcut := cut_none
  have H1 : Aside (Strs w ao r) := hr
  have HH : Aside (Mem w σ (.slice none 0 0) (.slice none 0 0) fv none 0 [] [] fs) := h
  have HI : Aside (∀ a, ao = some a → a.block < σ + 1) := fun a e => Nat.lt_succ_of_lt (hin a e)
  have HI0 : Aside (∀ a, ao = some a → a.block < σ) := hin
  have HS : Aside (SmallL r) := hs
  have hsz : σ + 1 ≤ w.heap.size := h.lt
  have L : Hid (r.length = n) := hn
  clear h hr hn hin hs
  go_enter Try.func51, Try.ntmps51
  go_wp2_with (fail)
  go_quiet (fail)
  go_wp2_with (go_at_call 58; refine (key58 (w.drewN nq) (σ + 1) (.slice none 0 0) ao n c r H1.out HI.out HS.out L.out hsz (World.ownsRow_nil _ _ _ _)).mono ?_; rintro e w2 ⟨v2, rfl, hown2, hk2⟩; obtain ⟨so2, sc2, rfl⟩ := own_shape hown2; obtain ⟨d0, d1, d2, d3, df⟩ := cells_kept (HH.out.drewN nq) hk2; have df2 := df 2)
  have HM2 : Aside (Mem (w2.setCell ⟨σ, 2, none⟩ (.slice so2 (key r).length sc2)) σ (.slice none 0 0) (.slice so2 (key r).length sc2) fv none 0 [] [] fs) := Mem.scratch (HH.out.drewN nq) hk2 hown2
  have HO2 : Aside ((w2.setCell ⟨σ, 2, none⟩ (.slice so2 (key r).length sc2)).ownsRow (σ + 1) 5 1 (.slice so2 (key r).length sc2) (key r).length (bc (key r))) := own_set hown2 (Nat.lt_succ_self _) _ _
  have HB2 : Aside (Below σ w (w2.setCell ⟨σ, 2, none⟩ (.slice so2 (key r).length sc2))) := ((Below.drewN' σ w nq).trans ((hk2.below hsz).mono (Nat.le_succ _))).setCell (Nat.le_refl _) _
  clear hown2 hk2 d0 d1 d2 d3 df df2 c0 c1 c2 c3
  generalize hW : w2.setCell ⟨σ, 2, none⟩ (.slice so2 (key r).length sc2) = W at *
  clear hW
  obtain ⟨c0, c1, c2, c3⟩ := HM2.out.cell
  have f1 := HM2.out.free 1
  have hconv : ∀ m, (convert 22 9 (.slice so2 (key r).length sc2)).run Try.prog (W.drewN m) = .ok (.string (ks r)) (W.drewN m) := fun m => conv_own (w := W.drewN m) HO2.out
  have hlook : ∀ m, (Instr.lookup 66 (.map none) (.string (ks r)) true).run Try.prog (W.drewN m) = .ok (.tuple #[.int .u32 0, .bool false]) (W.drewN m) := fun m => look_none _ HS.out
  have hmn := map_nil
  have hmm := @run_makeMap Try.prog
  have hAc : ∀ m o i, ((W.drewN m).alloc o).cell? ⟨σ, i, none⟩ = W.cell? ⟨σ, i, none⟩ := fun m o i => World.cell?_of_block (w := W.drewN m) (a := ⟨σ, i, none⟩) (Below.heap_alloc (W.drewN m) o σ HM2.out.lt)
  have hAf : ∀ m o i, ((W.drewN m).alloc o).frozen? ⟨σ, i, none⟩ = W.frozen? ⟨σ, i, none⟩ := fun m o i => World.frozen?_of_block (w := W.drewN m) (a := ⟨σ, i, none⟩) (Below.heap_alloc (W.drewN m) o σ HM2.out.lt)
  have H1W : Aside (Strs W ao r) := H1.out.lower HB2.out HI0.out
  have hszW : σ + 1 ≤ W.heap.size := HM2.out.lt
  generalize hkn : (key r).length = kn at *
  have HKN : Hid ((key r).length = kn) := hkn
  clear hkn
  go_quiet (fail)
  go_wp2_with (fail)
  have HM3 : Aside (Mem (((W.drewN nq).alloc (Obj.map #[] 0)).setCell ⟨σ, 1, none⟩ (.map (some W.heap.size))) σ (.slice none 0 0) (.slice so2 kn sc2) fv (some W.heap.size) 0 [] [] fs) := ((HM2.out.drewN nq).alloc _).setMap _
  have HP3 : Aside (MapE (((W.drewN nq).alloc (Obj.map #[] 0)).setCell ⟨σ, 1, none⟩ (.map (some W.heap.size))) W.heap.size) := MapE.set (World.ownsMap_made (W.drewN nq) Try.prog 9 (plainElem Try.prog 54)) ((HM2.out.drewN nq).alloc _).blk _ _
  have HO3 : Aside ((((W.drewN nq).alloc (Obj.map #[] 0)).setCell ⟨σ, 1, none⟩ (.map (some W.heap.size))).ownsRow (σ + 1) 5 1 (.slice so2 kn sc2) kn (bc (key r))) := own_set (World.ownsRow.alloc (w := W.drewN nq) HO2.out _) (Nat.lt_succ_self _) _ _
  have HB3 : Aside (Below σ w (((W.drewN nq).alloc (Obj.map #[] 0)).setCell ⟨σ, 1, none⟩ (.map (some W.heap.size)))) := ((HB2.out.trans (Below.drewN' _ _ nq)).alloc (Nat.le_of_lt HM2.out.lt) _).setCell (Nat.le_refl _) _
  have hbm : σ < W.heap.size := HM2.out.lt
  have H1V : Aside (Strs (((W.drewN nq).alloc (Obj.map #[] 0)).setCell ⟨σ, 1, none⟩ (.map (some W.heap.size))) ao r) := H1.out.lower HB3.out HI0.out
  clear HM2 HO2 HB2 H1W hconv hlook hmn hmm hAc hAf c0 c1 c2 c3 f1 H1 HH hsz hszW hcut
  generalize ((W.drewN nq).alloc (Obj.map #[] 0)).setCell ⟨σ, 1, none⟩ (.map (some W.heap.size)) = V at *
  generalize W.heap.size = b at *
  obtain ⟨c0, c1, c2, c3⟩ := HM3.out.cell
  have f0 := HM3.out.free 0
  have hszV : σ + 1 ≤ V.heap.size := HM3.out.lt
  have hσV : σ < V.heap.size := HM3.out.lt
  obtain ⟨i0, hi0, hz0, hsz0, hb0⟩ := info_parts info56
  go_region_law
    (first
      | (refine step_call (by rfl) 59 (.tmp 81) 56 (.slice ao n c) (by rfl) (by rfl) call59 ((clone59 _ (σ + 1) ao n c r (by exact H1V.out) L.out hn2 (by exact hszV)).mono ?_); rintro e w3 ⟨ao3, c33, rfl, hown3, hB3⟩; have cS : w3.cell? ⟨σ, 0, none⟩ = some (.slice none 0 0) := (hB3.cell (p := ⟨σ, 0, none⟩) (by exact hσV)).trans (by exact c0); have hs3 : σ + 1 ≤ w3.heap.size := Nat.le_trans hszV (by exact hB3.size); have cA : ∀ o, (w3.alloc o).cell? ⟨σ, 0, none⟩ = some (.slice none 0 0) := (fun o => (World.cell?_of_block (w := w3) (w' := w3.alloc o) (a := ⟨σ, 0, none⟩) (Below.heap_alloc w3 o σ hs3)).trans cS); have HC4 : Aside (w3.ownsRow (σ + 1) 9 1 (.slice ao3 n c33) r.length (r.map .string)) := (by rw [L.out]; exact hown3); have HB4 : Aside (Below σ w w3) := HB3.out.trans (Below.trans (b := V.drew) ⟨rfl, rfl, rfl, Nat.le_refl _, fun _ _ => rfl⟩ (Below.mono hB3 (by exact Nat.le_of_lt hσV))); have HP4 : Aside (MapE w3 b) := HP3.out.same (fun k es cl hk => by exact hB3.block k (lt_of_block hk)); have HO4 : Aside (w3.ownsRow (σ + 1) 5 1 (.slice so2 kn sc2) kn (bc (key r))) := own_same HO3.out (fun g cur _ _ hk => by exact hB3.block g (lt_of_block hk)); have HM4 : Aside (Mem w3 σ (.slice none 0 0) (.slice so2 kn sc2) fv (some b) 0 [] [] fs) := Mem.below (Mem.like HM3.out (by exact rfl)) hB3; refine ⟨_, rfl, ?_⟩)
      | (refine step_append_lies _ (by rfl) (.tmp 80) (.tmp 83) 49 (by rfl) (σ + 1) 56 i0 _ 1 24 Try.underlying49 hi0 hz0 hsz0 hb0 rfl (by omega) (.slice none 0 0) 0 [] (by rfl) (by exact World.ownsRow_nil _ _ _ _) ⟨w3.heap.size, 0, none⟩ 1 1 [.slice ao3 n c33] (by rfl) (by rfl) (World.news_of_block (cs := #[.slice ao3 n c33]) (t := 56) (fr := (0, 0)) (heap_alloc_new w3 _)) (by simp [Value.oneCell']) (by omega) (by unfold maxLen; omega) (by omega) (by simp; omega) (w3.heap.size + 1) (by simp) ?_; intro g4 cap4 w4 hown4 hgrow4 hat4 hlt4; obtain ⟨c4, f4⟩ := head_kept0 (HM4.out.alloc _) (by exact hgrow4); have f40 := f4 0; have HM5 : Aside (Mem (w4.setCell ⟨σ, 0, none⟩ (.slice (some ⟨g4, 0, none⟩) 1 cap4)) σ (.slice (some ⟨g4, 0, none⟩) 1 cap4) (.slice so2 kn sc2) fv (some b) 0 [r] [.slice ao3 n c33] fs) := (Mem.push (HM4.out.alloc _) (HC4.out.alloc _) (by exact hgrow4) (by exact hown4) (by rcases hat4 with e | e; exact .inl e.symm; exact .inr (by subst e; simp [Value.ownBlock]))); have HP5 : Aside (MapE (w4.setCell ⟨σ, 0, none⟩ (.slice (some ⟨g4, 0, none⟩) 1 cap4)) b) := (MapE.push (HP4.out.same (fun k es cl hk => Below.heap_alloc w3 _ k (lt_of_block hk))) hgrow4 (HM4.out.alloc _).blk _ _); have HO5 : Aside ((w4.setCell ⟨σ, 0, none⟩ (.slice (some ⟨g4, 0, none⟩) 1 cap4)).ownsRow (σ + 1) 5 1 (.slice so2 kn sc2) kn (bc (key r))) := (own5_push (HO4.out.alloc _) (World.ownsRow_nil _ (σ + 1) 56 1) hgrow4 _ _); have HB5 : Aside (Below σ w (w4.setCell ⟨σ, 0, none⟩ (.slice (some ⟨g4, 0, none⟩) 1 cap4))) := (((HB4.out.alloc (Nat.le_of_succ_le hs3) _).grown hgrow4 (by simp; omega) (by intro k hk; cases hk)).setCell (Nat.le_refl _) _)))
  all_goals
    (clear hown4 hgrow4 hat4 hlt4 c4 f4 f40 HM4 HC4 HB4 HP4 HO4 cA hs3 cS hown3 hB3 HM3 HP3 HO3 HB3 H1V c0 c1 c2 c3 f0 hszV hσV
     generalize w4.setCell ⟨σ, 0, none⟩ (.slice (some ⟨g4, 0, none⟩) 1 cap4) = V5 at *)
  all_goals
    (obtain ⟨c0, c1, c2, c3⟩ := HM5.out.cell
     obtain ⟨w6, hupd, hmap6, hg6, hnc6⟩ := upd_first (w := V5.drew) (HP5.out.same fun _ _ _ _ => rfl) HS.out
     have HMM : Aside (MapOk w6 (some b) [r]) := hmap6
     have HM7 : Aside (Mem w6 σ (.slice (some ⟨g4, 0, none⟩) 1 cap4) (.slice so2 kn sc2) fv (some b) 0 [r] [.slice ao3 n c33] fs) := Mem.map (Mem.like HM5.out (w' := V5.drew) rfl) hg6 hnc6
     have HB7 : Aside (Below σ w w6) := (HB5.out.drew).grown hg6 (by exact Nat.le_of_lt HM5.out.lt) (by intro k hk; cases hk; exact Nat.le_of_lt hbm)
     have hconv : (convert 22 9 (.slice so2 kn sc2)).run Try.prog V5.drew = .ok (.string (ks r)) V5.drew := by
       have := conv_own (w := V5.drew) (so := so2) (sc := sc2) (l := key r) (by rw [HKN.out]; exact HO5.out)
       rw [HKN.out] at this
       exact this
     have f63 := HM7.out.free 3
     have c63 := HM7.out.cell.2.2.2
     clear hmap6 hg6 hnc6 HM5 HP5 HO5 HB5
     go_wp2)
  all_goals go_region
  all_goals go_wp2
  all_goals go_ret
  all_goals exact ⟨_, _, _, _, rfl, HM7.out.setLast 0, HMM.out.set HM7.out.blk _ _, hbm, HB7.out.setCell (Nat.le_refl _) _⟩
end Go.Proofs.Qxb6003361a
