import Derived.Test.Qxb6003361aRoI
namespace Go.Proofs.Qxb6003361a
open Go.RowKit Go.Maps

theorem cut_none (w : World) : (Instr.sliceAt 22 (.slice none 0 0) none (some (.int .i64 0)) none).run Try.prog w = .ok (.slice none 0 0) w := by
  go_simp
theorem cut_some (g n c : Nat) (w : World) : (Instr.sliceAt 22 (.slice (some ⟨g, 0, none⟩) n c) none (some (.int .i64 0)) none).run Try.prog w = .ok (.slice (some ⟨g, 0, none⟩) 0 c) w := by
  go_simp
/-- 'scratch[:0]' -/
theorem cut_own {w : World} {B : Nat} {sv : Value} {n : Nat} {bs : List Value} (h : w.ownsRow B 5 1 sv n bs) :
    ∃ sv0, (∀ w, (Instr.sliceAt 22 sv none (some (.int .i64 0)) none).run Try.prog w = .ok sv0 w) ∧ w.ownsRow B 5 1 sv0 0 [] := by
  rcases h.2 with ⟨rfl, rfl⟩ | ⟨g, cap, cur, rfl, hb, hh, h1, h2, h3, h4⟩
  · exact ⟨_, cut_none, World.ownsRow_nil _ _ _ _⟩
  · exact ⟨_, cut_some g n cap, by simp, .inr ⟨g, cap, cur, rfl, hb, hh, Nat.zero_le _, h2, h3, by simp⟩⟩

/-- 'string(scratch)' -/
theorem conv_own {w : World} {B : Nat} {so : Option Addr} {sc : Nat} {l : List UInt8} (h : w.ownsRow B 5 1 (.slice so l.length sc) l.length (bc l)) :
    (convert 22 9 (.slice so l.length sc)).run Try.prog w = .ok (.string ⟨l.toArray⟩) w := by
  rcases so with _ | a
  · have h0 : l = [] := by
      rcases h.2 with ⟨_, e⟩ | ⟨g, cap, cur, e, _⟩
      · exact List.eq_nil_of_length_eq_zero e
      · injection e with e; cases e
    subst h0
    exact Lib.run_convert_nil_bytes w 22 9 5 sc Try.underlying22 Try.underlying5 Try.underlying9
  · refine run_convert_bytes_back w 22 9 5 a sc l Try.underlying22 Try.underlying5 Try.underlying9 ?_
    intro j hj
    obtain ⟨a', e, q⟩ := own_cells h j (by rw [bc_len]; exact hj)
    cases e
    rw [q]
    congr 1
    unfold bc
    rw [List.getElem_map]

theorem look_found {w : World} {b : Nat} {D : List (List ByteArray)} {r : List ByteArray} {i : Nat} (h : MapOk w (some b) D) (hi : D[i]? = some r) (hs : SmallL r) :
    (Instr.lookup 66 (.map (some b)) (.string (ks r)) true).run Try.prog w = .ok (.tuple #[.int .u32 i, .bool true]) w := by
  rcases h with ⟨e, _⟩ | ⟨_, b', M, e, hown, hhas, hat⟩
  · cases e
  · cases e
    obtain ⟨v, ps, hrun, hv⟩ := hown.look_ok law9 Try.underlying66 (zero54 w) (plainElem_int (H := Unit) Try.underlying54 (by decide : (Lit.int .u32 0).wf = true)) (keyOf_ks hs)
    obtain ⟨hil, hie⟩ := List.getElem?_eq_some_iff.1 hi
    rw [(hhas r).2 (List.mem_of_getElem? hi)] at hrun
    have h2 := hat i hil
    rw [hie] at h2
    rw [h2] at hv
    obtain ⟨c, rfl, hc, _⟩ := plainElem_int_inv Try.underlying54 hv
    simp only [Prod.mk.injEq] at hc
    have hc := hc.1
    injection hc with hc
    injection hc with _ hc
    rw [hrun, hc]
theorem look_missing {w : World} {b : Nat} {D : List (List ByteArray)} {r : List ByteArray} (h : MapOk w (some b) D) (hi : r ∉ D) (hs : SmallL r) :
    ∃ c, (Instr.lookup 66 (.map (some b)) (.string (ks r)) true).run Try.prog w = .ok (.tuple #[.int .u32 c, .bool false]) w := by
  rcases h with ⟨e, _⟩ | ⟨_, b', M, e, hown, hhas, hat⟩
  · cases e
  · cases e
    obtain ⟨v, ps, hrun, hv⟩ := hown.look_ok law9 Try.underlying66 (zero54 w) (plainElem_int (H := Unit) Try.underlying54 (by decide : (Lit.int .u32 0).wf = true)) (keyOf_ks hs)
    have hf : Maps.has M (kl r) = false := by
      cases e : Maps.has M (kl r) with
      | false => rfl
      | true => exact absurd ((hhas r).1 e) hi
    rw [hf] at hrun
    obtain ⟨c, rfl, hc, _⟩ := plainElem_int_inv Try.underlying54 hv
    exact ⟨c, hrun⟩
theorem look_none (w : World) {r : List ByteArray} (hs : SmallL r) :
    (Instr.lookup 66 (.map none) (.string (ks r)) true).run Try.prog w = .ok (.tuple #[.int .u32 0, .bool false]) w := by
  have := Maps.look_nil (P := Try.prog) (w := w) (t := 66) (e := 54) true law9 Try.underlying66 (zero54 w) (keyOf_ks hs)
  simpa using this

theorem cells_kept {w w2 : World} {σ : Nat} {lv sv fv : Value} {mo : Option Nat} {last : Nat} {D : List (List ByteArray)} {cs fs : List Value} (h : Mem w σ lv sv fv mo last D cs fs) (hk : Kept5 (σ + 1) w w2) :
    w2.cell? ⟨σ, 0, none⟩ = some lv ∧ w2.cell? ⟨σ, 1, none⟩ = some (.map mo) ∧ w2.cell? ⟨σ, 2, none⟩ = some sv ∧ w2.cell? ⟨σ, 3, none⟩ = some (.int .u32 last) ∧ ∀ i, w2.frozen? ⟨σ, i, none⟩ = false := by
  have hblk : w2.heap[σ]? = some (.cells #[lv, .map mo, sv, .int .u32 last] 68 (0, 0)) := by rw [hk.block σ h.lt (.inl (Nat.lt_succ_self _))]; exact h.blk
  refine ⟨?_, ?_, ?_, ?_, ?_⟩
  · simp [World.cell?, hblk]
  · simp [World.cell?, hblk]
  · simp [World.cell?, hblk]
  · simp [World.cell?, hblk]
  · intro i; simp [World.frozen?, hblk]

theorem MapOk.scratch {w w' : World} {σ : Nat} {mo : Option Nat} {D : List (List ByteArray)} (h : MapOk w mo D) (hk : Kept5 (σ + 1) w w') {cur : Array Value} {e : TypeId} (hσ : w.heap[σ]? = some (.cells cur e (0, 0))) (i : Nat) (u : Value) : MapOk (w'.setCell ⟨σ, i, none⟩ u) mo D := by
  refine h.same fun b es cl hb => ?_
  rw [Below.heap_setCell _ _ _ _ (by rintro rfl; rw [hσ] at hb; cases hb), hk.block b (lt_of_block hb) (.inr fun cur fz e1 => by rw [hb] at e1; cases e1)]
theorem MapOk.set {w : World} {σ : Nat} {mo : Option Nat} {D : List (List ByteArray)} (h : MapOk w mo D) {cur : Array Value} {e : TypeId} (hσ : w.heap[σ]? = some (.cells cur e (0, 0))) (i : Nat) (u : Value) : MapOk (w.setCell ⟨σ, i, none⟩ u) mo D := by
  refine h.same fun b es cl hb => ?_
  rw [Below.heap_setCell _ _ _ _ (by rintro rfl; rw [hσ] at hb; cases hb)]
theorem MapOk.drewN {w : World} {mo : Option Nat} {D : List (List ByteArray)} (h : MapOk w mo D) (n : Nat) : MapOk (w.drewN n) mo D := h.same fun _ _ _ _ => rfl
theorem Below.drewN' (B : Nat) (w : World) (n : Nat) : Below B w (w.drewN n) := ⟨rfl, rfl, rfl, Nat.le_refl _, fun _ _ => rfl⟩

set_option maxHeartbeats 1600000 in
theorem of_found {w : World} {σ : Nat} {lv sv fv : Value} {b : Nat} {last : Nat} {D : List (List ByteArray)} {cs fs : List Value} (h : Mem w σ lv sv fv (some b) last D cs fs) (hm : MapOk w (some b) D) (ao : Option Addr) (n c i : Nat) (r : List ByteArray)
    (hl : last < D.length) (hne : D[last]? ≠ some r) (hb : D.length ≤ 1048576) (hr : Strs w ao r) (hin : ∀ a, ao = some a → a.block < σ) (hn : r.length = n) (hs : SmallL r) (hi : D[i]? = some r) (hD : ∀ d ∈ D, SmallL d) :
    Calls Try.prog 51 #[.pointer (some ⟨σ, 0, none⟩), .slice ao n c] w fun e w' => ∃ sv', e = .returned (.int .u32 i) ∧ Mem w' σ lv sv' fv (some b) i D cs fs ∧ MapOk w' (some b) D ∧ Below σ w w' := by
  obtain ⟨c0, c1, c2, c3⟩ := h.cell
  have hn2 : n ≤ 1048576 := by rw [← hn]; exact hs.1
  obtain ⟨a, cp, bo, cc, d, hlv, q, hS, hd⟩ := last_facts h hl
  have hdr : d ≠ r := fun e => hne (by rw [hd, e])
  have hdec : decide (d = r) = false := decide_eq_false hdr
  have hdl : d.length ≤ 1048576 := (hD d (List.mem_of_getElem? hd)).1
  obtain ⟨sn, sbs, hscr⟩ := h.scr
  obtain ⟨sv0, hcut, hown0⟩ := cut_own hscr
  have H1 : Aside (Strs w ao r) := hr
  have H2 : Aside (Strs w bo d) := hS
  have HH : Aside (Mem w σ lv sv fv (some b) last D cs fs) := h
  have HM : Aside (MapOk w (some b) D) := hm
  have HI : Aside (∀ a, ao = some a → a.block < σ + 1) := fun a e => Nat.lt_succ_of_lt (hin a e)
  have HS : Aside (SmallL r) := hs
  have HD : Aside (D[i]? = some r) := hi
  have H0 : Aside (w.ownsRow (σ + 1) 5 1 sv0 0 []) := hown0
  have hsz : σ + 1 ≤ w.heap.size := h.lt
  have L : Hid (r.length = n) := hn
  obtain ⟨dn, hdn⟩ : ∃ dn, dn = d.length := ⟨_, rfl⟩
  rw [← hdn] at q hdl
  have LD : Hid (d.length = dn) := hdn.symm
  have HLV : Aside (lv = .slice (some a) D.length cp) := hlv
  rw [hlv] at c0
  clear h hr hS hn hm hin hs hi hscr hown0 hdn hlv hd hne hdr hD
  generalize hN : D.length = N at c0 hl hb HLV
  clear hN
  go_enter Try.func51, Try.ntmps51
  go_wp2_with (fail)
  go_quiet ((go_at_call 57; exact Calls.quiet_of (same57 _ bo ao dn n cc c d r H2.out H1.out LD.out L.out hdl hn2)))
  go_wp2_with (go_at_call 58; refine (key58 (w.drewN nq) (σ + 1) sv0 ao n c r H1.out HI.out HS.out L.out hsz H0.out).mono ?_; rintro e w2 ⟨v2, rfl, hown2, hk2⟩; obtain ⟨so2, sc2, rfl⟩ := own_shape hown2; obtain ⟨d0, d1, d2, d3, df⟩ := cells_kept (HH.out.drewN nq) hk2; have df2 := df 2)
  have HM2 : Aside (Mem (w2.setCell ⟨σ, 2, none⟩ (.slice so2 (key r).length sc2)) σ lv (.slice so2 (key r).length sc2) fv (some b) last D cs fs) := Mem.scratch (HH.out.drewN nq) hk2 hown2
  have HP2 : Aside (MapOk (w2.setCell ⟨σ, 2, none⟩ (.slice so2 (key r).length sc2)) (some b) D) := MapOk.scratch (HM.out.drewN nq) hk2 (HH.out.drewN nq).blk _ _
  have HO2 : Aside ((w2.setCell ⟨σ, 2, none⟩ (.slice so2 (key r).length sc2)).ownsRow (σ + 1) 5 1 (.slice so2 (key r).length sc2) (key r).length (bc (key r))) := own_set hown2 (Nat.lt_succ_self _) _ _
  have HB2 : Aside (Below σ w (w2.setCell ⟨σ, 2, none⟩ (.slice so2 (key r).length sc2))) := ((Below.drewN' σ w nq).trans ((hk2.below hsz).mono (Nat.le_succ _))).setCell (Nat.le_refl _) _
  clear hown2 hk2 d0 d1 d2 d3 df df2 c0 c1 c2 c3
  generalize hW : w2.setCell ⟨σ, 2, none⟩ (.slice so2 (key r).length sc2) = W at *
  clear hW
  obtain ⟨c0, c1, c2, c3⟩ := HM2.out.cell
  have f3 := HM2.out.free 3
  have hconv : ∀ m, (convert 22 9 (.slice so2 (key r).length sc2)).run Try.prog (W.drewN m) = .ok (.string (ks r)) (W.drewN m) := fun m => conv_own (w := W.drewN m) HO2.out
  have hlook : ∀ m, (Instr.lookup 66 (.map (some b)) (.string (ks r)) true).run Try.prog (W.drewN m) = .ok (.tuple #[.int .u32 i, .bool true]) (W.drewN m) := fun m => look_found (HP2.out.drewN m) HD.out HS.out
  generalize (key r).length = kn at *
  go_quiet (fail)
  go_wp2
  go_ret
  exact ⟨_, rfl, (HM2.out.drewN _).setLast i, (HP2.out.drewN _).set (HM2.out.drewN _).blk _ _, (HB2.out.trans (Below.drewN' _ _ _)).setCell (Nat.le_refl _) _⟩
end Go.Proofs.Qxb6003361a
