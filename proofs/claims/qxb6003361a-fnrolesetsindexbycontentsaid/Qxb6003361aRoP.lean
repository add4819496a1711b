import Derived.Test.Qxb6003361aRoO
namespace Go.Proofs.Qxb6003361a
open Go.RowKit Go.Maps

theorem Outer.shape {R : List (List ByteArray)} {w1 wr : World} {σ k : Nat} {fv : Value} {D : List (List ByteArray)} {fs : List Value} (h : Outer R w1 σ k fv wr D fs) : ∃ fo fc, fv = .slice fo fs.length fc := by
  obtain ⟨_, _, _, _, _, hm⟩ := h.st.mem
  exact own_shape hm.firsts

theorem first_at {w : World} {σ : Nat} {fo : Option Addr} {fc n : Nat} {D D' : List (List ByteArray)} {fs : List Value} (h : State w σ (.slice fo n fc) D' fs) (hn : fs.length = n) (hf : FirstsOk w σ D fs) (j : Nat) (hj : j < n) :
    ∃ a xo xc d, fo = some a ∧ w.cell? (a.add j) = some (.slice xo d.length xc) ∧ Strs w xo d ∧ D[j]? = some d := by
  obtain ⟨_, _, _, _, _, hm⟩ := h.mem
  have ho := hm.firsts
  rw [hn] at ho
  obtain ⟨a, e, q⟩ := own_cells ho j (by omega)
  have hjD : j < D.length := by rw [← hf.1]; omega
  obtain ⟨xo, xc, ex, hS, _⟩ := hf.2 j D[j] fs[j] (List.getElem?_eq_getElem hjD) (List.getElem?_eq_getElem (by omega))
  rw [ex] at q
  exact ⟨a, xo, xc, D[j], e, q, hS, List.getElem?_eq_getElem hjD⟩
theorem count_st {w : World} {σ : Nat} {fv : Value} {D : List (List ByteArray)} {fs : List Value} (h : State w σ fv D fs) :
    Calls Try.prog 41 #[.pointer (some ⟨σ, 0, none⟩)] w fun e w' => e = .returned (.int .i64 D.length) ∧ w' = w := by
  obtain ⟨_, _, _, _, _, hm⟩ := h.mem
  exact count41 hm
theorem Outer.step_same {R : List (List ByteArray)} {w1 wr w2 : World} {σ k : Nat} {fv : Value} {D : List (List ByteArray)} {fs : List Value} (h : Outer R w1 σ k fv wr D fs) (hs : State w2 σ fv D fs) (hB : Below σ wr w2) (x : Nat) :
    Outer R w1 σ (k + 1) fv (w2.drewN x) D fs :=
  ⟨hs.drewN x, h.fo.below (hB.trans (Below.drewN' _ _ _)), h.bl.trans (hB.trans (Below.drewN' _ _ _)), h.nd, h.from_, Nat.le_succ_of_le h.len⟩
theorem Outer.step_new {R : List (List ByteArray)} {w1 wr w3 : World} {σ k : Nat} {fv fv' : Value} {D : List (List ByteArray)} {fs : List Value} {r : List ByteArray} {bo : Option Addr} {cc : Nat} (h : Outer R w1 σ k fv wr D fs)
    (hs : State w3 σ fv' (D ++ [r]) (fs ++ [.slice bo r.length cc])) (hB : Below σ wr w3) (hr : r ∈ R) (hn : r ∉ D) (hS : Strs w3 bo r) (hb : ∀ b, bo = some b → b.block < σ) :
    Outer R w1 σ (k + 1) fv' w3 (D ++ [r]) (fs ++ [.slice bo r.length cc]) := by
  refine ⟨hs, (h.fo.below hB).push hS hb, h.bl.trans hB, adds_nodup (.inr ⟨hn, rfl⟩) h.nd, ?_, ?_⟩
  · intro d hd
    rcases List.mem_append.1 hd with hd | hd
    · exact h.from_ d hd
    · simp at hd; subst hd; exact hr
  · have := h.len
    simp; omega

theorem list42_cells {w : World} {σ i n c m c' : Nat} {a : Addr} {bo : Option Addr} (c0 : w.cell? ⟨σ, 0, none⟩ = some (.slice (some a) n c)) (hi : i < n) (q : w.cell? (a.add i) = some (.slice bo m c')) :
    Calls Try.prog 42 #[.pointer (some ⟨σ, 0, none⟩), .int .i64 i] w fun e w' => e = .returned (.slice bo m c') ∧ w' = w := by
  go_enter Try.func42, Try.ntmps42
  go_wp2
  go_ret
  exact ⟨rfl, rfl⟩
theorem list_st {w : World} {σ : Nat} {fv : Value} {D : List (List ByteArray)} {fs : List Value} (h : State w σ fv D fs) {i : Nat} {d : List ByteArray} (hi : D[i]? = some d) :
    ∃ bo c, Strs w bo d ∧ ∀ y, Calls Try.prog 42 #[.pointer (some ⟨σ, 0, none⟩), .int .i64 i] (w.drewN y) fun e w' => e = .returned (.slice bo d.length c) ∧ w' = w.drewN y := by
  obtain ⟨lv, sv, mo, last, cs, h⟩ := h.mem
  have hil := (List.getElem?_eq_some_iff.1 hi).1
  have hlen : cs.length = D.length := by have := h.lists.1; omega
  have he := h.each i d cs[i] hi (List.getElem?_eq_getElem (by omega))
  obtain ⟨bo, c', hc'⟩ := own_shape he
  rw [hc'] at he
  have c0 := h.cell.1
  obtain ⟨ao, c, rfl⟩ := own_shape h.lists
  obtain ⟨a, e, q⟩ := own_cells h.lists i (by omega)
  subst e
  rw [hc'] at q
  exact ⟨bo, c', own_strs he, fun y => list42_cells (w := w.drewN y) (by rw [cell_drewN]; exact c0) hil (by rw [cell_drewN]; exact q)⟩

set_option maxHeartbeats 1600000 in
theorem law_walk (w : World) (ao : Option Addr) (n c : Nat) (R : List (List ByteArray)) (hR : Script w ao R) (hF : Fits R) (hl : R.length = n) (hn : n ≤ 9223372036854775807) :
    Calls Try.prog 9 #[.slice ao n c] w fun e w' => e = .returned (.bool true) ∧ Below w.heap.size w w' := by
  have K35 := bytes35 w ao n c R hR hF hl hn
  have HR : Aside (Script w ao R) := hR
  have L : Hid (R.length = n) := hl
  clear hR hF hl
  go_enter Try.func9, Try.ntmps9
  go_wp2_with (fail)
  refine K35.mono ?_
  rintro e w' ⟨v, rfl, hw, hv⟩
  have hw := hw.symm
  subst hw
  clear K35
  rcases hv with rfl | ⟨rfl, hsm⟩
  · go_wp2
    go_ret
    exact ⟨rfl, Below.refl _ _⟩
  · have K36 := small36 w ao n c R HR.out hsm L.out
    have HSM : Aside (Small R) := hsm
    clear hsm
    go_wp2_with (fail)
    refine K36.mono ?_
    rintro e w' ⟨v, rfl, hw, hv⟩
    have hw := hw.symm
    subst hw
    clear K36
    rcases hv with rfl | rfl
    · go_wp2
      go_ret
      exact ⟨rfl, Below.refl _ _⟩
    · have K37 := clone37 w ao n c R HR.out HSM.out L.out
      go_wp2_with (first
        | (go_at_call 37; refine K37.mono ?_; rintro e w1 ⟨v, rfl, ⟨ao1, c1, rfl, hS1⟩, hB1⟩; have HS1 : Aside (ScriptLt w1 ao1 R w1.heap.size) := hS1; clear hS1)
        | (go_at_call 38; refine (new38 _).mono ?_; rintro e w2 ⟨rfl, rfl⟩))
      generalize hw2 : w1.alloc (.cells #[.slice none 0 0, .map none, .slice none 0 0, .int .u32 0] 68) = w2
      have H2 : Aside (State w2 w1.heap.size (.slice none 0 0) [] []) := by rw [← hw2]; exact state_new w1
      have HB2 : Aside (Below w1.heap.size w1 w2) := by rw [← hw2]; exact (Below.refl _ _).alloc (Nat.le_refl _) _
      have hn2 : n ≤ 1048576 := by rw [← L.out]; exact HSM.out.1
      have hσ : w.heap.size ≤ w1.heap.size := hB1.size
      have HB1 : Aside (Below w.heap.size w w1) := hB1
      clear hw2 hB1 K37
      generalize hσe : w1.heap.size = σ at *
      have HE : Hid (w1.heap.size = σ) := hσe
      clear hσe
      go_loopg [4, 5] n (fun g fv iv wr => ∃ (k : Nat) (D : List (List ByteArray)) (fs : List Value), k + g = n ∧ iv = .int .i64 k ∧ Outer R w1 σ k fv wr D fs)
      case atStart => exact ⟨0, [], [], by omega, rfl, ⟨H2.out, ⟨rfl, fun i d x h1 => by simp at h1⟩, HB2.out, List.nodup_nil, fun d hd => absurd hd (by simp), Nat.le_refl _⟩⟩
      case round =>
        obtain ⟨k, D, fs, hk, rfl, hO⟩ := hrel
        obtain ⟨fo, fc, rfl⟩ := hO.shape
        by_cases hlt : k < n
        · have hkR : k < R.length := by rw [L.out]; exact hlt
          obtain ⟨a, bo, cc, e, q, hSk, hbo, ha⟩ := ScriptLt.at (w := w1) (w' := wr) (by rw [HE.out]; exact HS1.out) (by rw [HE.out]; exact hO.bl) k hkR
          subst e
          rw [HE.out] at hbo ha
          have hM : SmallL R[k] := HSM.out.2 k hkR
          have hDk : D.length ≤ 1048576 := by have := hO.len; omega
          have K39 := of39 hO.st bo _ cc R[k] hDk hSk hbo rfl hM (fun d hd => by
            obtain ⟨x, hx, e⟩ := List.getElem_of_mem (hO.from_ d hd)
            rw [← e]; exact HSM.out.2 x hx)
          have HO : Aside (Outer R w1 σ k (.slice fo fs.length fc) wr D fs) := hO
          have HRk : Aside (R[k] ∈ R) := List.getElem_mem hkR
          have hnk : R[k].length ≤ 1048576 := hM.1
          have HSk : Aside (Strs wr bo R[k]) := hSk
          have Hbo : Aside (∀ b, bo = some b → b.block < σ) := hbo
          clear hO hSk hbo hM
          generalize hr : R[k] = r at *
          clear hr hkR
          generalize hln : r.length = ln at *
          have LN : Hid (r.length = ln) := hln
          clear hln
          go_wp2_with (go_at_call 39; refine K39.mono ?_; rintro e w2 ⟨i, D', rfl, hA, hi, hst, hB2⟩)
          have HST : Aside (State w2 σ (.slice fo fs.length fc) D' fs) := hst
          have HB2 : Aside (Below σ wr w2) := hB2
          have HFO : Aside (FirstsOk w2 σ D fs) := HO.out.fo.below hB2
          have HDs : Aside (∀ d ∈ D, d.length ≤ 1048576) := fun d hd => by
            obtain ⟨x, hx, e⟩ := List.getElem_of_mem (HO.out.from_ d hd)
            rw [← e]; exact (HSM.out.2 x hx).1
          have q2 : w2.cell? (a.add k) = some (.slice bo ln cc) := by rw [hB2.cell (by rw [add_block]; exact ha)]; exact q
          have HSr : Aside (Strs w2 bo r) := HSk.out.lower hB2 Hbo.out
          have HA : Aside (Adds D r D') := hA
          have HI : Aside (D'[i]? = some r) := hi
          have hml : fs.length ≤ 1048576 := by rw [HO.out.fo.1]; exact hDk
          clear hst hB2 hA hi q K39 HSk
          generalize hme : fs.length = m at *
          have ME : Hid (fs.length = m) := hme
          clear hme
          go_loopg [7, 8] m (fun g wv jv wr => ∃ j : Nat, j + g = m ∧ wv = .int .i64 (-1) ∧ jv = .int .i64 j ∧ (∃ x, wr = w2.drewN x) ∧ ∀ j' : Nat, j' < j → D[j']? ≠ some r)
          case atStart => exact ⟨0, by omega, rfl, rfl, ⟨0, rfl⟩, fun j' h => by omega⟩
          case round =>
            obtain ⟨j, hj, rfl, rfl, ⟨x, rfl⟩, hno⟩ := hrel
            by_cases hjm : j < m
            · obtain ⟨fa, xo, xc, d, e, qd, hSd, hd⟩ := first_at HST.out ME.out HFO.out j hjm
              subst e
              have hdl : d.length ≤ 1048576 := HDs.out d (List.mem_of_getElem? hd)
              have HNO : Aside (∀ j' : Nat, j' < j → D[j']? ≠ some r) := hno
              have HD : Aside (D[j]? = some d) := hd
              have qdx : (w2.drewN x).cell? (fa.add j) = some (.slice xo d.length xc) := by rw [cell_drewN]; exact qd
              have q2x : (w2.drewN x).cell? (a.add k) = some (.slice bo ln cc) := by rw [cell_drewN]; exact q2
              have HSd : Aside (Strs (w2.drewN x) xo d) := hSd
              have HSx : Aside (Strs (w2.drewN x) bo r) := HSr.out
              clear hno hd hSd qd
              generalize hdn : d.length = dn at *
              have LD : Hid (d.length = dn) := hdn
              clear hdn
              generalize hW : w2.drewN x = W at *
              have HW : Hid (w2.drewN x = W) := hW
              clear hW
              by_cases hdr : d = r
              · have hdec : decide (d = r) = true := decide_eq_true hdr
                have hmem : r ∈ D := by rw [← hdr]; exact List.mem_of_getElem? HD.out
                have eD : D' = D := by
                  rcases HA.out with ⟨_, e⟩ | ⟨h, _⟩
                  · exact e
                  · exact absurd hmem h
                have ei : i = j := nodup_idx HO.out.nd (by rw [← eD]; exact HI.out) (by rw [← hdr]; exact HD.out)
                have HST2 : Aside (State w2 σ (.slice (some fa) m fc) D fs) := by rw [← eD]; exact HST.out
                have hDm : D.length = m := by rw [← HFO.out.1]; exact ME.out
                have K41 : Aside (∀ y, Calls Try.prog 41 #[.pointer (some ⟨σ, 0, none⟩)] (W.drewN y) fun e w' => e = .returned (.int .i64 m) ∧ w' = W.drewN y) := by
                  intro y
                  rw [← hDm, ← HW.out]
                  exact count_st ((HST2.out.drewN _).drewN _)
                have K40 : Aside (∀ y, Calls Try.prog 40 #[.slice xo dn xc, .slice bo ln cc] (W.drewN y) fun e w' => e = .returned (.bool true) ∧ ∃ z, w' = (W.drewN y).drewN z) := by
                  intro y
                  rw [← hdec]
                  exact same40 (W.drewN y) xo bo dn ln xc cc d r HSd.out HSx.out LD.out LN.out hdl hnk
                subst ei
                clear hdr hmem eD hDm hdec
                go_wp2_with (fail)
                go_quiet ((go_at_call 40; exact Calls.quiet_of (K40.out _)))
                go_wp2_with (go_at_call 41; refine (K41.out _).mono ?_; rintro e w' ⟨rfl, rfl⟩)
                go_roundg (n - (k + 1))
                case measure => omega
                case rel =>
                  refine ⟨k + 1, D, fs, by omega, by go_num, ?_⟩
                  obtain ⟨z, hz⟩ := drewN_two w2 x nq
                  rw [← HW.out, hz]
                  exact HO.out.step_same HST2.out HB2.out z
              · have hdec : decide (d = r) = false := decide_eq_false hdr
                have HDR : Aside (d ≠ r) := hdr
                have K40 : Aside (∀ y, Calls Try.prog 40 #[.slice xo dn xc, .slice bo ln cc] (W.drewN y) fun e w' => e = .returned (.bool false) ∧ ∃ z, w' = (W.drewN y).drewN z) := by
                  intro y
                  rw [← hdec]
                  exact same40 (W.drewN y) xo bo dn ln xc cc d r HSd.out HSx.out LD.out LN.out hdl hnk
                clear hdr hdec
                go_wp2_with (fail)
                go_quiet ((go_at_call 40; exact Calls.quiet_of (K40.out _)))
                go_wp2
                go_roundg (m - (j + 1))
                case measure => omega
                case rel =>
                  refine ⟨j + 1, by omega, rfl, by go_num, by rw [← HW.out]; exact drewN_two _ _ _, ?_⟩
                  intro j' hj' e
                  by_cases e1 : j' = j
                  · subst e1; rw [HD.out] at e; cases e; exact HDR.out rfl
                  · exact HNO.out j' (by omega) e
            · have hfl := HFO.out.1
              have hme := ME.out
              have hnot : r ∉ D := by
                intro h
                obtain ⟨j', hj'⟩ := List.getElem?_of_mem h
                have := (List.getElem?_eq_some_iff.1 hj').1
                exact hno j' (by omega) hj'
              have eD : D' = D ++ [r] := by
                rcases HA.out with ⟨h, _⟩ | ⟨_, e⟩
                · exact absurd h hnot
                · exact e
              have ei : i = m := by
                refine nodup_idx (adds_nodup HA.out HO.out.nd) HI.out ?_
                rw [eD, List.getElem?_append_right (by omega)]
                have : m - D.length = 0 := by omega
                rw [this]; rfl
              subst ei
              have HST2 : Aside (State (w2.drewN x) σ (.slice fo i fc) (D ++ [r]) fs) := by rw [← eD]; exact HST.out.drewN x
              have hDl : (D ++ [r]).length = i + 1 := by simp; omega
              have HNOT : Aside (r ∉ D) := hnot
              have q2x : (w2.drewN x).cell? (a.add k) = some (.slice bo ln cc) := by rw [cell_drewN]; exact q2
              have HSx : Aside (Strs (w2.drewN x) bo r) := HSr.out
              have HBx : Aside (Below σ wr (w2.drewN x)) := HB2.out.trans (Below.drewN' _ _ _)
              clear hno eD hnot hfl hme
              generalize hW : w2.drewN x = W at *
              clear hW
              have HOWN : Aside (W.ownsRow (σ + 1) 56 1 (.slice fo i fc) i fs) := by
                obtain ⟨_, _, _, _, _, hm⟩ := HST2.out.mem
                have := hm.firsts
                rw [ME.out] at this
                exact this
              have hσW : σ + 1 ≤ W.heap.size := by
                obtain ⟨_, _, _, _, _, hm⟩ := HST2.out.mem
                exact hm.lt
              obtain ⟨i0, hi0, hz0, hsz0, hb0⟩ := info_parts info56
              go_wp2_with (at_builtin; refine wpList_append_own_at _ rfl _ _ 49 rfl (σ + 1) 56 i0 _ 1 24 Try.underlying49 hi0 hz0 hsz0 hb0 rfl (by decide) _ i fs rfl (HOWN.out.alloc _) ⟨W.heap.size, 0, none⟩ 1 1 [.slice bo ln cc] rfl rfl (cell_one_new _ _ _) (by simp [Value.oneCell']) (by unfold maxLen; omega) (by omega) (by simp; omega) ?_; intro fv' w3 hown3 hgrow3 hnil3 hat3; clear hnil3; obtain ⟨fo3, fc3, rfl⟩ := own_shape hown3)
              have HST3 : Aside (State w3 σ (.slice fo3 (i + 1) fc3) (D ++ [r]) (fs ++ [.slice bo ln cc])) :=
                State.first (HST2.out.below ((Below.refl _ _).alloc (Nat.le_refl _) _)) hgrow3 (by rw [ME.out]; exact hown3) hat3
              have HB3 : Aside (Below σ W w3) := ((Below.refl _ _).alloc (by omega) _).grown hgrow3 (by simp; omega) (fun kk hk => Nat.le_of_succ_le (own_ge HOWN.out hk))
              refine (count_st HST3.out).mono ?_
              rintro e w' ⟨rfl, rfl⟩
              rw [hDl]
              clear hgrow3 hown3 hat3
              go_wp2
              go_roundg (n - (k + 1))
              case measure => omega
              case rel =>
                refine ⟨k + 1, D ++ [r], fs ++ [.slice bo ln cc], by omega, by go_num, ?_⟩
                have h3 := HST3.out
                have h4 := HO.out
                rw [← LN.out] at h3 ⊢
                exact h4.step_new h3 (HBx.out.trans HB3.out) HRk.out HNOT.out (HSx.out.lower HB3.out Hbo.out) Hbo.out
        · have HO : Aside (Outer R w1 σ k (.slice fo fs.length fc) wr D fs) := hO
          have hBe : Below w.heap.size w wr := HB1.out.trans (hO.bl.mono hσ)
          have HBE : Aside (Below w.heap.size w wr) := hBe
          have HDs : Aside (∀ d ∈ D, d.length ≤ 1048576) := fun d hd => by
            obtain ⟨x, hx, e⟩ := List.getElem_of_mem (HO.out.from_ d hd)
            rw [← e]; exact (HSM.out.2 x hx).1
          have hml : fs.length ≤ 1048576 := by
            have := hO.len
            have := hO.fo.1
            omega
          clear hO hBe
          generalize hme : fs.length = m at *
          have ME : Hid (fs.length = m) := hme
          clear hme
          go_wp2
          go_loopg [9] m (fun g iv wq => ∃ t : Nat, t + g = m ∧ iv = .int .i64 t ∧ ∃ x, wq = wr.drewN x)
          case atStart => exact ⟨0, by omega, rfl, 0, rfl⟩
          case round =>
            obtain ⟨t, ht, rfl, x, rfl⟩ := hrel
            by_cases htm : t < m
            · obtain ⟨fa, xo, xc, d, e, qd, hSd, hd⟩ := first_at HO.out.st ME.out HO.out.fo t htm
              subst e
              have hdl : d.length ≤ 1048576 := HDs.out d (List.mem_of_getElem? hd)
              obtain ⟨yo, yc, hSy, hK⟩ := list_st (HO.out.st.drewN x) hd
              have qdx : (wr.drewN x).cell? (fa.add t) = some (.slice xo d.length xc) := by rw [cell_drewN]; exact qd
              have HSd : Aside (Strs (wr.drewN x) xo d) := hSd
              have HSy : Aside (Strs (wr.drewN x) yo d) := hSy
              clear qd hSd hSy hd
              generalize hdn : d.length = dn at *
              have LD : Hid (d.length = dn) := hdn
              clear hdn
              generalize hW : wr.drewN x = W at *
              have HW : Hid (wr.drewN x = W) := hW
              have K42 : Aside (∀ y, Calls Try.prog 42 #[.pointer (some ⟨σ, 0, none⟩), .int .i64 t] (W.drewN y) fun e w' => e = .returned (.slice yo dn yc) ∧ w' = W.drewN y) := hK
              have K40 : Aside (∀ y, Calls Try.prog 40 #[.slice yo dn yc, .slice xo dn xc] (W.drewN y) fun e w' => e = .returned (.bool true) ∧ ∃ z, w' = (W.drewN y).drewN z) := by
                intro y
                have := same40 (W.drewN y) yo xo dn dn yc xc d d HSy.out HSd.out LD.out LD.out hdl hdl
                rw [decide_eq_true rfl] at this
                exact this
              clear hW hK
              go_wp2_with (fail)
              go_quiet (first
                | (go_at_call 42; exact Calls.quiet_of_same (K42.out _))
                | (go_at_call 40; exact Calls.quiet_of (K40.out _)))
              go_wp2
              go_roundg (m - (t + 1))
              case measure => omega
              case rel => exact ⟨t + 1, by omega, by go_num, by rw [← HW.out]; exact drewN_two _ _ _⟩
            · go_wp2
              go_ret
              exact ⟨rfl, HBE.out.trans (Below.drewN' _ _ _)⟩
end Go.Proofs.Qxb6003361a
