import Derived.Test.Qxb6003361aRoD
import Derived.Maps.AppendAt
import Derived.Laws.BitsAllLaws
namespace Go.Proofs.Qxb6003361a
open Go.RowKit

/-- the bytes of a number, seven bits each -/
def uvF : Nat → Nat → List UInt8
  | 0, y => [UInt8.ofNat y]
  | f + 1, y => if y < 128 then [UInt8.ofNat y] else UInt8.ofNat (y % 128 + 128) :: uvF f (y / 128)
def uv (y : Nat) : List UInt8 := uvF y y
theorem uvF_small (f : Nat) {y : Nat} (h : y < 128) : uvF f y = [UInt8.ofNat y] := by
  cases f with
  | zero => rfl
  | succ f => rw [uvF, if_pos h]
theorem uvF_big (f : Nat) {y : Nat} (h : ¬ y < 128) : uvF (f + 1) y = UInt8.ofNat (y % 128 + 128) :: uvF f (y / 128) := by rw [uvF, if_neg h]
theorem uvF_same (f : Nat) : ∀ (f' y : Nat), y ≤ f → y ≤ f' → uvF f y = uvF f' y := by
  induction f with
  | zero =>
    intro f' y h1 _
    rw [uvF_small _ (by omega), uvF_small _ (by omega)]
  | succ f ih =>
    intro f' y h1 h2
    by_cases h : y < 128
    · rw [uvF_small _ h, uvF_small _ h]
    · cases f' with
      | zero => omega
      | succ f' => rw [uvF_big f h, uvF_big f' h, ih f' (y / 128) (by omega) (by omega)]
theorem uv_small {y : Nat} (h : y < 128) : uv y = [UInt8.ofNat y] := uvF_small y h
theorem uv_big {y : Nat} (h : ¬ y < 128) : uv y = UInt8.ofNat (y % 128 + 128) :: uv (y / 128) := by
  obtain ⟨f, rfl⟩ : ∃ f, y = f + 1 := ⟨y - 1, by omega⟩
  show uvF (f + 1) (f + 1) = _
  rw [uvF_big f h]
  show _ = _ :: uvF ((f + 1) / 128) ((f + 1) / 128)
  rw [uvF_same f ((f + 1) / 128) ((f + 1) / 128) (by omega) (Nat.le_refl _)]

/-- all but the rows of bytes from B on stays as it was -/
structure Kept5 (B : Nat) (w w' : World) : Prop where
  os : w'.os = w.os
  tape : w'.tape = w.tape
  output : w'.output = w.output
  size : w.heap.size ≤ w'.heap.size
  block : ∀ k, k < w.heap.size → (k < B ∨ ∀ cur fz, w.heap[k]? ≠ some (.cells cur 5 fz)) → w'.heap[k]? = w.heap[k]?
theorem Kept5.refl (B : Nat) (w : World) : Kept5 B w w := ⟨rfl, rfl, rfl, Nat.le_refl _, fun _ _ _ => rfl⟩
theorem Kept5.trans {B : Nat} {a b c : World} (h : Kept5 B a b) (k : Kept5 B b c) : Kept5 B a c :=
  ⟨k.os.trans h.os, k.tape.trans h.tape, k.output.trans h.output, Nat.le_trans h.size k.size, fun i hi hc => by
    have e := h.block i hi hc
    rw [k.block i (Nat.lt_of_lt_of_le hi h.size) (by rw [e]; exact hc), e]⟩
theorem Kept5.alloc (B : Nat) (w : World) (o : Obj) : Kept5 B w (w.alloc o) :=
  ⟨rfl, rfl, rfl, by simp, fun k hk _ => Below.heap_alloc w o k hk⟩
theorem Kept5.grown {B : Nat} {w w' : World} {v : Value} {n : Nat} {xs : List Value} (hown : w.ownsRow B 5 1 v n xs) (hg : w.grownBy w' v.ownBlock) : Kept5 B w w' := by
  refine ⟨hg.os, hg.tape, hg.output, hg.size, ?_⟩
  intro k hk hc
  refine hg.block k hk ?_
  intro e
  rcases hown.2 with ⟨rfl, _⟩ | ⟨g, cap, cur, rfl, hb, hh, _⟩
  · simp [Value.ownBlock] at e
  · simp only [Value.ownBlock, Option.some.injEq] at e
    subst e
    rcases hc with h1 | h1
    · omega
    · exact h1 _ _ hh

theorem uv_cell (y : Nat) : (bc [UInt8.ofNat (y % 256)]) = [.int .u8 ((y % 256 : Nat) : Int)] := by
  simp [bc]

set_option maxRecDepth 4000 in
theorem or_fin : ∀ m : Fin 256, m.val ||| 128 = m.val % 128 + 128 := by decide
theorem or_128 (y : Nat) : bits BinOp.or IntKind.u8 (↑y % 256) 128 = ((y % 128 + 128 : Nat) : Int) := by
  have h := or_fin ⟨y % 256, by omega⟩
  simp only at h
  have e := u8_or_nat (y % 256) 128 (by omega) (by omega)
  rw [h, show (y % 256) % 128 = y % 128 by omega] at e
  exact e

set_option maxHeartbeats 800000 in
set_option maxRecDepth 8000 in
theorem uv61 (w : World) (B : Nat) (v : Value) (done : List UInt8) (x : Nat) (hx : x ≤ 1048576) (hd : done.length ≤ 35184372088832) (hB : B ≤ w.heap.size) (hown : w.ownsRow B 5 1 v done.length (bc done)) :
    Calls Try.prog 61 #[v, .int .u64 x] w fun e w' => ∃ v', e = .returned v' ∧ w'.ownsRow B 5 1 v' (done ++ uv x).length (bc (done ++ uv x)) ∧ Kept5 B w w' := by
  obtain ⟨i, hi, hz, hsz, hb⟩ := info_parts info5
  have HD : Hid (done.length ≤ 35184372088832) := hd
  clear hd
  go_enter Try.func61, Try.ntmps61
  go_wp2
  go_loopg [0, 1] x (fun g sv xv wr => ∃ (y : Nat) (d : List UInt8), xv = .int .u64 y ∧ y ≤ g ∧ y ≤ 1048576 ∧ d.length + y ≤ done.length + x ∧ d ++ uv y = done ++ uv x ∧ wr.ownsRow B 5 1 sv d.length (bc d) ∧ Kept5 B w wr)
  case atStart => exact ⟨x, done, rfl, Nat.le_refl _, hx, Nat.le_refl _, rfl, hown, Kept5.refl _ _⟩
  case round =>
    obtain ⟨y, d, rfl, hyg, hyb, hdl, huv, hown, hkept⟩ := hrel
    have hBr : B ≤ wr.heap.size := Nat.le_trans hB hkept.size
    obtain ⟨dl, hdl'⟩ : ∃ dl, dl = d.length := ⟨_, rfl⟩
    have HU : Aside (d ++ uv y = done ++ uv x) := huv
    have HL : Hid (d.length + y ≤ done.length + x) := hdl
    clear huv hdl
    by_cases hlt : y < 128
    · have hcell : Aside ([Value.int IntKind.u8 ↑y] = bc [UInt8.ofNat y]) := by
        show _ = _
        unfold bc
        simp only [List.map_cons, List.map_nil]
        rw [UInt8.toNat_ofNat_of_lt' (by show y < 256; omega)]
      go_wp2_with (at_builtin; refine wpList_append_own _ rfl _ _ _ rfl B 5 i _ 1 1 Try.underlying22 hi hz hsz hb rfl (by decide) _ _ _ rfl (hown.alloc _) ⟨wr.heap.size, 0, none⟩ 1 1 [Value.int IntKind.u8 ↑y] rfl rfl (cell_one_new _ _ _) ?c0 ?c1 ?c2 ?c4 ?c3)
      case c0 => intro u hu; simp at hu; subst hu; rfl
      case c1 => have := HD.out; have := HL.out; unfold maxLen; omega
      case c2 => have := HD.out; have := HL.out; omega
      case c4 => simp; omega
      case c3 =>
        intro v' w2 hown2 hgrow2 _
        have R1 : Aside (w2.ownsRow B 5 1 v' (done ++ uv x).length (bc (done ++ uv x))) := by
          rw [hcell.out, ← bc_append] at hown2
          rw [← HU.out, uv_small hlt, List.length_append]
          exact hown2
        have R2 : Aside (Kept5 B w w2) := (hkept.trans (Kept5.alloc B wr _)).trans (Kept5.grown (hown.alloc _) hgrow2)
        clear hown hown2 hgrow2 hkept
        go_wp2
        go_ret
        exact ⟨_, rfl, R1.out, R2.out⟩
    · have hor := or_128 y
      obtain ⟨z, hz'⟩ : ∃ z : Int, z = ((y % 128 + 128 : Nat) : Int) := ⟨_, rfl⟩
      rw [← hz'] at hor
      have hcell : Aside ([Value.int IntKind.u8 z] = bc [UInt8.ofNat (y % 128 + 128)]) := by
        show _ = _
        unfold bc
        simp only [List.map_cons, List.map_nil]
        rw [UInt8.toNat_ofNat_of_lt' (by show _ < 256; omega), hz']
      clear hz'
      go_wp2_with (at_builtin; refine wpList_append_own _ rfl _ _ _ rfl B 5 i _ 1 1 Try.underlying22 hi hz hsz hb rfl (by decide) _ _ _ rfl (hown.alloc _) ⟨wr.heap.size, 0, none⟩ 1 1 [Value.int IntKind.u8 z] rfl rfl (cell_one_new _ _ _) ?d0 ?d1 ?d2 ?d4 ?d3)
      case d0 => intro u hu; simp at hu; subst hu; rfl
      case d1 => have := HD.out; have := HL.out; unfold maxLen; omega
      case d2 => have := HD.out; have := HL.out; omega
      case d4 => simp; omega
      case d3 =>
        intro v' w2 hown2 hgrow2 _
        have R1 : Aside (w2.ownsRow B 5 1 v' (d ++ [UInt8.ofNat (y % 128 + 128)]).length (bc (d ++ [UInt8.ofNat (y % 128 + 128)]))) := by
          rw [hcell.out, ← bc_append] at hown2
          rw [List.length_append]
          exact hown2
        have R2 : Aside (Kept5 B w w2) := (hkept.trans (Kept5.alloc B wr _)).trans (Kept5.grown (hown.alloc _) hgrow2)
        clear hown hown2 hgrow2 hkept
        go_wp2
        go_roundg (gk - 1)
        case measure => omega
        case rel =>
          refine ⟨y / 128, _, ?_, by omega, by omega, ?_, ?_, R1.out, R2.out⟩
          · rw [Int.natCast_ediv]; rfl
          · have := HL.out; simp; omega
          · rw [← HU.out, uv_big hlt]; simp

/-- the key of a list -/
def key (r : List ByteArray) : List UInt8 := r.flatMap fun s => uv s.size ++ s.data.toList
theorem uv_len (y : Nat) : (uv y).length ≤ y + 1 := by
  induction y using Nat.strongRecOn with
  | _ y ih =>
    by_cases h : y < 128
    · rw [uv_small h]; simp
    · rw [uv_big h]
      have := ih (y / 128) (by omega)
      simp only [List.length_cons]
      omega
theorem key_snoc (r : List ByteArray) (s : ByteArray) : key (r ++ [s]) = key r ++ (uv s.size ++ s.data.toList) := by simp [key]
theorem key_take {r : List ByteArray} {k : Nat} (h : k < r.length) : key (r.take (k + 1)) = key (r.take k) ++ (uv r[k].size ++ r[k].data.toList) := by
  rw [← key_snoc, List.take_append_getElem h]
theorem key_len {r : List ByteArray} (h : SmallL r) : ∀ k, k ≤ r.length → (key (r.take k)).length ≤ k * 2097153 := by
  intro k
  induction k with
  | zero => intro _; simp [key]
  | succ k ih =>
    intro hk
    rw [key_take (by omega)]
    have h1 := ih (by omega)
    have h2 := h.2 k (by omega)
    have h3 := uv_len r[k].size
    have h4 : r[k].data.toList.length = r[k].size := rfl
    simp only [List.length_append, h4]
    omega
theorem strCells_bc (s : ByteArray) : Lib.strCells s = bc s.data.toList := rfl

theorem Kept5.below {B : Nat} {w w' : World} (h : Kept5 B w w') (hB : B ≤ w.heap.size) : Below B w w' :=
  ⟨h.os, h.tape, h.output, h.size, fun k hk => h.block k (by omega) (.inl hk)⟩

set_option maxHeartbeats 800000 in
set_option maxRecDepth 8000 in
theorem key58 (w : World) (B : Nat) (v : Value) (ao : Option Addr) (n c : Nat) (r : List ByteArray) (hr : Strs w ao r) (hin : ∀ a, ao = some a → a.block < B) (hs : SmallL r) (hl : r.length = n)
    (hB : B ≤ w.heap.size) (hown : w.ownsRow B 5 1 v 0 []) :
    Calls Try.prog 58 #[v, .slice ao n c] w fun e w' => ∃ v', e = .returned v' ∧ w'.ownsRow B 5 1 v' (key r).length (bc (key r)) ∧ Kept5 B w w' := by
  obtain ⟨i, hi, hz, hsz, hb⟩ := info_parts info5
  have L : Hid (r.length = n) := hl
  have HS : Aside (SmallL r) := hs
  have HR : Aside (Strs w ao r) := hr
  have HI : Aside (∀ a, ao = some a → a.block < B) := hin
  have hn : n ≤ 1048576 := by rw [← hl]; exact hs.1
  clear hl hs hr hin
  go_enter Try.func58, Try.ntmps58
  go_wp2
  go_loopg [0, 9] n (fun g sv iv wr => ∃ k : Nat, k + g = n ∧ iv = .int .i64 k ∧ wr.ownsRow B 5 1 sv (key (r.take k)).length (bc (key (r.take k))) ∧ Kept5 B w wr)
  case atStart => exact ⟨0, by omega, rfl, hown, Kept5.refl _ _⟩
  case round =>
    obtain ⟨k, hk, rfl, hown, hkept⟩ := hrel
    have hBr : B ≤ wr.heap.size := Nat.le_trans hB hkept.size
    by_cases hlt : k < n
    · have hkr : k < r.length := by rw [L.out]; exact hlt
      obtain ⟨a, e, q⟩ := HR.out k hkr
      have hq : wr.cell? (a.add k) = some (.string r[k]) := by rw [(hkept.below hB).cell (by rw [add_block]; exact HI.out a e)]; exact q
      have hss := HS.out.2 k hkr
      have HK : Aside (key (r.take (k + 1)) = key (r.take k) ++ (uv r[k].size ++ r[k].data.toList)) := key_take hkr
      have HL : Hid ((key (r.take k)).length ≤ k * 2097153) := key_len HS.out k (by omega)
      subst e
      clear q
      generalize hs' : r[k] = s at hq hss HK
      clear hs'
      generalize hd' : key (r.take k) = d at hown HK HL
      clear hd'
      have K := uv61 wr B _ d s.size hss (by have := HL.out; omega) hBr hown
      have hul := uv_len s.size
      go_wp2_with (first | (go_at_call 61; refine K.mono ?_; rintro e w2 ⟨v2, rfl, hown2, hk2⟩) | (at_builtin; refine Lib.wpList_append_own_string _ rfl _ _ _ _ rfl B 5 i Try.underlying22 Try.underlying9 hi hz hsz hb _ _ _ rfl hown2 s rfl ?a1 ?a2 ?a3 ?a4))
      case a1 => have := HL.out; unfold maxLen; simp only [List.length_append]; omega
      case a2 => have := HL.out; simp only [List.length_append]; omega
      case a3 => exact Nat.le_trans hBr hk2.size
      case a4 =>
        intro v3 w3 hown3 hgrow3 _
        have R1 : Aside (w3.ownsRow B 5 1 v3 (key (r.take (k + 1))).length (bc (key (r.take (k + 1))))) := by
          rw [HK.out]
          rw [strCells_bc, ← bc_append, List.append_assoc] at hown3
          have e : (d ++ (uv s.size ++ s.data.toList)).length = d.length + (uv s.size).length + s.size := by
            have h4 : s.data.toList.length = s.size := rfl
            simp only [List.length_append, h4]; omega
          rw [e]
          exact hown3
        have R2 : Aside (Kept5 B w w3) := (hkept.trans hk2).trans (Kept5.grown hown2 hgrow3)
        clear hown hown2 hown3 hgrow3 hkept hk2 K
        go_wp2
        go_roundg (gk - 1)
        case measure => omega
        case rel => exact ⟨k + 1, by omega, by go_num, R1.out, R2.out⟩
    · have e : r.take k = r := List.take_of_length_le (by have := L.out; omega)
      rw [e] at hown
      go_wp2
      go_ret
      exact ⟨_, rfl, hown, hkept⟩
end Go.Proofs.Qxb6003361a
