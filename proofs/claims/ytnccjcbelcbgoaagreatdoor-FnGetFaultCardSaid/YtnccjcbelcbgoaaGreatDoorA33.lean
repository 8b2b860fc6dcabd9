/- Part 33 of the proof: Cmp7, Cmp8. -/
import Derived.Test.YtnccjcbelcbgoaaGreatDoorA24
import Derived.Test.YtnccjcbelcbgoaaGreatDoorA10
set_option linter.unusedVariables false
set_option linter.unusedSimpArgs false
set_option linter.unusedSectionVars false
/- TCompactProtocol: its own bytes: doubles, uuids, texts. -/
namespace Go.Proofs.YtnccjcbelcbgoaaGreatDoor
open Go Go.RowKit

theorem splice_ten {α : Type} (a0 a1 a2 a3 a4 a5 a6 a7 a8 a9 : α) (l cs : List α) : splice (a0 :: a1 :: a2 :: a3 :: a4 :: a5 :: a6 :: a7 :: a8 :: a9 :: l) 10 cs = a0 :: a1 :: a2 :: a3 :: a4 :: a5 :: a6 :: a7 :: a8 :: a9 :: splice l 0 cs := by
  simp [splice]
  rw [show 10 + cs.length = cs.length + 10 by omega]
  simp

/-- What the cells of a protocol's block are, behind a read into its own bytes. -/
theorem cmp_block {w' : World} {P MB : Nat} {a : Option Addr} {fv : Value} {last : Int} {val pend : Bool} {T : TypeId} {sc cs : List UInt8} (h : w'.heap[P]? = some (.cells (splice (cmpC MB a fv last val pend sc) 10 (bcells cs)).toArray T (0, 0))) (hsc : sc.length = 64) (hcs : cs.length ≤ 64) :
    ∃ sc' : List UInt8, sc'.length = 64 ∧ w'.heap[P]? = some (.cells (cmpC MB a fv last val pend sc').toArray T (0, 0)) ∧ sc'.take cs.length = cs := by
  refine ⟨splice sc 0 cs, by rw [length_splice _ _ _ (by omega)]; exact hsc, ?_, by simp [splice]⟩
  rw [h]
  show some (Obj.cells (splice (_ :: _ :: _ :: _ :: _ :: _ :: _ :: _ :: _ :: _ :: bcells sc) 10 (bcells cs)).toArray T (0, 0)) = _
  rw [splice_ten, bcells_splice]

theorem leNat_lt : ∀ l : List UInt8, Lib.leNat l < 256 ^ l.length
  | [] => by decide
  | b :: r => by
    have := leNat_lt r
    have := b.toNat_lt
    simp only [Lib.leNat, List.length_cons, Nat.pow_succ]
    omega

section
variable {E : Env} {P MB B D : Nat} {a : Option Addr} {c : Cfg} {s s' : Cmp.St} {fv : Value} {sc sc' : List UInt8} {w w' : World}

/-- Bytes are read into the protocol's own. -/
def CFull (E : Env) (P MB B D : Nat) (a : Option Addr) (c : Cfg) (s : Cmp.St) (fv : Value) (n : Nat) (w : World) (e : Ending) (w' : World) : Prop :=
  ∃ ev sc', e = .returned (.tuple #[.int .i64 (min n s.rem.length : Nat), ev]) ∧ ErrAt E w.heap.size w' ev (endK n s.rem) ∧ CmpP E P MB B D a c (s.at (s.rem.drop n)) fv sc' w' ∧ Keep (MB2 P B) w w' ∧ sc'.take (min n s.rem.length) = s.rem.take n

set_option maxHeartbeats 1000000 in
theorem cmp_readFull (h : CmpP E P MB B D a c s fv sc w) (n k : Nat) (hn : 0 < n) (hnk : n ≤ k) (hk : n ≤ 64) :
    Calls Tryz.prog 206 #[memV MB, .slice (some ⟨P, 10, none⟩) n k] w (CFull E P MB B D a c s fv n w) := by
  have h1 := h.sc64
  have h2 := h.blk
  have hnB := h.neB
  have hnM := h.neM
  have hnD := h.neD
  have hlen : (cmpC MB a fv s.last s.val s.pend sc).toArray.size = 74 := by simp [h1]
  obtain ⟨rem, last, outer, pend, val⟩ := s
  go_enter Tryz.func206, Tryz.ntmps206
  go_wp2_with fail
  by_cases hl : n ≤ rem.length
  · refine (readAtLeast_all (T := 183) h.mem hl hn (by omega) h2 hnB hnD hnM (by simp; omega)).mono ?_
    rintro e w1 ⟨rfl, hm1, hb1, hk1⟩
    have hk2 : Keep (MB2 P B) w w1 := hk1
    obtain ⟨sc', e1, e2, e3⟩ := cmp_block hb1 h1 (by simp; omega)
    go_wp2_with fail
    go_ret2
    have hmin : min n rem.length = n := by omega
    refine ⟨_, sc', by show _ = Ending.returned (.tuple #[.int .i64 (min n rem.length : Nat), _]); rw [hmin]; rfl, ?_, h.step hk2 e1 e2 hm1 rfl h.last16, hk2, ?_⟩
    · show ErrAt _ _ _ _ (endK n rem); rw [endK, if_pos hl]; exact ErrAt.nil _ _ _
    · show sc'.take (min n rem.length) = _; rw [hmin]; simpa [hmin] using e3
  · by_cases hz : rem = []
    · subst hz
      refine (readAtLeast_end h.glob h.mem hn hnk (by omega)).mono ?_
      rintro e w1 ⟨rfl, hm1, hk1⟩
      have hk2 : Keep (MB2 P B) w w1 := hk1.weak (fun _ _ x => .inl x)
      have hb1 := (hk1.block P (lt_of_heap h2) (fun e => hnB e.symm)).trans h2
      go_wp2_with fail
      go_ret2
      refine ⟨eofV E, sc, by simp, ?_, h.step hk2 h1 hb1 (by simpa using hm1) rfl h.last16, hk2, by simp⟩
      simp only [endK, if_neg hl]
      exact .inr (.inl ⟨rfl, rfl⟩)
    · refine (readAtLeast_some (T := 183) h.glob h.mem (by show rem.length < n; omega) hz hnk (by omega) h2 hnB hnD hnM h.base (by simp; omega)).mono ?_
      rintro e w1 ⟨rfl, hm1, hb1, hk1⟩
      have hk2 : Keep (MB2 P B) w w1 := hk1
      obtain ⟨sc', e1, e2, e3⟩ := cmp_block hb1 h1 (by show rem.length ≤ 64; omega)
      go_wp2_with fail
      go_ret2
      have hmin : min n rem.length = rem.length := by omega
      refine ⟨_, sc', by show _ = Ending.returned (.tuple #[.int .i64 (min n rem.length : Nat), _]); rw [hmin]; rfl, ?_, h.step hk2 e1 e2 (by show Mem _ _ _ _ _ (rem.drop n); rw [List.drop_of_length_le (by omega)]; exact hm1) rfl h.last16, hk2, ?_⟩
      · show ErrAt _ _ _ _ (endK n rem); rw [endK, if_neg hl, if_neg (by simpa using hz)]
        exact .inr (.inr (.inl ⟨rfl, rfl⟩))
      · show sc'.take (min n rem.length) = rem.take n; rw [hmin, e3, List.take_of_length_le (by omega)]

theorem ccell_sc {w : World} {P MB : Nat} {a : Option Addr} {fv : Value} {last : Int} {val pend : Bool} {T : TypeId} {sc : List UInt8} (h : w.heap[P]? = some (.cells (cmpC MB a fv last val pend sc).toArray T (0, 0))) (j : Nat) (hj : j < sc.length) :
    w.cell? ⟨P, 10 + j, none⟩ = some (.int .u8 (sc[j].toNat : Int)) := by
  rw [cellAt h]
  simp only [List.getElem?_toArray]
  rw [show 10 + j = j + 10 by omega]
  simp [bcells, hj]

theorem take8' {sc : List UInt8} (hs : sc.length = 64) : sc.take 8 = [sc[0], sc[1], sc[2], sc[3], sc[4], sc[5], sc[6], sc[7]] := take8 hs

set_option maxHeartbeats 1000000 in
theorem cmp_le64 {w : World} {P MB : Nat} {a : Option Addr} {fv : Value} {last : Int} {val pend : Bool} {T : TypeId} {sc : List UInt8} {p : Value} (hb : w.heap[P]? = some (.cells (cmpC MB a fv last val pend sc).toArray T (0, 0))) (hs : sc.length = 64) :
    Calls Tryz.prog 207 #[p, .slice (some ⟨P, 10, none⟩) 8 64] w fun e w' => e = .returned (.int .u64 (Lib.leNat (sc.take 8))) ∧ Keep (fun _ => False) w w' := by
  rw [take8' hs]
  go_enter Tryz.func207, Tryz.ntmps207
  go_wp2_with fail
  refine (Tryz.binary_LE_Uint64 P 10 8 64 sc[0] sc[1] sc[2] sc[3] sc[4] sc[5] sc[6] sc[7] _ (by omega) (ccell_sc hb 0 (by omega)) (ccell_sc hb 1 (by omega)) (ccell_sc hb 2 (by omega)) (ccell_sc hb 3 (by omega)) (ccell_sc hb 4 (by omega)) (ccell_sc hb 5 (by omega)) (ccell_sc hb 6 (by omega)) (ccell_sc hb 7 (by omega))).mono ?_
  rintro e w2 ⟨rfl, hb2⟩
  go_wp2_with fail
  go_ret
  exact ⟨rfl, Keep.of_below hb2 _⟩

def CDbl (E : Env) (P MB B D : Nat) (a : Option Addr) (c : Cfg) (s : Cmp.St) (fv : Value) (w : World) (e : Ending) (w' : World) : Prop :=
  ∃ (n : Nat) (ev : Value) (sc' : List UInt8), e = .returned (.tuple #[.float .f64 n, ev]) ∧ ErrAt E w.heap.size w' ev (fullK 8 s.rem) ∧ CmpP E P MB B D a c (s.at (s.rem.drop 8)) fv sc' w' ∧ Keep (MB2 P B) w w' ∧ n < 18446744073709551616 ∧ (8 ≤ s.rem.length → n = Lib.leNat (s.rem.take 8))

set_option maxHeartbeats 1000000 in
theorem cmp_readDouble (h : CmpP E P MB B D a c s fv sc w) :
    Calls Tryz.prog 157 #[.pointer (some ⟨P, 0, none⟩), ctxV] w (CDbl E P MB B D a c s fv w) := by
  obtain ⟨c0, _, _, _, _, _, _⟩ := h.cells
  go_enter Tryz.func157, Tryz.ntmps157
  go_wp2_with fail
  refine (cmp_readFull h 8 64 (by omega) (by omega) (by omega)).mono ?_
  rintro e w1 ⟨ev, sc1, rfl, he1, h1, hk1, ht⟩
  have hs := h1.sc64
  have hb := h1.blk
  by_cases hl : 8 ≤ s.rem.length
  · have hev : ev = .nilIface := by rw [endK, if_pos hl] at he1; exact he1.isNil
    subst hev
    have hfb := frombits
    have hmin : min 8 s.rem.length = 8 := by omega
    have HT := Lib.hid (show sc1.take 8 = s.rem.take 8 by have h9 := ht; rw [hmin] at h9; exact h9)
    have HL := Lib.hid hl
    have HS := Lib.hid hs
    clear ht hl he1
    rw [hmin]
    clear hmin
    go_wp2_with fail
    refine (cmp_le64 hb HS.out).mono ?_
    rintro e w2 ⟨rfl, hk2⟩
    obtain ⟨m, hm⟩ : ∃ m, Lib.leNat (sc1.take 8) = m := ⟨_, rfl⟩
    have hlt : m < 18446744073709551616 := by
      rw [← hm]
      have := leNat_lt (sc1.take 8)
      rw [show (sc1.take 8).length = 8 by simp [HS.out]] at this
      exact this
    rw [hm]
    have HM := Lib.hid hm
    have Hlt := Lib.hid hlt
    clear hm hlt
    go_wp2_with fail
    go_ret2
    refine ⟨m, _, _, rfl, ?_, h1.fresh hk2, hk1.then (hk2.weak (fun _ _ x => x.elim)), Hlt.out, fun _ => by rw [← HM.out, HT.out]⟩
    rw [fullK, if_pos HL.out]; exact ErrAt.nil _ _ _
  · obtain ⟨t, x, rfl⟩ := he1.held (by unfold endK; rw [if_neg hl]; split <;> decide)
    have HL := Lib.hid hl
    clear ht hl
    go_wp2_with fail
    refine (newPExc h1.glob (n0 := w.heap.size) hk1.size he1 (endK_lt _ _)).mono ?_
    rintro e w2 ⟨v, rfl, hv2, hk2⟩
    go_wp2_with fail
    go_ret2
    exact ⟨0, _, _, rfl, by rw [← pk_endK]; exact hv2, h1.fresh hk2, hk1.then (hk2.weak (fun _ _ x => x.elim)), by decide, fun hh => absurd hh HL.out⟩
end

end Go.Proofs.YtnccjcbelcbgoaaGreatDoor

/- TCompactProtocol: texts. -/
namespace Go.Proofs.YtnccjcbelcbgoaaGreatDoor
open Go Go.RowKit

theorem cslice_arr (P m : Nat) (hm : m ≤ 64) (k : IntKind) (w : World) : (Instr.sliceAt 181 (.pointer (some ⟨P, 10, none⟩)) none (some (.int k (m : Int))) none).run Tryz.prog w = .ok (.slice (some ⟨P, 10, none⟩) m 64) w := by
  have h1 : (0 : Int) ≤ m := by omega
  have h2 : (m : Int) ≤ (64 : Nat) := by omega
  have hb := run_sliceBound (P := Tryz.prog) (w := w) k (m : Int) 64 .sliceAlen h1 h2
  simp [Instr.sliceAt, Instr.sliceBounds]
  simp [hb, Instr.sureAddr, Addr.add]

theorem cblk_cells {w : World} {P MB q : Nat} {a : Option Addr} {fv : Value} {last : Int} {val pend : Bool} {T : TypeId} {sc l : List UInt8} (h : w.heap[P]? = some (.cells (cmpC MB a fv last val pend sc).toArray T (0, 0))) (ht : sc.take q = l) :
    ∀ j (hj : j < l.length), w.cell? ⟨P, 10 + j, none⟩ = some (.int .u8 (l[j].toNat : Int)) := by
  intro j hj
  subst ht
  have hj' : j < sc.length := by simp at hj; omega
  rw [ccell_sc h j hj']
  simp

section
variable {E : Env} {P MB B D : Nat} {a : Option Addr} {c : Cfg} {s s' : Cmp.St} {fv : Value} {sc sc' : List UInt8} {w w' : World}

def CStr (E : Env) (P MB B D : Nat) (a : Option Addr) (c : Cfg) (s : Cmp.St) (fv : Value) (w : World) (e : Ending) (w' : World) : Prop :=
  ∃ (l : ByteArray) (ev : Value) (r' sc' : List UInt8), e = .returned (.tuple #[.string l, ev]) ∧ ErrAt E w.heap.size w' ev (cstrK s.rem c) ∧ CmpP E P MB B D a c (s.at r') fv sc' w' ∧ r'.length ≤ s.rem.length ∧ Keep (MB2 P B) w w' ∧ (cstrK s.rem c = 0 → l = ⟨(cstrS s.rem).toArray⟩ ∧ r' = cstrRem s.rem)

set_option maxRecDepth 100000 in
set_option maxHeartbeats 4000000 in
theorem cmp_readString (h : CmpP E P MB B D a c s fv sc w) :
    Calls Tryz.prog 171 #[.pointer (some ⟨P, 0, none⟩), ctxV] w (CStr E P MB B D a c s fv w) := by
  go_enter Tryz.func171, Tryz.ntmps171
  go_wp2_with fail
  refine (cmp_varint32 h).mono ?_
  rintro e w1 ⟨n, ev, rfl, he1, h1, hk1, hv1, hlo, hhi⟩
  have hkw1 : Keep (MB2 P B) w w1 := hk1.weak (fun _ _ x => .inl x)
  have HKW1 := Lib.hid hkw1
  have HVL := Lib.hid (vR_le s.rem)
  by_cases hz : vK s.rem = 0
  · rw [hz] at he1
    have hev := he1.isNil
    subst hev
    have HN := Lib.hid (hv1 hz)
    have HZ := Lib.hid hz
    obtain ⟨c0, _, c2, _, _, _, _⟩ := h1.cells
    clear hv1 hz he1 hk1 hkw1
    go_wp2_with fail
    refine (checkSize (E := E) (n0 := w.heap.size) n hhi h1.cfg h1.cok HKW1.out.size).mono ?_
    rintro e w2 ⟨v, rfl, hv2, hk2⟩
    have h2 := h1.fresh hk2
    have hk12 : Keep (MB2 P B) w w2 := HKW1.out.then (hk2.weak (fun _ _ x => x.elim))
    have HK12 := Lib.hid hk12
    clear c0 c2 hk12
    obtain ⟨c0, _, c2, _, _, _, _⟩ := h2.cells
    by_cases hs : sizeK n c = 0
    · rw [hs] at hv2
      have hv3 := hv2.isNil
      subst hv3
      have hn0 : 0 ≤ n := by unfold sizeK at hs; split at hs; omega; omega
      have HK : Hid (cstrK s.rem c = fullK n.toNat (vR s.rem)) := Lib.hid (by simp only [cstrK]; rw [if_pos HZ.out, ← HN.out, if_pos hs])
      obtain ⟨m, rfl⟩ := Int.eq_ofNat_of_zero_le hn0
      simp only [Int.ofNat_eq_natCast, Int.toNat_natCast] at *
      have HS : Hid (cstrS s.rem = (vR s.rem).take m ∧ cstrRem s.rem = (vR s.rem).drop m) := Lib.hid (by simp only [cstrS, cstrRem]; rw [← HN.out]; simp)
      clear hs hv2
      by_cases hm0 : m = 0
      · subst hm0
        go_wp2_with fail
        go_ret2
        refine ⟨_, _, _, _, rfl, ?_, h2, HVL.out, HK12.out, fun _ => ⟨?_, ?_⟩⟩
        · rw [HK.out]; simpa [fullK] using ErrAt.nil _ _ _
        · rw [HS.out.1]; simp
        · rw [HS.out.2]; simp
      · have hmz : ((m : Int) == 0) = false := by simp [hm0]
        by_cases hm64 : m < 64
        · have hsl := fun w => cslice_arr P m (by omega) .i32 w
          go_wp2_with fail
          refine (cmp_readFull h2 m 64 (by omega) (by omega) (by omega)).mono ?_
          rintro e w3 ⟨ev, sc3, rfl, he3, h3, hk3, ht3⟩
          have hb3 := h3.blk
          have ht4 : sc3.take (min m (vR s.rem).length) = (vR s.rem).take m := ht3
          have hm3 : min m (s.at (vR s.rem)).rem.length = min m (vR s.rem).length := rfl
          have he4 : ErrAt E w2.heap.size w3 ev (endK m (vR s.rem)) := he3
          have hl4 : ((vR s.rem).take m).length = min m (vR s.rem).length := by rw [List.length_take]
          have HC := Lib.hid (cblk_cells hb3 ht4)
          have hcv0 := conv_str (w := w3.drew) (cap := 64) hl4 HC.out
          have hq1 : min m (vR s.rem).length ≤ 64 := by omega
          rw [hm3]
          obtain ⟨sv, hsv⟩ : ∃ sv, (vR s.rem).take m = sv := ⟨_, rfl⟩
          rw [hsv] at hcv0 hl4 HC
          obtain ⟨q, hq⟩ : ∃ q, min m (vR s.rem).length = q := ⟨_, rfl⟩
          rw [hq] at hcv0 hl4 hq1 ⊢
          have hq2 : (0 : Int) ≤ (q : Nat) := by omega
          have HL := Lib.hid hl4
          have HSV := Lib.hid hsv
          have h3' : CmpP E P MB B D a c (s.at ((vR s.rem).drop m)) fv sc3 w3 := h3
          have H3 := Lib.hid h3'
          have HE4 := Lib.hid he4
          have HLP := Lib.hid (lt_of_heap hb3)
          clear hq hl4 hsv ht3 ht4 hm3 he3 he4 h3 h3' hb3 hsl
          go_wp2_with fail
          go_region_with (go_at_call 202; refine (newPExc (w := w3.drew) (H3.out.glob.keep ((Keep.refl (fun _ => False) w3).drew) (fun _ x => x.elim)) (n0 := w.heap.size) (hk3.lt (HK12.out.size)) ((HE4.out.mono (HK12.out.size)).eqv (Eqv.drew w3)) (endK_lt _ _)).mono ?_; rintro e w4 ⟨v, rfl, hv4, hk4⟩; have hcv1 := conv_str (w := w4) (cap := 64) HL.out (fun j hj => (hk4.cell (p := ⟨P, 10 + j, none⟩) HLP.out id).trans (HC.out j hj)))
          all_goals
            go_wp2_with fail
            go_ret2
            have hkd : Keep (fun _ => False) w3 w4 := ((Keep.refl _ w3).drew).then hk4
            exact ⟨_, _, _, _, rfl, by rw [HK.out, ← pk_endK]; exact hv4, H3.out.fresh hkd, by have := HVL.out; simp; omega, HK12.out.then (hk3.then (hkd.weak (fun _ _ x => x.elim))), fun _ => ⟨by rw [HS.out.1, HSV.out], HS.out.2.symm⟩⟩
        · go_wp2_with fail
          refine (safeRead (n := m) h2.glob h2.mem (by omega)).mono ?_
          rintro e w3 ⟨g, cap, ev, s2, rfl, he3, hm3, hk3, hgw, hs2, hb2, ht2, hle, hcap⟩
          have hk23 : Keep (MB2 P B) w2 w3 := hk3.weak (fun _ _ x => .inl x)
          have h3 : CmpP E P MB B D a c (s.at ((vR s.rem).drop m)) fv sc w3 := h2.step (s' := s.at ((vR s.rem).drop m)) hk23 h2.sc64 ((hk3.block P h2.ltP (fun e => h2.neB e.symm)).trans h2.blk) hm3 rfl h2.last16
          have ht4 : s2.take (min m (vR s.rem).length) = (vR s.rem).take m := ht2
          have hm3 : min m (s.at (vR s.rem)).rem.length = min m (vR s.rem).length := rfl
          have he4 : ErrAt E w2.heap.size w3 ev (safeK m (vR s.rem)) := he3
          have hl4 : ((vR s.rem).take m).length = min m (vR s.rem).length := by rw [List.length_take]
          have HC := Lib.hid (row_cells hb2 ht4)
          have hcv0 := conv_str (w := w3.drew) (cap := cap) hl4 HC.out
          rw [hm3]
          obtain ⟨sv, hsv⟩ : ∃ sv, (vR s.rem).take m = sv := ⟨_, rfl⟩
          rw [hsv] at hcv0 hl4 HC
          obtain ⟨q, hq⟩ : ∃ q, min m (vR s.rem).length = q := ⟨_, rfl⟩
          rw [hq] at hcv0 hl4 ⊢
          have HL := Lib.hid hl4
          have HSV := Lib.hid hsv
          have H3 := Lib.hid h3
          have HE4 := Lib.hid he4
          have HLP := Lib.hid (lt_of_heap hb2)
          clear hq hl4 hsv ht2 ht4 hm3 he3 he4 h3 hb2 hle
          go_wp2_with fail
          go_region_with (go_at_call 202; refine (newPExc (w := w3.drew) (H3.out.glob.keep ((Keep.refl (fun _ => False) w3).drew) (fun _ x => x.elim)) (n0 := w.heap.size) (hk3.lt (HK12.out.size)) ((HE4.out.mono (HK12.out.size)).eqv (Eqv.drew w3)) (safeK_lt _ _)).mono ?_; rintro e w4 ⟨v, rfl, hv4, hk4⟩; have hcv1 := conv_str (w := w4) (cap := cap) HL.out (fun j hj => (hk4.cell (p := ⟨g, 0 + j, none⟩) HLP.out id).trans (HC.out j hj)))
          all_goals
            go_wp2_with fail
            go_ret2
            have hkd : Keep (fun _ => False) w3 w4 := ((Keep.refl _ w3).drew).then hk4
            exact ⟨_, _, _, _, rfl, by rw [HK.out, ← safeK_pk]; exact hv4, H3.out.fresh hkd, by have := HVL.out; simp; omega, HK12.out.then (hk23.then (hkd.weak (fun _ _ x => x.elim))), fun _ => ⟨by rw [HS.out.1, HSV.out], HS.out.2.symm⟩⟩
    · obtain ⟨t, x, rfl⟩ := hv2.held hs
      have HK : Hid (cstrK s.rem c = sizeK n c) := Lib.hid (by simp only [cstrK]; rw [if_pos HZ.out, ← HN.out, if_neg hs])
      have HSS := Lib.hid hs
      clear hs
      go_wp2_with fail
      go_ret2
      exact ⟨_, _, _, _, rfl, by rw [HK.out]; exact hv2, h2, HVL.out, HK12.out, fun hh => absurd (HK.out ▸ hh) HSS.out⟩
  · obtain ⟨t, x, rfl⟩ := he1.held hz
    have HK : Hid (cstrK s.rem c = pk (vK s.rem)) := Lib.hid (by simp only [cstrK]; rw [if_neg hz])
    have HZ := Lib.hid hz
    clear hz hv1 hkw1
    go_wp2_with fail
    refine (newPExc h1.glob (n0 := w.heap.size) hk1.size he1 (vK_lt _)).mono ?_
    rintro e w2 ⟨v, rfl, hv2, hk2⟩
    go_wp2_with fail
    go_ret2
    exact ⟨_, _, _, _, rfl, by rw [HK.out]; exact hv2, h1.fresh hk2, HVL.out, HKW1.out.then (hk2.weak (fun _ _ x => x.elim)), fun hh => absurd (HK.out ▸ hh) (pk_ne HZ.out)⟩
end

end Go.Proofs.YtnccjcbelcbgoaaGreatDoor
