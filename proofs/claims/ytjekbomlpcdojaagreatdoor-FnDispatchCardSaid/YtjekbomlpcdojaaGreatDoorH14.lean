/- Part 14 of the proof: Bin5, Bin6, Pr0, Bi0, Rp0, Cmp0, BinMg. -/
import Derived.Test.YtjekbomlpcdojaaGreatDoorH11
import Derived.Test.YtjekbomlpcdojaaGreatDoorH13
import Derived.Laws.IdiomStrings
set_option linter.unusedVariables false
set_option linter.unusedSimpArgs false
set_option linter.unusedSectionVars false
set_option maxHeartbeats 16000000
namespace Go.Proofs.YtjekbomlpcdojaaGreatDoor
open Go Go.RowKit
theorem conv_str {w : World} {g o m cap : Nat} {l : List UInt8} (hl : l.length = m) (hc : ∀ j (hj : j < l.length), w.cell? ⟨g, o + j, none⟩ = some (.int .u8 (l[j].toNat : Int))) :
  (convert 24 9 (.slice (some ⟨g, o, none⟩) m cap)).run Tryz.prog w = .ok (.string ⟨l.toArray⟩) w := by
 subst hl
 exact run_convert_bytes_back w 24 9 5 ⟨g, o, none⟩ cap l Tryz.underlying24 Tryz.underlying5 Tryz.underlying9 (fun j hj => by rw [Addr.add_lit]; exact hc j hj)
theorem safeRead {E : Env} {MB B D n : Nat} {rem : List UInt8} {w : World} (hg : Glob E w) (h : Mem E w MB B D rem) (hn : n ≤ 2147483647) :
  Calls Tryz.prog 268 #[.int .i32 n, memV MB] w fun e w' => ∃ g cap ev sc, e = .returned (.tuple #[.slice (some ⟨g, 0, none⟩) (min n rem.length) cap, ev]) ∧ ErrAt E w.heap.size w' ev (safeK n rem) ∧
   Mem E w' MB B D (rem.drop n) ∧ Keep (B = ·) w w' ∧ w.heap.size ≤ g ∧ sc.length = cap ∧ w'.heap[g]? = some (.cells (bcells sc).toArray 5 (0, 0)) ∧ sc.take (min n rem.length) = rem.take n ∧ min n rem.length ≤ cap ∧ cap ≤ 140737488355328 := by
 by_cases h5 : n ≤ 512
 ·exact safe_small hg h h5
 ·exact safe_big hg h (by omega) hn
theorem row_cells {w : World} {g m : Nat} {sc l : List UInt8} {T : TypeId} (hb : w.heap[g]? = some (.cells (bcells sc).toArray T (0, 0))) (ht : sc.take m = l) : ∀ j (hj : j < l.length), w.cell? ⟨g, 0 + j, none⟩ = some (.int .u8 (l[j].toNat : Int)) := by
 intro j hj
 subst ht
 have hj' : j < sc.length := by simp at hj; omega
 rw [cellAt hb, Nat.zero_add]
 simp [bcells, hj']
theorem safeK_pk (n : Nat) (rem : List UInt8) : pk (safeK n rem) = fullK n rem := by
 unfold safeK
 by_cases h : n ≤ rem.length
 ·simp [h, fullK, pk]
 ·rw [if_neg h]
  by_cases h5 : n ≤ 512
  ·rw [if_pos h5]; exact pk_endK n rem
  ·rw [if_neg h5]; simp [fullK, h, pk]
theorem endK_lt (n : Nat) (rem : List UInt8) : endK n rem < 50 := by unfold endK; split; omega; split <;> omega
theorem safeK_lt (n : Nat) (rem : List UInt8) : safeK n rem < 50 := by
 have := endK_lt n rem
 unfold safeK; split; omega; split <;> omega
theorem bin_readStringBody {E : Env} {P MB B D : Nat} {a : Option Addr} {c : Cfg} {rem : List UInt8} {w : World} (h : BinP E P MB B D a c rem w) (n : Nat) (hn : n ≤ 2147483647) :
  Calls Tryz.prog 348 #[.pointer (some ⟨P, 0, none⟩), .int .i32 n] w fun e w' => ∃ ev, e = .returned (.tuple #[.string ⟨(rem.take n).toArray⟩, ev]) ∧ ErrAt E w.heap.size w' ev (fullK n rem) ∧
   BinP E P MB B D a c (rem.drop n) w' ∧ Keep (MB2 P B) w w' := by
 obtain ⟨sc, e1, e2⟩ := h.blk
 have c0 : w.cell? ⟨P, 0, none⟩ = some (memV MB) := by simp [cellAt e2 0]
 go_enter Tryz.func348, Tryz.ntmps348
 go_wp2_with fail
 refine (safeRead h.glob h.mem hn).mono ?_
 rintro e w1 ⟨g, cap, ev, s2, rfl, he1, hm1, hk1, hgw, hs2, hb2, ht2, hle, hcap⟩
 have hk2 : Keep (MB2 P B) w w1 := hk1.weak (fun _ _ x => .inl x)
 have h1 : BinP E P MB B D a c (rem.drop n) w1 := h.step hm1 hk2 ⟨sc, e1, (hk1.block P (lt_of_heap e2) (fun e => h.neB e.symm)).trans e2⟩
 have hl : (rem.take n).length = min n rem.length := by simp
 have HC := hdd (row_cells hb2 ht2)
 have hcv0 := conv_str (w := w1.drew) (cap := cap) hl HC.out
 generalize hmm : min n rem.length = m at *
 have HL := hdd hl
 clear hl hmm c0
 go_wp2_with fail
 go_region_with (go_at_call 76; refine (newPExc (w := w1.drew) (h1.glob.eqv (Eqv.drew w1)) (n0 := w.heap.size) hk1.size (he1.eqv (Eqv.drew w1)) (safeK_lt n rem)).mono ?_; rintro e w2 ⟨v, rfl, hv2, hk3⟩; have hcv1 := conv_str (w := w2) (cap := cap) HL.out (fun j hj => (hk3.cell (p := ⟨g, 0 + j, none⟩) (lt_of_heap hb2) id).trans (HC.out j hj)))
 all_goals
  go_wp2_with fail
  go_ret2
  refine ⟨_, rfl, by rw [← safeK_pk]; exact hv2, (h1.eqv (Eqv.drew w1)).fresh hk3, hk2.then (((Eqv.drew w1).keep _).then (hk3.weak (fun _ _ x => x.elim)))⟩
def strN (rem : List UInt8) : Int := wrap32 (Lib.beNat (rem.take 4))
def strK (rem : List UInt8) (c : Cfg) : Int := if rem.length < 4 then 10 else if sizeK (strN rem) c = 0 then fullK (strN rem).toNat (rem.drop 4) else sizeK (strN rem) c
def strS (rem : List UInt8) : List UInt8 := (rem.drop 4).take (strN rem).toNat
def strRem (rem : List UInt8) : List UInt8 := (rem.drop 4).drop (strN rem).toNat
theorem slice_arr (P m : Nat) (hm : m ≤ 64) (k : IntKind) (w : World) : (Instr.sliceAt 254 (.pointer (some ⟨P, 3, none⟩)) none (some (.int k (m : Int))) none).run Tryz.prog w = .ok (.slice (some ⟨P, 3, none⟩) m 64) w := by
 have h1 : (0 : Int) ≤ m := by omega
 have h2 : (m : Int) ≤ (64 : Nat) := by omega
 have hb := run_sliceBound (P := Tryz.prog) (w := w) k (m : Int) 64 .sliceAlen h1 h2
 simp [Instr.sliceAt, Instr.sliceBounds]
 simp [hb, Instr.sureAddr, Addr.add]
theorem blk_cells {w : World} {P q : Nat} {v1 v2 v3 : Value} {T : TypeId} {sc l : List UInt8} (h : w.heap[P]? = some (.cells (v1 :: v2 :: v3 :: bcells sc).toArray T (0, 0))) (ht : sc.take q = l) :
  ∀ j (hj : j < l.length), w.cell? ⟨P, 3 + j, none⟩ = some (.int .u8 (l[j].toNat : Int)) := by
 intro j hj
 subst ht
 have hj' : j < sc.length := by simp at hj; omega
 rw [cell_sc h j hj']
 simp
set_option maxRecDepth 100000 in
theorem bin_readString {E : Env} {P MB B D : Nat} {a : Option Addr} {c : Cfg} {rem : List UInt8} {w : World} (h : BinP E P MB B D a c rem w) :
  Calls Tryz.prog 313 #[.pointer (some ⟨P, 0, none⟩), ctxV] w fun e w' => ∃ s ev rem', e = .returned (.tuple #[.string s, ev]) ∧ ErrAt E w.heap.size w' ev (strK rem c) ∧
   BinP E P MB B D a c rem' w' ∧ Keep (MB2 P B) w w' ∧ (strK rem c = 0 → s = ⟨(strS rem).toArray⟩ ∧ rem' = strRem rem) := by
 go_enter Tryz.func313, Tryz.ntmps313
 go_wp2_with fail
 refine (bin_readI32 h).mono ?_
 rintro e w1 ⟨n, ev, rfl, he1, h1, hk1, ⟨hlo, hhi⟩, hv1⟩
 by_cases hl : rem.length < 4
 ·have hk10 : fullK 4 rem = 10 := by simp [fullK]; omega
  rw [hk10] at he1
  obtain ⟨t, x, rfl⟩ := he1.held (by decide)
  have HK : Hid (strK rem c = 10) := by show _ = _; simp [strK, hl]
  go_wp2_with fail
  go_ret2
  exact ⟨_, _, _, rfl, by rw [HK.out]; exact he1, h1, hk1, fun hh => by rw [HK.out] at hh; omega⟩
 ·have hk0 : fullK 4 rem = 0 := by simp [fullK]; omega
  rw [hk0] at he1
  have hev := he1.isNil
  subst hev
  have hnn : strN rem = n := (hv1 (by omega)).symm
  obtain ⟨sc, e1, e2⟩ := h1.blk
  have c0 : w1.cell? ⟨P, 0, none⟩ = some (memV MB) := by simp [cellAt e2 0]
  have c2 : w1.cell? ⟨P, 2, none⟩ = some (.pointer a) := by simp [cellAt e2 2]
  have HN := hdd hnn
  clear hnn hv1
  go_wp2_with fail
  refine (checkSize (E := E) (n0 := w.heap.size) n hhi h1.cfg h1.cok hk1.size).mono ?_
  rintro e w2 ⟨v, rfl, hv2, hk2⟩
  have h2 := h1.fresh hk2
  have hk12 : Keep (MB2 P B) w w2 := hk1.then (hk2.weak (fun _ _ x => x.elim))
  have d0 := (hk2.cell (p := ⟨P, 0, none⟩) (lt_of_heap e2) id).trans c0
  clear c0 c2
  by_cases hz : sizeK n c = 0
  ·rw [hz] at hv2
   have hv3 := hv2.isNil
   subst hv3
   have hn0 : 0 ≤ n := by unfold sizeK at hz; split at hz; omega; omega
   have HK : Hid (strK rem c = fullK n.toNat (rem.drop 4)) := by show _ = _; simp only [strK, if_neg hl, HN.out, if_pos hz]
   obtain ⟨m, rfl⟩ := Int.eq_ofNat_of_zero_le hn0
   simp only [Int.ofNat_eq_natCast, Int.toNat_natCast] at *
   clear hz
   by_cases hm0 : m = 0
   ·subst hm0
    go_wp2_with fail
    go_ret2
    refine ⟨_, _, _, rfl, ?_, h2, hk12, fun _ => ⟨?_, ?_⟩⟩
    ·rw [HK.out]; simpa [fullK] using ErrAt.nil _ _ _
    ·simp [strS, HN.out]
    ·simp [strRem, HN.out]
   ·have hmz : ((m : Int) == 0) = false := by simp [hm0]
    by_cases hm64 : m < 64
    ·have hsl := fun w => slice_arr P m (by omega) .i32 w
     go_wp2_with fail
     refine (bin_readFull h2 m 64 (by omega) (by omega) (by omega)).mono ?_
     rintro e w3 ⟨ev, rfl, he3, h3, hk3, sc3, hs3, hb3, ht3⟩
     have hl4 : ((rem.drop 4).take m).length = min m (rem.drop 4).length := by rw [List.length_take]
     have HC := hdd (blk_cells hb3 ht3)
     have hcv0 := conv_str (w := w3.drew) (cap := 64) hl4 HC.out
     have hq1 : min m (rem.drop 4).length ≤ 64 := by omega
     have hq2 : (0 : Int) ≤ (min m (rem.drop 4).length : Nat) := by omega
     have hSS : (rem.drop 4).take m = strS rem := by simp [strS, HN.out]
     have hSR : (rem.drop 4).drop m = strRem rem := by simp [strRem, HN.out]
     rw [hSS] at hcv0 hl4 HC
     rw [hSR] at h3
     have HSS := hdd hSS
     clear hSS hSR ht3
     generalize hqq : min m (rem.drop 4).length = q at *
     have HL := hdd hl4
     clear hqq hl4 hsl
     go_wp2_with fail
     go_region_with (go_at_call 76; refine (newPExc (w := w3.drew) (h3.glob.eqv (Eqv.drew w3)) (n0 := w.heap.size) (hk3.lt (hk2.lt hk1.size)) ((he3.mono (hk2.lt hk1.size)).eqv (Eqv.drew w3)) (endK_lt _ _)).mono ?_; rintro e w4 ⟨v, rfl, hv4, hk4⟩; have hcv1 := conv_str (w := w4) (cap := 64) HL.out (fun j hj => (hk4.cell (p := ⟨P, 3 + j, none⟩) (lt_of_heap hb3) id).trans (HC.out j hj)))
     all_goals
      go_wp2_with fail
      go_ret2
      exact ⟨_, _, _, rfl, by rw [HK.out, ← pk_endK]; exact hv4, (h3.eqv (Eqv.drew w3)).fresh hk4, hk12.then (hk3.then (((Eqv.drew w3).keep _).then (hk4.weak (fun _ _ x => x.elim)))), fun _ => ⟨rfl, rfl⟩⟩
    ·go_wp2_with fail
     refine (bin_readStringBody h2 m (by omega)).mono ?_
     rintro e w3 ⟨ev, rfl, he3, h3, hk3⟩
     go_wp2_with fail
     go_ret2
     refine ⟨_, _, _, rfl, by rw [HK.out]; exact he3.mono hk12.size, h3, hk12.then hk3, fun _ => ⟨?_, ?_⟩⟩
     ·simp [strS, HN.out]
     ·simp [strRem, HN.out]
  ·obtain ⟨t, x, rfl⟩ := hv2.held hz
   have HK : Hid (strK rem c = sizeK n c) := by show _ = _; simp only [strK, if_neg hl, HN.out, if_neg hz]
   go_wp2_with fail
   go_ret2
   exact ⟨_, _, _, rfl, by rw [HK.out]; exact hv2, h2, hk12, fun hh => absurd (HK.out ▸ hh) hz⟩
theorem bin_structEnd (p c : Value) (w : World) : Calls Tryz.prog 315 #[p, c] w fun e w' => e = .returned .nilIface ∧ w = w' := by
 go_enter Tryz.func315, Tryz.ntmps315
 go_wp2_with fail
 go_ret
 exact ⟨rfl, rfl⟩
theorem bin_fieldEnd (p c : Value) (w : World) : Calls Tryz.prog 301 #[p, c] w fun e w' => e = .returned .nilIface ∧ w = w' := by
 go_enter Tryz.func301, Tryz.ntmps301
 go_wp2_with fail
 go_ret
 exact ⟨rfl, rfl⟩
theorem bin_mapEnd (p c : Value) (w : World) : Calls Tryz.prog 308 #[p, c] w fun e w' => e = .returned .nilIface ∧ w = w' := by
 go_enter Tryz.func308, Tryz.ntmps308
 go_wp2_with fail
 go_ret
 exact ⟨rfl, rfl⟩
theorem bin_listEnd (p c : Value) (w : World) : Calls Tryz.prog 306 #[p, c] w fun e w' => e = .returned .nilIface ∧ w = w' := by
 go_enter Tryz.func306, Tryz.ntmps306
 go_wp2_with fail
 go_ret
 exact ⟨rfl, rfl⟩
theorem bin_setEnd (p c : Value) (w : World) : Calls Tryz.prog 312 #[p, c] w fun e w' => e = .returned .nilIface ∧ w = w' := by
 go_enter Tryz.func312, Tryz.ntmps312
 go_wp2_with fail
 go_ret
 exact ⟨rfl, rfl⟩
theorem bin_msgEnd (p c : Value) (w : World) : Calls Tryz.prog 310 #[p, c] w fun e w' => e = .returned .nilIface ∧ w = w' := by
 go_enter Tryz.func310, Tryz.ntmps310
 go_wp2_with fail
 go_ret
 exact ⟨rfl, rfl⟩
theorem bin_structBegin (p c : Value) (w : World) : Calls Tryz.prog 314 #[p, c] w fun e w' => e = .returned (.tuple #[.string ⟨#[]⟩, .nilIface]) ∧ w = w' := by
 go_enter Tryz.func314, Tryz.ntmps314
 go_wp2_with fail
 go_ret2
 exact ⟨rfl, rfl⟩
theorem bcells_one (l : List UInt8) : (bcells l).toArray.all (·.oneCell') = true := by
 simp [bcells]
 intros
 rfl
set_option maxRecDepth 100000 in
theorem bin_readUUID {E : Env} {P MB B D : Nat} {a : Option Addr} {c : Cfg} {rem : List UInt8} {w : World} (h : BinP E P MB B D a c rem w) :
  Calls Tryz.prog 316 #[.pointer (some ⟨P, 0, none⟩), ctxV] w fun e w' => ∃ l ev, e = .returned (.tuple #[.agg (bcells l).toArray, ev]) ∧ ErrAt E w.heap.size w' ev (fullK 16 rem) ∧
   BinP E P MB B D a c (rem.drop 16) w' ∧ Keep (MB2 P B) w w' ∧ l.length = 16 ∧ (16 ≤ rem.length → l = rem.take 16) := by
 obtain ⟨Z, hZ⟩ : ∃ Z : Array Value, #[.int .u8 0, .int .u8 0, .int .u8 0, .int .u8 0, .int .u8 0, .int .u8 0, .int .u8 0, .int .u8 0, .int .u8 0, .int .u8 0, .int .u8 0, .int .u8 0, .int .u8 0, .int .u8 0, .int .u8 0, .int .u8 0] = Z := ⟨_, rfl⟩
 have hZb : Z = (bcells (List.replicate 16 0)).toArray := by rw [← hZ]; rfl
 have hZs : Z.size = 16 := by rw [← hZ]; rfl
 have hone : Z.all (·.oneCell') = true := by rw [hZb]; exact bcells_one _
 have HONE := hdd hone
 have HZs := hdd hZs
 have HZb := hdd hZb
 have HZ := hdd hZ
 clear hZ hZb hZs hone
 go_enter Tryz.func316, Tryz.ntmps316
 go_wp2_with fail
 rw [HZ.out]
 have hkA : Keep (fun _ => False) w (w.alloc (.cells Z 243)) := (Keep.refl _ w).alloc _
 have hUA : (w.alloc (.cells Z 243)).heap[w.heap.size]? = some (.cells Z 243 (0, 0)) := heap_alloc_new w _
 obtain ⟨U, hU⟩ : ∃ U, w.heap.size = U := ⟨_, rfl⟩
 have hPU : P < U := by obtain ⟨sc, _, e2⟩ := h.blk; have := lt_of_heap e2; omega
 have hBU : B < U := by have := h.mem.lts; omega
 generalize w.alloc (.cells Z 243) = wA at *
 rw [hU] at hUA ⊢
 have hA := h.fresh hkA
 refine (bin_readAll hA 16 64 (by omega) (by omega) (by omega)).mono ?_
 rintro e w1 ⟨ev, rfl, he1, h1, hk1, sc, hs, hb, ht⟩
 have hU1 : w1.heap[U]? = some (.cells Z 243 (0, 0)) := (hk1.block U (lt_of_heap hUA) (by rintro (e | e) <;> omega)).trans hUA
 have hkw1 : Keep (MB2 P B) w w1 := (hkA.weak (fun _ _ x => x.elim)).then hk1
 have he1' : ErrAt E w.heap.size w1 ev (fullK 16 rem) := he1.mono hkA.size
 have HU1 := hdd hU1
 have hUlt := lt_of_heap hUA
 clear hUA hU1
 by_cases hl : rem.length < 16
 ·have hk10 : fullK 16 rem = 10 := by simp [fullK]; omega
  rw [hk10] at he1'
  obtain ⟨t, x, rfl⟩ := he1'.held (by decide)
  have hsz : (Tryz.prog.info? 243).map (·.size) = some Z.size := by rw [HZs.out]; kernel_rfl
  have HSZ := hdd hsz
  clear hsz
  go_wp2_with (first | (refine wpList_load_row rfl 243 (.tmp 4) rfl U rfl 243 Z (0, 0) _ HU1.out Tryz.underlying243 rfl HSZ.out ?_) | (refine wpList_store_row rfl 243 (.tmp 4) (.tmp 20) rfl U Z rfl rfl 243 Z HU1.out HSZ.out rfl HONE.out ?_))
  have hU2 : (w1.setRow U Z).heap[U]? = some (.cells Z 243 (0, 0)) := setRow_heap _ _ _ _ _ _ HU1.out
  have hl := run_loadVar_row (P := Tryz.prog) (w1.setRow U Z) U 243 243 Z (0, 0) _ hU2 Tryz.underlying243 rfl HSZ.out
  have hkr : Keep (fun i => U = i) w1 (w1.setRow U Z) := (Keep.refl _ w1).setRow U (fun _ => rfl) Z
  refine bodyPost_ret (v := .tuple #[.agg Z, .iface t x]) (by simp [results, Tryz.results316, asAddr, hl]) rfl ?_
  have hkr2 : Keep (MB2 P B) w (w1.setRow U Z) := hkw1.trans hkr (fun i hi e => by omega)
  have hD := h.mem.ltD
  have hMB := h.mem.lts
  obtain ⟨sc1, f1, f2⟩ := h1.blk
  have hm2 : Mem E (w1.setRow U Z) MB B D (rem.drop 16) := h1.mem.keep hkr (by omega) (by omega) (by omega)
  have h2 : BinP E P MB B D a c (rem.drop 16) (w1.setRow U Z) := h.step hm2 hkr2 ⟨sc1, f1, (hkr.block P (lt_of_heap f2) (by omega)).trans f2⟩
  exact ⟨List.replicate 16 0, _, by rw [HZb.out], (he1.keep hkr (fun i hi e => by omega)).mono hkA.size, h2, hkr2, by simp, fun hh => by omega⟩
 ·have hk0 : fullK 16 rem = 0 := by simp [fullK]; omega
  rw [hk0] at he1'
  have hev := he1'.isNil
  subst hev
  obtain ⟨V, hV⟩ : ∃ V : List Value, bcells (rem.take 16) = V := ⟨_, rfl⟩
  have hVl : V.length = Nat.min 16 16 := by rw [← hV]; simp; omega
  have hVo : ∀ v ∈ V, v.oneCell' = true := by
   intro v hv; rw [← hV] at hv; obtain ⟨x, _, rfl⟩ := List.mem_map.1 hv; rfl
  have hVs : ∀ j v, V[j]? = some v → w1.cell? ((⟨P, 3, none⟩ : Addr).add j) = some v := by
   intro j v hj
   rw [← hV] at hj
   obtain ⟨hj1, hj2⟩ := List.getElem?_eq_some_iff.1 hj
   simp at hj1
   have := blk_cells hb (take_four hs ht (by omega)) j (by simp; omega)
   rw [Addr.add_lit, this, ← hj2]
   simp [bcells]
  have hU9 : w1.heap[U]? = some (.cells (bcells (List.replicate 16 0)).toArray 243 (0, 0)) := by rw [← HZb.out]; exact HU1.out
  obtain ⟨R, hR⟩ : ∃ R : List Value, bcells (List.replicate 16 0) = R := ⟨_, rfl⟩
  rw [hR] at hU9
  have hRl : R.length = 16 := by rw [← hR]; simp
  have hsp : splice R 0 V = V := by simp [splice]; rw [hRl, hVl]; decide
  have hsz : (Tryz.prog.info? 243).map (·.size) = some V.toArray.size := by
   have hv16 : V.toArray.size = 16 := by simp [hVl]
   have e16 : (Tryz.prog.info? 243).map (·.size) = some 16 := by kernel_rfl
   rw [hv16]; exact e16
  have HSZ := hdd hsz
  have HVL := hdd hVl
  have HVO := hdd hVo
  have HVS := hdd hVs
  have HU9 := hdd hU9
  have HFIT := hdd (show 0 + V.length ≤ R.length by rw [hVl, hRl]; decide)
  have HSP := hdd hsp
  have HV := hdd hV
  have HVA := hdd (show V.toArray.all (·.oneCell') = true by rw [← hV]; exact bcells_one _)
  clear hV hVl hVo hVs hU9 hR hRl hsp hsz
  go_wp2_with (refine wpList_copy_row rfl (.tmp 17) (.tmp 18) 24 24 rfl 5 Tryz.underlying24 (by kernel_rfl) U 0 16 16 ⟨P, 3, none⟩ 16 64 rfl rfl R 243 HU9.out V HVL.out HVS.out HFIT.out HVO.out ?_)
  intro w2 Hw2
  have hU2 : Hid (w2.heap[U]? = some (.cells V.toArray 243 (0, 0))) := by
   show _ = _
   rw [Hw2.out.1, setRow_heap _ _ _ _ _ _ HU9.out, HSP.out]
  go_wp2_with (first | (refine wpList_load_row rfl 243 (.tmp 4) rfl U rfl 243 V.toArray (0, 0) _ hU2.out Tryz.underlying243 rfl HSZ.out ?_) | (refine wpList_store_row rfl 243 (.tmp 4) (.tmp 20) rfl U V.toArray rfl rfl 243 V.toArray hU2.out HSZ.out rfl HVA.out ?_))
  have hU3 : (w2.setRow U V.toArray).heap[U]? = some (.cells V.toArray 243 (0, 0)) := setRow_heap _ _ _ _ _ _ hU2.out
  have hl := run_loadVar_row (P := Tryz.prog) (w2.setRow U V.toArray) U 243 243 V.toArray (0, 0) _ hU3 Tryz.underlying243 rfl HSZ.out
  have hkr : Keep (fun i => U = i) w1 (w2.setRow U V.toArray) := ((((Keep.refl _ w1).setRow U (fun _ => rfl) _).eqv Hw2.out).setRow U (fun _ => rfl) _)
  refine bodyPost_ret (v := .tuple #[.agg V.toArray, .nilIface]) (by simp [results, Tryz.results316, asAddr, hl]) rfl ?_
  have hkr2 : Keep (MB2 P B) w (w2.setRow U V.toArray) := hkw1.trans hkr (fun i hi e => by omega)
  have hD := h.mem.ltD
  have hMB := h.mem.lts
  obtain ⟨sc1, f1, f2⟩ := h1.blk
  have hm2 : Mem E (w2.setRow U V.toArray) MB B D (rem.drop 16) := h1.mem.keep hkr (by omega) (by omega) (by omega)
  have h2 : BinP E P MB B D a c (rem.drop 16) (w2.setRow U V.toArray) := h.step hm2 hkr2 ⟨sc1, f1, (hkr.block P (lt_of_heap f2) (by omega)).trans f2⟩
  exact ⟨rem.take 16, _, by rw [HV.out], by rw [hk0]; exact ErrAt.nil _ _ _, h2, hkr2, by simp; omega, fun _ => rfl⟩
structure Pr (σ : Type) where
 len : σ → Nat
 dep : σ → Nat
 one : Nat
 scK : Int → σ → Int
 scS : Int → σ → σ
 scN : Int → σ → Int
 scB : Int → σ → List UInt8
 sbS : σ → σ
 seS : σ → σ
 feS : σ → σ
 meS : σ → σ
 leS : σ → σ
 fK : σ → Int
 fS : σ → σ
 fT : σ → Int
 fI : σ → Int
 mK : σ → Int
 mS : σ → σ
 mKT : σ → Int
 mT : σ → Int
 mN : σ → Int
 lK : σ → Int
 lS : σ → σ
 lT : σ → Int
 lN : σ → Int
structure Pr.Ok {σ : Type} (p : Pr σ) : Prop where
 sc : ∀ t s, p.len (p.scS t s) ≤ p.len s
 sb : ∀ s, p.len (p.sbS s) ≤ p.len s
 se : ∀ s, p.len (p.seS s) ≤ p.len s
 fe : ∀ s, p.len (p.feS s) ≤ p.len s
 me : ∀ s, p.len (p.meS s) ≤ p.len s
 le : ∀ s, p.len (p.leS s) ≤ p.len s
 f : ∀ s, p.fK s = 0 → p.len (p.fS s) < p.len s
 m : ∀ s, p.mK s = 0 → p.len (p.mS s) < p.len s
 l : ∀ s, p.lK s = 0 → p.len (p.lS s) < p.len s
 one1 : p.one ≤ 1
 dsc : ∀ t s, p.scK t s = 0 → p.dep (p.scS t s) = p.dep s
 dsb : ∀ s, p.dep (p.sbS s) = p.dep s + p.one
 dse : ∀ s, p.one ≤ p.dep s → p.dep (p.seS s) + p.one = p.dep s
 dfe : ∀ s, p.dep (p.feS s) = p.dep s
 dme : ∀ s, p.dep (p.meS s) = p.dep s
 dle : ∀ s, p.dep (p.leS s) = p.dep s
 df : ∀ s, p.fK s = 0 → p.dep (p.fS s) = p.dep s
 dm : ∀ s, p.mK s = 0 → p.dep (p.mS s) = p.dep s
 dl : ∀ s, p.lK s = 0 → p.dep (p.lS s) = p.dep s
 mb : ∀ s, p.mN s ≤ 2147483647
 lb : ∀ s, p.lN s ≤ 2147483647
def isSc (t : Int) : Bool := t == 2 || t == 3 || t == 6 || t == 8 || t == 10 || t == 4 || t == 11 || t == 16
def Pr.Room {σ : Type} (p : Pr σ) (s : σ) : Prop := p.len s + p.dep s < 1099511627776
def Sk (k x : Int) : Prop := x = -2 ∨ (x = -1 ∧ k ≠ 0 ∧ k < 50) ∨ x = k
theorem Sk.zero {k : Int} (h : Sk k 0) : k = 0 := by unfold Sk at h; omega
structure Bin.Ctx where
 E : Env
 P : Nat
 MB : Nat
 B : Nat
 D : Nat
 a : Option Addr
 c : Cfg
abbrev Bin.St : Type := List UInt8
abbrev Bin.M (K : Bin.Ctx) (_ : World) : Nat → Prop := MB2 K.P K.B
structure Bin.Inv (K : Bin.Ctx) (s : Bin.St) (w : World) : Prop where
 p : BinP K.E K.P K.MB K.B K.D K.a K.c s w
 len : s.length ≤ 140737488355328
def Bin.Some (K : Bin.Ctx) (w : World) : Prop := ∃ s, BinP K.E K.P K.MB K.B K.D K.a K.c s w
def Bin.scK (c : Cfg) (t : Int) (s : Bin.St) : Int :=
 if t = 2 ∨ t = 3 then endK 1 s else if t = 6 then fullK 2 s else if t = 8 then fullK 4 s else if t = 10 ∨ t = 4 then fullK 8 s else if t = 11 then strK s c else fullK 16 s
def Bin.scS (t : Int) (s : Bin.St) : Bin.St :=
 if t = 2 ∨ t = 3 then s.drop 1 else if t = 6 then s.drop 2 else if t = 8 then s.drop 4 else if t = 10 ∨ t = 4 then s.drop 8 else if t = 11 then strRem s else s.drop 16
def Bin.scN (t : Int) (s : Bin.St) : Int :=
 if t = 2 then (match s with | b :: _ => if (b == 1) = true then 1 else 0 | _ => 0) else if t = 3 then (match s with | b :: _ => IntKind.i8.wrap b.toNat | _ => 0) else
 if t = 6 then IntKind.i16.wrap (Lib.beNat (s.take 2)) else if t = 8 then wrap32 (Lib.beNat (s.take 4)) else if t = 10 ∨ t = 4 then wrap64 (Lib.beNat (s.take 8)) else 0
def Bin.scB (t : Int) (s : Bin.St) : List UInt8 := if t = 11 then strS s else if t = 16 then s.take 16 else []
def Bin.pr (K : Bin.Ctx) : Pr Bin.St where
 len := List.length
 dep := fun _ => 0
 one := 0
 scK := Bin.scK K.c
 scS := Bin.scS
 scN := Bin.scN
 scB := Bin.scB
 sbS := id
 seS := id
 feS := id
 meS := id
 leS := id
 fK := fieldK
 fS := fieldRem
 fT := fieldT
 fI := fieldI
 mK := fun s => mapK s K.c
 mS := mapRem
 mKT := mapKT
 mT := mapT
 mN := mapN
 lK := fun s => listK s K.c
 lS := listRem
 lT := listT
 lN := listN
theorem Bin.ok (K : Bin.Ctx) : (Bin.pr K).Ok where
 sc t s := by
  show (Bin.scS t s).length ≤ s.length
  unfold Bin.scS strRem
  repeat' split
  all_goals simp <;> omega
 sb s := Nat.le_refl _
 se s := Nat.le_refl _
 fe s := Nat.le_refl _
 me s := Nat.le_refl _
 le s := Nat.le_refl _
 f s h := by
  show (fieldRem s).length < s.length
  have h : fieldK s = 0 := h
  cases s with
  | nil => simp [fieldK] at h
  | cons b r => simp only [fieldRem]; split <;> simp <;> omega
 m s h := by
  show (mapRem s).length < s.length
  have h : mapK s K.c = 0 := h
  match s with
  | [] => simp [mapK] at h
  | [_] => simp [mapK] at h
  | _ :: _ :: r => simp [mapRem]; omega
 l s h := by
  show (listRem s).length < s.length
  have h : listK s K.c = 0 := h
  match s with
  | [] => simp [listK] at h
  | _ :: r => simp [listRem]; omega
 one1 := Nat.zero_le _
 dsc _ _ _ := rfl
 dsb _ := rfl
 dse _ _ := rfl
 dfe _ := rfl
 dme _ := rfl
 dle _ := rfl
 df _ _ := rfl
 dm _ _ := rfl
 dl _ _ := rfl
 mb s := by show mapN s ≤ 2147483647; unfold mapN; split; (simp only [wrap32]; omega); omega
 lb s := by show listN s ≤ 2147483647; unfold listN; split; omega; (simp only [wrap32]; omega)
section
variable (K : Bin.Ctx) (s : Bin.St)
theorem Bin.k2 : (Bin.pr K).scK 2 s = endK 1 s := by simp [Bin.pr, Bin.scK]
theorem Bin.k3 : (Bin.pr K).scK 3 s = endK 1 s := by simp [Bin.pr, Bin.scK]
theorem Bin.k6 : (Bin.pr K).scK 6 s = fullK 2 s := by simp [Bin.pr, Bin.scK]
theorem Bin.k8 : (Bin.pr K).scK 8 s = fullK 4 s := by simp [Bin.pr, Bin.scK]
theorem Bin.k10 : (Bin.pr K).scK 10 s = fullK 8 s := by simp [Bin.pr, Bin.scK]
theorem Bin.k4 : (Bin.pr K).scK 4 s = fullK 8 s := by simp [Bin.pr, Bin.scK]
theorem Bin.k11 : (Bin.pr K).scK 11 s = strK s K.c := by simp [Bin.pr, Bin.scK]
theorem Bin.k16 : (Bin.pr K).scK 16 s = fullK 16 s := by simp [Bin.pr, Bin.scK]
theorem Bin.s2 : (Bin.pr K).scS 2 s = s.drop 1 := by simp [Bin.pr, Bin.scS]
theorem Bin.s3 : (Bin.pr K).scS 3 s = s.drop 1 := by simp [Bin.pr, Bin.scS]
theorem Bin.s6 : (Bin.pr K).scS 6 s = s.drop 2 := by simp [Bin.pr, Bin.scS]
theorem Bin.s8 : (Bin.pr K).scS 8 s = s.drop 4 := by simp [Bin.pr, Bin.scS]
theorem Bin.s10 : (Bin.pr K).scS 10 s = s.drop 8 := by simp [Bin.pr, Bin.scS]
theorem Bin.s4 : (Bin.pr K).scS 4 s = s.drop 8 := by simp [Bin.pr, Bin.scS]
theorem Bin.s11 : (Bin.pr K).scS 11 s = strRem s := by simp [Bin.pr, Bin.scS]
theorem Bin.s16 : (Bin.pr K).scS 16 s = s.drop 16 := by simp [Bin.pr, Bin.scS]
theorem Bin.n2 : (Bin.pr K).scN 2 s = (match s with | b :: _ => if (b == 1) = true then 1 else 0 | _ => 0) := by simp only [Bin.pr, Bin.scN]; rw [if_pos trivial]
theorem Bin.n3 : (Bin.pr K).scN 3 s = (match s with | b :: _ => IntKind.i8.wrap b.toNat | _ => 0) := by simp only [Bin.pr, Bin.scN]; rw [if_neg (by decide), if_pos trivial]
theorem Bin.n6 : (Bin.pr K).scN 6 s = IntKind.i16.wrap (Lib.beNat (s.take 2)) := by simp only [Bin.pr, Bin.scN]; rw [if_neg (by decide), if_neg (by decide), if_pos trivial]
theorem Bin.n8 : (Bin.pr K).scN 8 s = wrap32 (Lib.beNat (s.take 4)) := by simp only [Bin.pr, Bin.scN]; rw [if_neg (by decide), if_neg (by decide), if_neg (by decide), if_pos trivial]
theorem Bin.n10 : (Bin.pr K).scN 10 s = wrap64 (Lib.beNat (s.take 8)) := by simp only [Bin.pr, Bin.scN]; rw [if_neg (by decide), if_neg (by decide), if_neg (by decide), if_neg (by decide), if_pos (.inl trivial)]
theorem Bin.n4 : (Bin.pr K).scN 4 s = wrap64 (Lib.beNat (s.take 8)) := by simp only [Bin.pr, Bin.scN]; rw [if_neg (by decide), if_neg (by decide), if_neg (by decide), if_neg (by decide), if_pos (.inr trivial)]
theorem Bin.b11 : (Bin.pr K).scB 11 s = strS s := by simp [Bin.pr, Bin.scB]
theorem Bin.b16 : (Bin.pr K).scB 16 s = s.take 16 := by simp [Bin.pr, Bin.scB]
end
structure Bin.Post (K : Bin.Ctx) (w w' : World) (k : Int) (ev : Value) (s : Bin.St) : Prop where
 err : ErrAt K.E w.heap.size w' ev k
 inv : k = 0 → Bin.Inv K s w'
 some : Bin.Some K w'
 keep : Kpt (Bin.M K) w w'
theorem Bin.mkPost {K : Bin.Ctx} {w w' : World} {k : Int} {ev : Value} {s s0 : Bin.St} (h0 : Bin.Inv K s0 w) (he : ErrAt K.E w.heap.size w' ev k) (hp : BinP K.E K.P K.MB K.B K.D K.a K.c s w') (hl : s.length ≤ s0.length) (hk : Keep (MB2 K.P K.B) w w') : Bin.Post K w w' k ev s :=
 ⟨he, fun _ => ⟨hp, Nat.le_trans hl h0.len⟩, ⟨_, hp⟩, ⟨hk, fun _ _ x => x⟩⟩
theorem Bin.Inv.fresh {K : Bin.Ctx} {w w' : World} {s : Bin.St} (h : Bin.Inv K s w) (k : Keep (fun _ => False) w w') : Bin.Inv K s w' := ⟨h.p.fresh k, h.len⟩
theorem Bin.Inv.some {K : Bin.Ctx} {w : World} {s : Bin.St} (h : Bin.Inv K s w) : Bin.Some K w := ⟨_, h.p⟩
theorem Bin.Some.fresh {K : Bin.Ctx} {w w' : World} (h : Bin.Some K w) (k : Keep (fun _ => False) w w') : Bin.Some K w' := ⟨h.choose, h.choose_spec.fresh k⟩
theorem Bin.Inv.glob {K : Bin.Ctx} {w : World} {s : Bin.St} (h : Bin.Inv K s w) : Glob K.E w := h.p.glob
theorem Bin.Post.then {K : Bin.Ctx} {w w1 w2 : World} {k k1 : Int} {e1 ev : Value} {s1 s : Bin.St} (h1 : Bin.Post K w w1 k1 e1 s1) (h2 : Bin.Post K w1 w2 k ev s) : Bin.Post K w w2 k ev s :=
 ⟨h2.err.mono h1.keep.size, h2.inv, h2.some, h1.keep.then h2.keep⟩
theorem Bin.Post.re {K : Bin.Ctx} {w w1 : World} {k : Int} {ev : Value} {s s' : Bin.St} (h : Bin.Post K w w1 k ev s) (e : k = 0 → s = s') : Bin.Post K w w1 k ev s' :=
 ⟨h.err, fun hz => e hz ▸ h.inv hz, h.some, h.keep⟩
theorem Bin.readBool {K : Bin.Ctx} {s : Bin.St} {w : World} (h : Bin.Inv K s w) :
  Calls Tryz.prog 297 #[.pointer (some ⟨K.P, 0, none⟩), ctxV] w fun e w' => ∃ v ev, e = .returned (.tuple #[.bool v, ev]) ∧ Bin.Post K w w' ((Bin.pr K).scK 2 s) ev ((Bin.pr K).scS 2 s) ∧ ((Bin.pr K).scK 2 s = 0 → (if v = true then 1 else 0) = (Bin.pr K).scN 2 s) := by
 simp only [Bin.k2, Bin.s2, Bin.n2]
 refine (bin_readBool h.p).mono ?_
 rintro e w' ⟨v, ev, rfl, he, hp, hk, hv⟩
 refine ⟨v, ev, rfl, Bin.mkPost h he hp (by simp) hk, fun hz => ?_⟩
 cases s with
 | nil => simp [endK] at hz
 | cons b r => rw [hv b r rfl]
theorem Bin.readByte {K : Bin.Ctx} {s : Bin.St} {w : World} (h : Bin.Inv K s w) :
  Calls Tryz.prog 298 #[.pointer (some ⟨K.P, 0, none⟩), ctxV] w fun e w' => ∃ n ev, e = .returned (.tuple #[.int .i8 n, ev]) ∧ Bin.Post K w w' ((Bin.pr K).scK 3 s) ev ((Bin.pr K).scS 3 s) ∧ ((Bin.pr K).scK 3 s = 0 → n = (Bin.pr K).scN 3 s) ∧ -128 ≤ n ∧ n ≤ 127 := by
 simp only [Bin.k3, Bin.s3, Bin.n3]
 refine (bin_readByte h.p).mono ?_
 rintro e w' ⟨v, ev, rfl, he, hp, hk, hb, hv⟩
 refine ⟨v, ev, rfl, Bin.mkPost h he hp (by simp) hk, fun hz => ?_, hb⟩
 cases s with
 | nil => simp [endK] at hz
 | cons b r => rw [hv b r rfl]
theorem fullK_len {n : Nat} {s : List UInt8} (h : fullK n s = 0) : n ≤ s.length := by
 unfold fullK at h; split at h <;> simp_all
theorem Bin.readI16 {K : Bin.Ctx} {s : Bin.St} {w : World} (h : Bin.Inv K s w) :
  Calls Tryz.prog 302 #[.pointer (some ⟨K.P, 0, none⟩), ctxV] w fun e w' => ∃ n ev, e = .returned (.tuple #[.int .i16 n, ev]) ∧ Bin.Post K w w' ((Bin.pr K).scK 6 s) ev ((Bin.pr K).scS 6 s) ∧ ((Bin.pr K).scK 6 s = 0 → n = (Bin.pr K).scN 6 s) ∧ -32768 ≤ n ∧ n ≤ 32767 := by
 simp only [Bin.k6, Bin.s6, Bin.n6]
 refine (bin_readI16 h.p).mono ?_
 rintro e w' ⟨v, ev, rfl, he, hp, hk, hb, hv⟩
 exact ⟨v, ev, rfl, Bin.mkPost h he hp (by simp) hk, fun hz => hv (fullK_len hz), hb⟩
theorem Bin.readI32 {K : Bin.Ctx} {s : Bin.St} {w : World} (h : Bin.Inv K s w) :
  Calls Tryz.prog 303 #[.pointer (some ⟨K.P, 0, none⟩), ctxV] w fun e w' => ∃ n ev, e = .returned (.tuple #[.int .i32 n, ev]) ∧ Bin.Post K w w' ((Bin.pr K).scK 8 s) ev ((Bin.pr K).scS 8 s) ∧ ((Bin.pr K).scK 8 s = 0 → n = (Bin.pr K).scN 8 s) ∧ -2147483648 ≤ n ∧ n ≤ 2147483647 := by
 simp only [Bin.k8, Bin.s8, Bin.n8]
 refine (bin_readI32 h.p).mono ?_
 rintro e w' ⟨v, ev, rfl, he, hp, hk, hb, hv⟩
 exact ⟨v, ev, rfl, Bin.mkPost h he hp (by simp) hk, fun hz => hv (fullK_len hz), hb⟩
theorem Bin.readI64 {K : Bin.Ctx} {s : Bin.St} {w : World} (h : Bin.Inv K s w) :
  Calls Tryz.prog 304 #[.pointer (some ⟨K.P, 0, none⟩), ctxV] w fun e w' => ∃ n ev, e = .returned (.tuple #[.int .i64 n, ev]) ∧ Bin.Post K w w' ((Bin.pr K).scK 10 s) ev ((Bin.pr K).scS 10 s) ∧ ((Bin.pr K).scK 10 s = 0 → n = (Bin.pr K).scN 10 s) ∧ -9223372036854775808 ≤ n ∧ n ≤ 9223372036854775807 := by
 simp only [Bin.k10, Bin.s10, Bin.n10]
 refine (bin_readI64 h.p).mono ?_
 rintro e w' ⟨v, ev, rfl, he, hp, hk, hb, hv⟩
 exact ⟨v, ev, rfl, Bin.mkPost h he hp (by simp) hk, fun hz => hv (fullK_len hz), hb⟩
theorem Bin.readDouble {K : Bin.Ctx} {s : Bin.St} {w : World} (h : Bin.Inv K s w) :
  Calls Tryz.prog 299 #[.pointer (some ⟨K.P, 0, none⟩), ctxV] w fun e w' => ∃ n ev, e = .returned (.tuple #[.float .f64 n, ev]) ∧ Bin.Post K w w' ((Bin.pr K).scK 4 s) ev ((Bin.pr K).scS 4 s) ∧ n < 18446744073709551616 ∧ ((Bin.pr K).scK 4 s = 0 → wrap64 n = (Bin.pr K).scN 4 s) := by
 simp only [Bin.k4, Bin.s4, Bin.n4]
 refine (bin_readDouble h.p).mono ?_
 rintro e w' ⟨v, ev, rfl, he, hp, hk, hb, hv⟩
 exact ⟨v, ev, rfl, Bin.mkPost h he hp (by simp) hk, hb, fun hz => by rw [hv (fullK_len hz)]⟩
theorem Bin.readUUID {K : Bin.Ctx} {s : Bin.St} {w : World} (h : Bin.Inv K s w) :
  Calls Tryz.prog 316 #[.pointer (some ⟨K.P, 0, none⟩), ctxV] w fun e w' => ∃ l ev, e = .returned (.tuple #[.agg (bcells l).toArray, ev]) ∧ Bin.Post K w w' ((Bin.pr K).scK 16 s) ev ((Bin.pr K).scS 16 s) ∧ l.length = 16 ∧ ((Bin.pr K).scK 16 s = 0 → l = (Bin.pr K).scB 16 s) := by
 simp only [Bin.k16, Bin.s16, Bin.b16]
 refine (bin_readUUID h.p).mono ?_
 rintro e w' ⟨v, ev, rfl, he, hp, hk, hb, hv⟩
 exact ⟨v, ev, rfl, Bin.mkPost h he hp (by simp) hk, hb, fun hz => hv (fullK_len hz)⟩
theorem Bin.readString {K : Bin.Ctx} {s : Bin.St} {w : World} (h : Bin.Inv K s w) :
  Calls Tryz.prog 313 #[.pointer (some ⟨K.P, 0, none⟩), ctxV] w fun e w' => ∃ l ev, e = .returned (.tuple #[.string l, ev]) ∧ Bin.Post K w w' ((Bin.pr K).scK 11 s) ev ((Bin.pr K).scS 11 s) ∧ ((Bin.pr K).scK 11 s = 0 → l = ⟨((Bin.pr K).scB 11 s).toArray⟩) := by
 simp only [Bin.k11, Bin.s11, Bin.b11]
 refine (bin_readString h.p).mono ?_
 rintro e w' ⟨v, ev, rem', rfl, he, hp, hk, hv⟩
 refine ⟨v, ev, rfl, ⟨he, fun hz => ?_, ⟨_, hp⟩, ⟨hk, fun _ _ x => x⟩⟩, fun hz => (hv hz).1⟩
 have e1 : rem' = strRem s := (hv hz).2
 subst e1
 exact ⟨hp, Nat.le_trans (by simp [strRem]) h.len⟩
theorem Bin.readFieldBegin {K : Bin.Ctx} {s : Bin.St} {w : World} (h : Bin.Inv K s w) :
  Calls Tryz.prog 300 #[.pointer (some ⟨K.P, 0, none⟩), ctxV] w fun e w' => ∃ l t id ev, e = .returned (.tuple #[.string l, .int .u8 t, .int .i16 id, ev]) ∧ Bin.Post K w w' ((Bin.pr K).fK s) ev ((Bin.pr K).fS s) ∧ ((Bin.pr K).fK s = 0 → t = (Bin.pr K).fT s ∧ id = (Bin.pr K).fI s) := by
 refine (bin_readFieldBegin h.p).mono ?_
 rintro e w' ⟨t, id, ev, rfl, he, hp, hk, hv⟩
 refine ⟨_, t, id, ev, rfl, Bin.mkPost h he hp ?_ hk, hv⟩
 show (fieldRem s).length ≤ s.length
 cases s with
 | nil => exact Nat.le_refl _
 | cons b r => simp only [fieldRem]; split <;> simp <;> omega
theorem Bin.readMapBegin {K : Bin.Ctx} {s : Bin.St} {w : World} (h : Bin.Inv K s w) :
  Calls Tryz.prog 307 #[.pointer (some ⟨K.P, 0, none⟩), ctxV] w fun e w' => ∃ kt t n ev, e = .returned (.tuple #[.int .u8 kt, .int .u8 t, .int .i64 n, ev]) ∧ Bin.Post K w w' ((Bin.pr K).mK s) ev ((Bin.pr K).mS s) ∧ ((Bin.pr K).mK s = 0 → kt = (Bin.pr K).mKT s ∧ t = (Bin.pr K).mT s ∧ n = (Bin.pr K).mN s) := by
 refine (bin_readMapBegin h.p h.len).mono ?_
 rintro e w' ⟨kt, t, n, ev, rfl, he, hp, hk, hv⟩
 exact ⟨kt, t, n, ev, rfl, Bin.mkPost h he hp (by show (mapRem s).length ≤ s.length; simp [mapRem]) hk, hv⟩
theorem Bin.readListBegin {K : Bin.Ctx} {s : Bin.St} {w : World} (h : Bin.Inv K s w) :
  Calls Tryz.prog 305 #[.pointer (some ⟨K.P, 0, none⟩), ctxV] w fun e w' => ∃ t n ev, e = .returned (.tuple #[.int .u8 t, .int .i64 n, ev]) ∧ Bin.Post K w w' ((Bin.pr K).lK s) ev ((Bin.pr K).lS s) ∧ ((Bin.pr K).lK s = 0 → t = (Bin.pr K).lT s ∧ n = (Bin.pr K).lN s) := by
 refine (bin_readListBegin h.p h.len).mono ?_
 rintro e w' ⟨t, n, ev, rfl, he, hp, hk, hv⟩
 exact ⟨t, n, ev, rfl, Bin.mkPost h he hp (by show (listRem s).length ≤ s.length; simp [listRem]) hk, hv⟩
theorem Bin.readSetBegin {K : Bin.Ctx} {s : Bin.St} {w : World} (h : Bin.Inv K s w) :
  Calls Tryz.prog 311 #[.pointer (some ⟨K.P, 0, none⟩), ctxV] w fun e w' => ∃ t n ev, e = .returned (.tuple #[.int .u8 t, .int .i64 n, ev]) ∧ Bin.Post K w w' ((Bin.pr K).lK s) ev ((Bin.pr K).lS s) ∧ ((Bin.pr K).lK s = 0 → t = (Bin.pr K).lT s ∧ n = (Bin.pr K).lN s) := by
 refine (bin_readSetBegin h.p h.len).mono ?_
 rintro e w' ⟨t, n, ev, rfl, he, hp, hk, hv⟩
 exact ⟨t, n, ev, rfl, Bin.mkPost h he hp (by show (listRem s).length ≤ s.length; simp [listRem]) hk, hv⟩
theorem Bin.nothing {K : Bin.Ctx} {s : Bin.St} {w : World} (h : Bin.Inv K s w) : Bin.Post K w w 0 .nilIface s := ⟨ErrAt.nil _ _ _, fun _ => h, ⟨_, h.p⟩, Kpt.refl _ _⟩
theorem Bin.readStructBegin {K : Bin.Ctx} {s : Bin.St} {w : World} (h : Bin.Inv K s w) (_ : (Bin.pr K).dep s < 1099511627776) :
  Calls Tryz.prog 314 #[.pointer (some ⟨K.P, 0, none⟩), ctxV] w fun e w' => ∃ l, e = .returned (.tuple #[.string l, .nilIface]) ∧ Bin.Post K w w' 0 .nilIface ((Bin.pr K).sbS s) := by
 refine (bin_structBegin _ _ _).mono ?_
 rintro e w' ⟨rfl, rfl⟩
 exact ⟨_, rfl, Bin.nothing h⟩
theorem Bin.readStructEnd {K : Bin.Ctx} {s : Bin.St} {w : World} (h : Bin.Inv K s w) (_ : (Bin.pr K).one ≤ (Bin.pr K).dep s) :
  Calls Tryz.prog 315 #[.pointer (some ⟨K.P, 0, none⟩), ctxV] w fun e w' => e = .returned .nilIface ∧ Bin.Post K w w' 0 .nilIface ((Bin.pr K).seS s) := by
 refine (bin_structEnd _ _ _).mono ?_
 rintro e w' ⟨rfl, rfl⟩
 exact ⟨rfl, Bin.nothing h⟩
theorem Bin.readFieldEnd {K : Bin.Ctx} {s : Bin.St} {w : World} (h : Bin.Inv K s w) :
  Calls Tryz.prog 301 #[.pointer (some ⟨K.P, 0, none⟩), ctxV] w fun e w' => e = .returned .nilIface ∧ Bin.Post K w w' 0 .nilIface ((Bin.pr K).feS s) := by
 refine (bin_fieldEnd _ _ _).mono ?_
 rintro e w' ⟨rfl, rfl⟩
 exact ⟨rfl, Bin.nothing h⟩
theorem Bin.readMapEnd {K : Bin.Ctx} {s : Bin.St} {w : World} (h : Bin.Inv K s w) :
  Calls Tryz.prog 308 #[.pointer (some ⟨K.P, 0, none⟩), ctxV] w fun e w' => e = .returned .nilIface ∧ Bin.Post K w w' 0 .nilIface ((Bin.pr K).meS s) := by
 refine (bin_mapEnd _ _ _).mono ?_
 rintro e w' ⟨rfl, rfl⟩
 exact ⟨rfl, Bin.nothing h⟩
theorem Bin.readListEnd {K : Bin.Ctx} {s : Bin.St} {w : World} (h : Bin.Inv K s w) :
  Calls Tryz.prog 306 #[.pointer (some ⟨K.P, 0, none⟩), ctxV] w fun e w' => e = .returned .nilIface ∧ Bin.Post K w w' 0 .nilIface ((Bin.pr K).leS s) := by
 refine (bin_listEnd _ _ _).mono ?_
 rintro e w' ⟨rfl, rfl⟩
 exact ⟨rfl, Bin.nothing h⟩
theorem Bin.readSetEnd {K : Bin.Ctx} {s : Bin.St} {w : World} (h : Bin.Inv K s w) :
  Calls Tryz.prog 312 #[.pointer (some ⟨K.P, 0, none⟩), ctxV] w fun e w' => e = .returned .nilIface ∧ Bin.Post K w w' 0 .nilIface ((Bin.pr K).leS s) := by
 refine (bin_setEnd _ _ _).mono ?_
 rintro e w' ⟨rfl, rfl⟩
 exact ⟨rfl, Bin.nothing h⟩
abbrev Bin.V (K : Bin.Ctx) : Value := .iface 158 (.pointer (some ⟨K.P, 0, none⟩))
structure Rp.Base (St : Type) where
 E : Env
 T : TypeId
 P : Nat
 pr : Pr St
 Mh : Array Obj → Nat → Prop
 Inv : St → World → Prop
 Some : World → Prop
 fBool : FuncId
 fByte : FuncId
 fI16 : FuncId
 fI32 : FuncId
 fI64 : FuncId
 fDbl : FuncId
 fStr : FuncId
 fUuid : FuncId
 fFb : FuncId
 fMb : FuncId
 fLb : FuncId
 fTb : FuncId
 fSb : FuncId
 fSe : FuncId
 fFe : FuncId
 fMe : FuncId
 fLe : FuncId
 fTe : FuncId
abbrev Rp.Base.M {St : Type} (K : Rp.Base St) (w : World) : Nat → Prop := K.Mh w.heap
structure Rp.Post {St : Type} (K : Rp.Base St) (w w' : World) (k : Int) (ev : Value) (s : St) : Prop where
 err : ErrAt K.E w.heap.size w' ev k
 inv : k = 0 → K.Inv s w'
 some : K.Some w'
 keep : Kpt K.M w w'
structure Rp.Meth (T : TypeId) (P : Nat) (nm : String) (f : FuncId) : Prop where
 m : ∀ w : World, (method 597 T (.pointer (some ⟨P, 0, none⟩)) nm).run Tryz.prog w = .ok (f, .pointer (some ⟨P, 0, none⟩)) w
 na : ∀ w : World, (nilAhead 597 T (.pointer (some ⟨P, 0, none⟩)) nm).run Tryz.prog w = .ok (some false) w
 cf : ∀ (args : Array Value) (w : World), (callFunc f args).run Tryz.prog w = .ok (.enter f args) w
structure Rp.Ctx (St : Type) extends Rp.Base St where
 ok : pr.Ok
 fresh : ∀ {s : St} {w w' : World}, Inv s w → Keep (fun _ => False) w w' → Inv s w'
 isSome : ∀ {s : St} {w : World}, Inv s w → Some w
 fresh1 : ∀ {s : St} {w w' : World}, Inv s w → Keep (fun _ => False) w w' → Some w' ∧ Kpt (fun w => Mh w.heap) w w' ∧ ∀ i, Mh w'.heap i → i < w.heap.size
 lt : ∀ {w : World}, Some w → ∀ i, Mh w.heap i → i < w.heap.size
 glob : ∀ {s : St} {w : World}, Inv s w → Glob E w
 turn : ∀ {s s' : St} {w w2 w3 : World} {N : Nat → Prop}, Inv s w → Kpt (fun w => Mh w.heap) w w2 → Inv s' w2 → Keep N w2 w3 → (∀ i, N i → w.heap.size ≤ i ∧ ¬ Mh w2.heap i) → Inv s' w3 ∧ Kpt (fun w => Mh w.heap) w w3 ∧ ∀ i, Mh w3.heap i → Mh w2.heap i
 thru : ∀ {s s1 s' : St} {w w1 w2 w3 : World} {k : Int} {ev : Value} {N : Nat → Prop}, Inv s w → Kpt (fun w => Mh w.heap) w w1 → Inv s1 w1 → Rp.Post toBase w1 w2 k ev s' → Keep N w2 w3 → (∀ i, N i → w.heap.size ≤ i ∧ i < w1.heap.size ∧ ¬ Mh w1.heap i) → Rp.Post toBase w w3 k ev s' ∧ ∀ i, Mh w3.heap i → Mh w2.heap i
 b0 : ∀ t s, t ≠ 11 → t ≠ 16 → pr.scB t s = []
 n0 : ∀ t s, t = 11 ∨ t = 16 → pr.scN t s = 0
 b_le : ∀ {s : St} {w : World}, Inv s w → ∀ t, (pr.scB t s).length ≤ 140737488355328
 lT_bd : ∀ s, 0 ≤ pr.lT s ∧ pr.lT s ≤ 255
 fT_bd : ∀ s, 0 ≤ pr.fT s ∧ pr.fT s ≤ 255
 mT_bd : ∀ s, (0 ≤ pr.mT s ∧ pr.mT s ≤ 255) ∧ 0 ≤ pr.mKT s ∧ pr.mKT s ≤ 255
 fI_bd : ∀ s, -32768 ≤ pr.fI s ∧ pr.fI s ≤ 32767
 mBool : Rp.Meth T P "ReadBool" fBool
 readBool : ∀ {s : St} {w : World}, Inv s w → Calls Tryz.prog fBool #[.pointer (some ⟨P, 0, none⟩), ctxV] w fun e w' => ∃ v ev, e = .returned (.tuple #[.bool v, ev]) ∧ Rp.Post toBase w w' (pr.scK 2 s) ev (pr.scS 2 s) ∧ (pr.scK 2 s = 0 → (if v = true then 1 else 0) = pr.scN 2 s)
 mByte : Rp.Meth T P "ReadByte" fByte
 readByte : ∀ {s : St} {w : World}, Inv s w → Calls Tryz.prog fByte #[.pointer (some ⟨P, 0, none⟩), ctxV] w fun e w' => ∃ n ev, e = .returned (.tuple #[.int .i8 n, ev]) ∧ Rp.Post toBase w w' (pr.scK 3 s) ev (pr.scS 3 s) ∧ (pr.scK 3 s = 0 → n = pr.scN 3 s) ∧ -128 ≤ n ∧ n ≤ 127
 mI16 : Rp.Meth T P "ReadI16" fI16
 readI16 : ∀ {s : St} {w : World}, Inv s w → Calls Tryz.prog fI16 #[.pointer (some ⟨P, 0, none⟩), ctxV] w fun e w' => ∃ n ev, e = .returned (.tuple #[.int .i16 n, ev]) ∧ Rp.Post toBase w w' (pr.scK 6 s) ev (pr.scS 6 s) ∧ (pr.scK 6 s = 0 → n = pr.scN 6 s) ∧ -32768 ≤ n ∧ n ≤ 32767
 mI32 : Rp.Meth T P "ReadI32" fI32
 readI32 : ∀ {s : St} {w : World}, Inv s w → Calls Tryz.prog fI32 #[.pointer (some ⟨P, 0, none⟩), ctxV] w fun e w' => ∃ n ev, e = .returned (.tuple #[.int .i32 n, ev]) ∧ Rp.Post toBase w w' (pr.scK 8 s) ev (pr.scS 8 s) ∧ (pr.scK 8 s = 0 → n = pr.scN 8 s) ∧ -2147483648 ≤ n ∧ n ≤ 2147483647
 mI64 : Rp.Meth T P "ReadI64" fI64
 readI64 : ∀ {s : St} {w : World}, Inv s w → Calls Tryz.prog fI64 #[.pointer (some ⟨P, 0, none⟩), ctxV] w fun e w' => ∃ n ev, e = .returned (.tuple #[.int .i64 n, ev]) ∧ Rp.Post toBase w w' (pr.scK 10 s) ev (pr.scS 10 s) ∧ (pr.scK 10 s = 0 → n = pr.scN 10 s) ∧ -9223372036854775808 ≤ n ∧ n ≤ 9223372036854775807
 mDbl : Rp.Meth T P "ReadDouble" fDbl
 readDouble : ∀ {s : St} {w : World}, Inv s w → Calls Tryz.prog fDbl #[.pointer (some ⟨P, 0, none⟩), ctxV] w fun e w' => ∃ n ev, e = .returned (.tuple #[.float .f64 n, ev]) ∧ Rp.Post toBase w w' (pr.scK 4 s) ev (pr.scS 4 s) ∧ n < 18446744073709551616 ∧ (pr.scK 4 s = 0 → wrap64 n = pr.scN 4 s)
 mStr : Rp.Meth T P "ReadString" fStr
 readString : ∀ {s : St} {w : World}, Inv s w → Calls Tryz.prog fStr #[.pointer (some ⟨P, 0, none⟩), ctxV] w fun e w' => ∃ l ev, e = .returned (.tuple #[.string l, ev]) ∧ Rp.Post toBase w w' (pr.scK 11 s) ev (pr.scS 11 s) ∧ (pr.scK 11 s = 0 → l = ⟨(pr.scB 11 s).toArray⟩)
 mUuid : Rp.Meth T P "ReadUUID" fUuid
 readUUID : ∀ {s : St} {w : World}, Inv s w → Calls Tryz.prog fUuid #[.pointer (some ⟨P, 0, none⟩), ctxV] w fun e w' => ∃ l ev, e = .returned (.tuple #[.agg (bcells l).toArray, ev]) ∧ Rp.Post toBase w w' (pr.scK 16 s) ev (pr.scS 16 s) ∧ l.length = 16 ∧ (pr.scK 16 s = 0 → l = pr.scB 16 s)
 mFb : Rp.Meth T P "ReadFieldBegin" fFb
 readFieldBegin : ∀ {s : St} {w : World}, Inv s w → Calls Tryz.prog fFb #[.pointer (some ⟨P, 0, none⟩), ctxV] w fun e w' => ∃ l t id ev, e = .returned (.tuple #[.string l, .int .u8 t, .int .i16 id, ev]) ∧ Rp.Post toBase w w' (pr.fK s) ev (pr.fS s) ∧ (pr.fK s = 0 → t = pr.fT s ∧ id = pr.fI s)
 mMb : Rp.Meth T P "ReadMapBegin" fMb
 readMapBegin : ∀ {s : St} {w : World}, Inv s w → Calls Tryz.prog fMb #[.pointer (some ⟨P, 0, none⟩), ctxV] w fun e w' => ∃ kt t n ev, e = .returned (.tuple #[.int .u8 kt, .int .u8 t, .int .i64 n, ev]) ∧ Rp.Post toBase w w' (pr.mK s) ev (pr.mS s) ∧ (pr.mK s = 0 → kt = pr.mKT s ∧ t = pr.mT s ∧ n = pr.mN s)
 mLb : Rp.Meth T P "ReadListBegin" fLb
 readListBegin : ∀ {s : St} {w : World}, Inv s w → Calls Tryz.prog fLb #[.pointer (some ⟨P, 0, none⟩), ctxV] w fun e w' => ∃ t n ev, e = .returned (.tuple #[.int .u8 t, .int .i64 n, ev]) ∧ Rp.Post toBase w w' (pr.lK s) ev (pr.lS s) ∧ (pr.lK s = 0 → t = pr.lT s ∧ n = pr.lN s)
 mTb : Rp.Meth T P "ReadSetBegin" fTb
 readSetBegin : ∀ {s : St} {w : World}, Inv s w → Calls Tryz.prog fTb #[.pointer (some ⟨P, 0, none⟩), ctxV] w fun e w' => ∃ t n ev, e = .returned (.tuple #[.int .u8 t, .int .i64 n, ev]) ∧ Rp.Post toBase w w' (pr.lK s) ev (pr.lS s) ∧ (pr.lK s = 0 → t = pr.lT s ∧ n = pr.lN s)
 mSb : Rp.Meth T P "ReadStructBegin" fSb
 readStructBegin : ∀ {s : St} {w : World}, Inv s w → pr.dep s < 1099511627776 → Calls Tryz.prog fSb #[.pointer (some ⟨P, 0, none⟩), ctxV] w fun e w' => ∃ l, e = .returned (.tuple #[.string l, .nilIface]) ∧ Rp.Post toBase w w' 0 .nilIface (pr.sbS s)
 mSe : Rp.Meth T P "ReadStructEnd" fSe
 readStructEnd : ∀ {s : St} {w : World}, Inv s w → pr.one ≤ pr.dep s → Calls Tryz.prog fSe #[.pointer (some ⟨P, 0, none⟩), ctxV] w fun e w' => e = .returned .nilIface ∧ Rp.Post toBase w w' 0 .nilIface (pr.seS s)
 mFe : Rp.Meth T P "ReadFieldEnd" fFe
 readFieldEnd : ∀ {s : St} {w : World}, Inv s w → Calls Tryz.prog fFe #[.pointer (some ⟨P, 0, none⟩), ctxV] w fun e w' => e = .returned .nilIface ∧ Rp.Post toBase w w' 0 .nilIface (pr.feS s)
 mMe : Rp.Meth T P "ReadMapEnd" fMe
 readMapEnd : ∀ {s : St} {w : World}, Inv s w → Calls Tryz.prog fMe #[.pointer (some ⟨P, 0, none⟩), ctxV] w fun e w' => e = .returned .nilIface ∧ Rp.Post toBase w w' 0 .nilIface (pr.meS s)
 mLe : Rp.Meth T P "ReadListEnd" fLe
 readListEnd : ∀ {s : St} {w : World}, Inv s w → Calls Tryz.prog fLe #[.pointer (some ⟨P, 0, none⟩), ctxV] w fun e w' => e = .returned .nilIface ∧ Rp.Post toBase w w' 0 .nilIface (pr.leS s)
 mTe : Rp.Meth T P "ReadSetEnd" fTe
 readSetEnd : ∀ {s : St} {w : World}, Inv s w → Calls Tryz.prog fTe #[.pointer (some ⟨P, 0, none⟩), ctxV] w fun e w' => e = .returned .nilIface ∧ Rp.Post toBase w w' 0 .nilIface (pr.leS s)
instance {St : Type} : Coe (Rp.Ctx St) (Rp.Base St) := ⟨Rp.Ctx.toBase⟩
abbrev Rp.Ctx.V {St : Type} (K : Rp.Ctx St) : Value := .iface K.T (.pointer (some ⟨K.P, 0, none⟩))
section
variable {St : Type} {K : Rp.Ctx St} {s s1 s' : St} {w w' w1 w2 w3 : World} {k k1 : Int} {ev e1 : Value} {N : Nat → Prop}
theorem Rp.Base.Inv.fresh (h : K.Inv s w) (k : Keep (fun _ => False) w w') : K.Inv s w' := K.fresh h k
theorem Rp.Base.Inv.glob (h : K.Inv s w) : Glob K.E w := K.glob h
theorem Rp.M_lt (h : K.Inv s w) : ∀ i, K.M w i → i < w.heap.size := K.lt (K.isSome h)
theorem Rp.kept (h : K.Inv s w) (k : Keep (fun _ => False) w w1) : Kpt K.M w w1 := (K.fresh1 h k).2.1
theorem Rp.M_new (h : K.Inv s w) (k : Keep (fun _ => False) w w1) : ∀ i, K.M w1 i → i < w.heap.size := (K.fresh1 h k).2.2
theorem Rp.nothing (h : K.Inv s w) : Rp.Post K w w 0 .nilIface s := ⟨ErrAt.nil _ _ _, fun _ => h, K.isSome h, Kpt.refl _ _⟩
theorem Rp.Post.then (h1 : Rp.Post K w w1 k1 e1 s1) (h2 : Rp.Post K w1 w2 k ev s) : Rp.Post K w w2 k ev s :=
 ⟨h2.err.mono h1.keep.size, h2.inv, h2.some, h1.keep.then h2.keep⟩
theorem Rp.Post.re (h : Rp.Post K w w1 k ev s) (e : k = 0 → s = s') : Rp.Post K w w1 k ev s' :=
 ⟨h.err, fun hz => e hz ▸ h.inv hz, h.some, h.keep⟩
theorem Rp.through (h : K.Inv s w) (hk0 : Keep (fun _ => False) w w1) (hp : Rp.Post K w1 w2 k ev s') (hk : Keep N w2 w3) (hN : ∀ i, N i → w.heap.size ≤ i ∧ i < w1.heap.size) : Rp.Post K w w3 k ev s' :=
 (K.thru h (Rp.kept h hk0) (h.fresh hk0) hp hk (fun i x => ⟨(hN i x).1, (hN i x).2, fun m => by have := Rp.M_new h hk0 i m; have := (hN i x).1; omega⟩)).1
theorem Rp.through_M (h : K.Inv s w) (hk0 : Keep (fun _ => False) w w1) (hp : Rp.Post K w1 w2 k ev s') (hk : Keep N w2 w3) (hN : ∀ i, N i → w.heap.size ≤ i ∧ i < w1.heap.size) : ∀ i, K.M w3 i → K.M w2 i :=
 (K.thru h (Rp.kept h hk0) (h.fresh hk0) hp hk (fun i x => ⟨(hN i x).1, (hN i x).2, fun m => by have := Rp.M_new h hk0 i m; have := (hN i x).1; omega⟩)).2
end
structure Cmp.St where
 rem : List UInt8
 last : Int
 outer : List Int
 pend : Bool
 val : Bool
def vGo : Nat → List UInt8 → Int × Nat × List UInt8
 | 0, l => (11, 0, l)
 | _ + 1, [] => (1, 0, [])
 | n + 1, b :: r => if b.toNat < 128 then (0, b.toNat, r) else ((vGo n r).1, b.toNat % 128 + 128 * (vGo n r).2.1, (vGo n r).2.2)
def vK (l : List UInt8) : Int := (vGo 10 l).1
def vN (l : List UInt8) : Nat := (vGo 10 l).2.1
def vR (l : List UInt8) : List UInt8 := (vGo 10 l).2.2
theorem vGo_kind : ∀ n l, (vGo n l).1 = 0 ∨ (vGo n l).1 = 1 ∨ (vGo n l).1 = 11
 | 0, l => .inr (.inr rfl)
 | _ + 1, [] => .inr (.inl rfl)
 | n + 1, b :: r => by
  simp only [vGo]
  split
  ·exact .inl rfl
  ·exact vGo_kind n r
theorem vK_kind (l : List UInt8) : vK l = 0 ∨ vK l = 1 ∨ vK l = 11 := vGo_kind 10 l
theorem vGo_le : ∀ n l, (vGo n l).2.2.length ≤ l.length
 | 0, l => Nat.le_refl _
 | _ + 1, [] => Nat.le_refl _
 | n + 1, b :: r => by
  simp only [vGo]
  split
  ·simp
  ·have := vGo_le n r
   simp
   omega
theorem vR_le (l : List UInt8) : (vR l).length ≤ l.length := vGo_le 10 l
theorem vR_lt (l : List UInt8) (h : vK l = 0) : (vR l).length < l.length := by
 cases l with
 | nil => simp [vK, vGo] at h
 | cons b r =>
  simp only [vR, vGo]
  split
  ·simp
  ·have := vGo_le 9 r
   simp
   omega
def zz (u : Nat) : Int := if u % 2 = 0 then ((u / 2 : Nat) : Int) else -((u / 2 : Nat) : Int) - 1
def v32 (l : List UInt8) : Int := match l with | [] => 0 | b :: r => wrap32 (vN (b :: r))
theorem v32_eq (l : List UInt8) : v32 l = wrap32 (vN l) := by
 cases l with
 | nil => simp [v32, vN, vGo, wrap32]
 | cons b r => rfl
def z32 (l : List UInt8) : Int := zz (vN l % 4294967296)
def z64 (l : List UInt8) : Int := zz (vN l % 18446744073709551616)
theorem v32_bd (l : List UInt8) : -2147483648 ≤ v32 l ∧ v32 l ≤ 2147483647 := by rw [v32_eq]; simp only [wrap32]; omega
theorem zz_bd (u m : Nat) (h : u < 2 * m) : -(m : Int) ≤ zz u ∧ zz u < m := by unfold zz; split <;> omega
def cty (n : Nat) : Int := if n = 1 ∨ n = 2 then 2 else if n = 3 then 3 else if n = 4 then 6 else if n = 5 then 8 else if n = 6 then 10 else if n = 7 then 4 else if n = 8 then 11 else if n = 9 then 15 else if n = 10 then 14 else if n = 11 then 13 else if n = 12 then 12 else if n = 13 then 16 else 0
def ctyK (n : Nat) : Int := if n = 14 ∨ n = 15 then 10 else 0
def minCmp (t : Int) : Int := if t = 4 then 8 else if t = 16 then 16 else 1
theorem minCmp_bd (t : Int) : 1 ≤ minCmp t ∧ minCmp t ≤ 16 := by unfold minCmp; split; omega; split <;> omega
theorem cty_bd (n : Nat) : 0 ≤ cty n ∧ cty n ≤ 16 := by unfold cty; repeat' split
                                                        all_goals omega
def cstrK (l : List UInt8) (c : Cfg) : Int := if vK l = 0 then (if sizeK (v32 l) c = 0 then fullK (v32 l).toNat (vR l) else sizeK (v32 l) c) else pk (vK l)
def cstrS (l : List UInt8) : List UInt8 := (vR l).take (v32 l).toNat
def cstrRem (l : List UInt8) : List UInt8 := (vR l).drop (v32 l).toNat
abbrev Cmp.St.at (s : Cmp.St) (l : List UInt8) : Cmp.St := { s with rem := l }
def Cmp.scK (c : Cfg) (t : Int) (s : Cmp.St) : Int :=
 if t = 2 then (if s.pend = true then 0 else endK 1 s.rem) else if t = 3 then fullK 1 s.rem else if t = 6 ∨ t = 8 ∨ t = 10 then pk (vK s.rem) else if t = 4 then fullK 8 s.rem else if t = 11 then cstrK s.rem c else fullK 16 s.rem
def Cmp.scR (t : Int) (s : Cmp.St) : List UInt8 :=
 if t = 2 then (if s.pend = true then s.rem else s.rem.drop 1) else if t = 3 then s.rem.drop 1 else if t = 6 ∨ t = 8 ∨ t = 10 then vR s.rem else if t = 4 then s.rem.drop 8 else if t = 11 then cstrRem s.rem else s.rem.drop 16
def Cmp.scS (t : Int) (s : Cmp.St) : Cmp.St := { s with rem := Cmp.scR t s, pend := if t = 2 then false else s.pend }
def Cmp.scN (t : Int) (s : Cmp.St) : Int :=
 if t = 2 then (if s.pend = true then (if s.val = true then 1 else 0) else (match s.rem with | b :: _ => if (b == 1) = true then 1 else 0 | _ => 0)) else if t = 3 then (match s.rem with | b :: _ => IntKind.i8.wrap b.toNat | _ => 0) else
 if t = 6 then IntKind.i16.wrap (z32 s.rem) else if t = 8 then z32 s.rem else if t = 10 then z64 s.rem else if t = 4 then wrap64 (Lib.leNat (s.rem.take 8)) else 0
def Cmp.scB (t : Int) (s : Cmp.St) : List UInt8 := if t = 11 then cstrS s.rem else if t = 16 then s.rem.take 16 else []
def Cmp.sbS (s : Cmp.St) : Cmp.St := { s with outer := s.outer ++ [s.last], last := 0 }
def Cmp.seS (s : Cmp.St) : Cmp.St := { s with outer := s.outer.dropLast, last := s.outer.getLast?.getD 0 }
def Cmp.fK (s : Cmp.St) : Int := match s.rem with
 | [] => 1
 | b :: r => if b.toNat % 16 = 0 then 0 else if b.toNat / 16 = 0 then (if vK r = 0 then ctyK (b.toNat % 16) else pk (vK r)) else ctyK (b.toNat % 16)
def Cmp.fI (s : Cmp.St) : Int := match s.rem with
 | [] => 0
 | b :: r => if b.toNat % 16 = 0 then 0 else if b.toNat / 16 = 0 then IntKind.i16.wrap (z32 r) else IntKind.i16.wrap (IntKind.i16.wrap s.last + (b.toNat / 16 : Nat))
def Cmp.fT (s : Cmp.St) : Int := match s.rem with
 | [] => 0
 | b :: _ => if b.toNat % 16 = 0 then 0 else cty (b.toNat % 16)
def Cmp.fS (s : Cmp.St) : Cmp.St := match s.rem with
 | [] => s
 | b :: r => if b.toNat % 16 = 0 then s.at r else
  { rem := if b.toNat / 16 = 0 then vR r else r, last := Cmp.fI s, outer := s.outer,
    pend := if b.toNat % 16 = 1 ∨ b.toNat % 16 = 2 then true else s.pend, val := if b.toNat % 16 = 1 ∨ b.toNat % 16 = 2 then b.toNat % 16 == 1 else s.val }
def Cmp.mK (c : Cfg) (s : Cmp.St) : Int :=
 if vK s.rem = 0 then (if v32 s.rem = 0 then contK 0 2 (vR s.rem).length c else match vR s.rem with
  | [] => 1
  | b :: r => contK (v32 s.rem) (minCmp (cty (b.toNat / 16)) + minCmp (cty (b.toNat % 16))) r.length c) else pk (vK s.rem)
def Cmp.mS (s : Cmp.St) : Cmp.St := s.at (if v32 s.rem = 0 then vR s.rem else (vR s.rem).drop 1)
def Cmp.mKT (s : Cmp.St) : Int := if v32 s.rem = 0 then 0 else match vR s.rem with | [] => 0 | b :: _ => cty (b.toNat / 16)
def Cmp.mT (s : Cmp.St) : Int := if v32 s.rem = 0 then 0 else match vR s.rem with | [] => 0 | b :: _ => cty (b.toNat % 16)
def Cmp.lK (c : Cfg) (s : Cmp.St) : Int := match s.rem with
 | [] => 1
 | b :: r => if b.toNat / 16 = 15 then (if vK r = 0 then (if ctyK (b.toNat % 16) = 0 then contK (v32 r) (minCmp (cty (b.toNat % 16))) (vR r).length c else 10) else pk (vK r))
  else (if ctyK (b.toNat % 16) = 0 then contK ((b.toNat / 16 : Nat) : Int) (minCmp (cty (b.toNat % 16))) r.length c else 10)
def Cmp.lS (s : Cmp.St) : Cmp.St := s.at (match s.rem with | [] => [] | b :: r => if b.toNat / 16 = 15 then vR r else r)
def Cmp.lT (s : Cmp.St) : Int := match s.rem with | [] => 0 | b :: _ => cty (b.toNat % 16)
def Cmp.lN (s : Cmp.St) : Int := match s.rem with | [] => 0 | b :: r => if b.toNat / 16 = 15 then v32 r else ((b.toNat / 16 : Nat) : Int)
def Cmp.prc (c : Cfg) : Pr Cmp.St where
 len := fun s => s.rem.length
 dep := fun s => s.outer.length
 one := 1
 scK := Cmp.scK c
 scS := Cmp.scS
 scN := Cmp.scN
 scB := Cmp.scB
 sbS := Cmp.sbS
 seS := Cmp.seS
 feS := id
 meS := id
 leS := id
 fK := Cmp.fK
 fS := Cmp.fS
 fT := Cmp.fT
 fI := Cmp.fI
 mK := Cmp.mK c
 mS := Cmp.mS
 mKT := Cmp.mKT
 mT := Cmp.mT
 mN := fun s => v32 s.rem
 lK := Cmp.lK c
 lS := Cmp.lS
 lT := Cmp.lT
 lN := Cmp.lN
theorem pk_lt (k : Int) : pk k < 50 := by unfold pk; repeat' split
                                          all_goals omega
theorem fullK_lt (n : Nat) (l : List UInt8) : fullK n l < 50 := by unfold fullK; split <;> omega
theorem sizeK_lt (n : Int) (c : Cfg) : sizeK n c < 50 := by unfold sizeK; repeat' split
                                                            all_goals omega
theorem contK_lt (a b d : Int) (c : Cfg) : contK a b d c < 50 := by unfold contK; repeat' split
                                                                    all_goals omega
theorem cstrK_lt (l : List UInt8) (c : Cfg) : cstrK l c < 50 := by
 unfold cstrK; repeat' split
 ·exact fullK_lt _ _
 ·exact sizeK_lt _ _
 ·exact pk_lt _
theorem endK_lt0 (n : Nat) (l : List UInt8) : endK n l < 50 := by unfold endK; repeat' split
                                                                  all_goals omega
theorem ctyK_lt (n : Nat) : ctyK n < 50 := by unfold ctyK; split <;> omega
theorem Cmp.scK_lt (c : Cfg) (t : Int) (s : Cmp.St) : Cmp.scK c t s < 50 := by
 unfold Cmp.scK; repeat' split
 all_goals first | decide | exact endK_lt0 _ _ | exact fullK_lt _ _ | exact pk_lt _ | exact cstrK_lt _ _
theorem Cmp.fK_lt (s : Cmp.St) : Cmp.fK s < 50 := by
 unfold Cmp.fK; repeat' split
 all_goals first | decide | exact pk_lt _ | exact ctyK_lt _
theorem Cmp.mK_lt (c : Cfg) (s : Cmp.St) : Cmp.mK c s < 50 := by
 unfold Cmp.mK; repeat' split
 all_goals first | decide | exact pk_lt _ | exact contK_lt _ _ _ _
theorem Cmp.lK_lt (c : Cfg) (s : Cmp.St) : Cmp.lK c s < 50 := by
 unfold Cmp.lK; repeat' split
 all_goals first | decide | exact pk_lt _ | exact contK_lt _ _ _ _
theorem cstrRem_le (l : List UInt8) : (cstrRem l).length ≤ l.length := by have := vR_le l; simp only [cstrRem, List.length_drop]; omega
theorem Cmp.ok_sc (t : Int) (s : Cmp.St) : (Cmp.scR t s).length ≤ s.rem.length := by
 have h1 := vR_le s.rem
 have h2 := cstrRem_le s.rem
 unfold Cmp.scR
 repeat' split
 all_goals first | omega | (simp only [List.length_drop]; omega)
theorem Cmp.ok_f (s : Cmp.St) (h : Cmp.fK s = 0) : (Cmp.fS s).rem.length < s.rem.length := by
 obtain ⟨rem, last, outer, pend, val⟩ := s
 cases rem with
 | nil => simp [Cmp.fK] at h
 | cons b r =>
  have h1 := vR_le r
  simp only [Cmp.fS]
  split
  ·simp
  ·simp only [List.length_cons]
   split <;> omega
theorem Cmp.ok_m (c : Cfg) (s : Cmp.St) (h : Cmp.mK c s = 0) : (Cmp.mS s).rem.length < s.rem.length := by
 have h0 : vK s.rem = 0 := by
  unfold Cmp.mK at h
  split at h
  ·assumption
  ·rename_i h1
   have := vK_kind s.rem
   unfold pk at h
   split at h
   ·assumption
   ·split at h <;> omega
 have h1 := vR_lt s.rem h0
 simp only [Cmp.mS]
 split
 ·exact h1
 ·simp only [List.length_drop]; omega
theorem Cmp.ok_l (c : Cfg) (s : Cmp.St) (h : Cmp.lK c s = 0) : (Cmp.lS s).rem.length < s.rem.length := by
 obtain ⟨rem, last, outer, pend, val⟩ := s
 cases rem with
 | nil => simp [Cmp.lK] at h
 | cons b r =>
  have h1 := vR_le r
  simp only [Cmp.lS, List.length_cons]
  split <;> omega
theorem Cmp.ok_lb (s : Cmp.St) : Cmp.lN s ≤ 2147483647 := by
 obtain ⟨rem, last, outer, pend, val⟩ := s
 cases rem with
 | nil => simp [Cmp.lN]
 | cons b r =>
  simp only [Cmp.lN]
  split
  ·exact (v32_bd r).2
  ·have := b.toNat_lt
   omega
theorem Cmp.ok_dsb (s : Cmp.St) : (Cmp.sbS s).outer.length = s.outer.length + 1 := by
 simp [Cmp.sbS]
theorem Cmp.ok_dse (s : Cmp.St) (h : 1 ≤ s.outer.length) : (Cmp.seS s).outer.length + 1 = s.outer.length := by
 simp [Cmp.seS]
 omega
theorem Cmp.ok_df (s : Cmp.St) : (Cmp.fS s).outer.length = s.outer.length := by
 obtain ⟨rem, last, outer, pend, val⟩ := s
 cases rem with
 | nil => rfl
 | cons b r =>
  simp only [Cmp.fS]
  split <;> rfl
theorem Cmp.okc (c : Cfg) : (Cmp.prc c).Ok where
 sc := Cmp.ok_sc
 sb s := Nat.le_refl _
 se s := Nat.le_refl _
 fe s := Nat.le_refl _
 me s := Nat.le_refl _
 le s := Nat.le_refl _
 f := Cmp.ok_f
 m := Cmp.ok_m c
 l := Cmp.ok_l c
 mb s := (v32_bd s.rem).2
 lb := Cmp.ok_lb
 one1 := Nat.le_refl _
 dsc _ _ _ := rfl
 dsb := Cmp.ok_dsb
 dse := Cmp.ok_dse
 dfe _ := rfl
 dme _ := rfl
 dle _ := rfl
 df := fun s _ => Cmp.ok_df s
 dm s _ := rfl
 dl s _ := rfl
def Cfg.strict (c : Cfg) : Bool := if c.plain = true then false else c.sr
def lo8 (n : Int) : Int := ((n % 256 : Int))
theorem lo8_bd (n : Int) : 0 ≤ lo8 n ∧ lo8 n ≤ 255 := by unfold lo8; omega
theorem and255_i32 (t : Int) : bits BinOp.and IntKind.i32 t 255 = lo8 t := by
 have e1 : BitVec.ofInt 32 t = BitVec.ofNat 32 (t % 4294967296).toNat := by
  apply BitVec.eq_of_toNat_eq
  simp only [BitVec.toNat_ofInt, BitVec.toNat_ofNat]
  omega
 have e2 : BitVec.ofInt 32 255 = BitVec.ofNat 32 255 := by decide
 have h3 : (t % 4294967296).toNat &&& 255 = (t % 4294967296).toNat % 256 := by
  have := Nat.and_two_pow_sub_one_eq_mod (t % 4294967296).toNat 8
  simpa using this
 show IntKind.i32.wrap ((BitVec.ofInt 32 t &&& BitVec.ofInt 32 255).toNat : Int) = _
 rw [e1, e2, ← BitVec.ofNat_and, h3, BitVec.toNat_ofNat]
 simp [lo8, IntKind.wrap, IntKind.bits, IntKind.signed]
 omega
theorem and255_w64 (t : Int) : bits BinOp.and IntKind.i64 t 255 = lo8 t := by
 have e1 : BitVec.ofInt 64 t = BitVec.ofNat 64 (t % 18446744073709551616).toNat := by
  apply BitVec.eq_of_toNat_eq
  simp only [BitVec.toNat_ofInt, BitVec.toNat_ofNat]
  omega
 have e2 : BitVec.ofInt 64 255 = BitVec.ofNat 64 255 := by decide
 have h3 : (t % 18446744073709551616).toNat &&& 255 = (t % 18446744073709551616).toNat % 256 := by
  have := Nat.and_two_pow_sub_one_eq_mod (t % 18446744073709551616).toNat 8
  simpa using this
 show IntKind.i64.wrap ((BitVec.ofInt 64 t &&& BitVec.ofInt 64 255).toNat : Int) = _
 rw [e1, e2, ← BitVec.ofNat_and, h3, BitVec.toNat_ofNat]
 simp [lo8, IntKind.wrap, IntKind.bits, IntKind.signed]
 omega
def verN (n : Int) : Int := bits BinOp.and IntKind.i64 n 4294901760
def bmK (s : List UInt8) (c : Cfg) : Int :=
 if s.length < 4 then 10 else if strN s < 0 then (if verN (strN s) = 2147549184 then (if strK (s.drop 4) c = 0 then fullK 4 (strRem (s.drop 4)) else strK (s.drop 4) c) else 14)
 else if c.strict = true then 14 else if strK s c = 0 then (if endK 1 (strRem s) = 0 then fullK 4 ((strRem s).drop 1) else endK 1 (strRem s)) else strK s c
def bmS (s : List UInt8) : List UInt8 := if strN s < 0 then (strRem (s.drop 4)).drop 4 else ((strRem s).drop 1).drop 4
def bmT (s : List UInt8) : Int := if strN s < 0 then lo8 (strN s) else match strRem s with | b :: _ => IntKind.i8.wrap b.toNat | [] => 0
def bmB (s : List UInt8) : List UInt8 := if strN s < 0 then strS (s.drop 4) else strS s
def bmN (s : List UInt8) : Int := if strN s < 0 then wrap32 (Lib.beNat ((strRem (s.drop 4)).take 4)) else wrap32 (Lib.beNat (((strRem s).drop 1).take 4))
theorem strK_cases (s : List UInt8) (c : Cfg) : strK s c = 0 ∨ strK s c = 10 ∨ strK s c = 12 ∨ strK s c = 13 := by
 unfold strK sizeK fullK; repeat' split
 all_goals omega
theorem pk_strK (s : List UInt8) (c : Cfg) : pk (strK s c) = strK s c := by
 rcases strK_cases s c with h | h | h | h <;> rw [h] <;> decide
theorem fullK_cases (n : Nat) (s : List UInt8) : fullK n s = 0 ∨ fullK n s = 10 := by unfold fullK; split <;> simp
theorem endK1_cases (s : List UInt8) : (endK 1 s = 1 ∧ s = []) ∨ (endK 1 s = 0 ∧ ∃ b r, s = b :: r) := by
 cases s with
 | nil => exact .inl ⟨by decide, rfl⟩
 | cons b r => exact .inr ⟨by simp [endK], b, r, rfl⟩
theorem strict_any {M : Nat → Prop} {w : World} {a : Option Addr} {c : Cfg} (h : CfgAt M w a c) : Calls Tryz.prog 347 #[.pointer a] w fun e w' => e = .returned (.bool c.strict) ∧ Keep (fun _ => False) w w' := by
 rcases h with ⟨hp, rfl⟩ | ⟨hp, b, r, s, rfl, _, _, _, hb, hr, _⟩
 ·have hm : c.strict = false := by simp [Cfg.strict, hp]
  rw [hm]
  go_enter Tryz.func347, Tryz.ntmps347
  go_wp2_with fail
  go_ret
  exact ⟨rfl, Keep.refl _ _⟩
 ·have c3 := cellAt hb 3
  simp at c3
  have hq : c.strict = c.sr := by simp [Cfg.strict, hp]
  rw [hq]
  go_enter Tryz.func347, Tryz.ntmps347
  go_wp2_with fail
  go_ret
  exact ⟨rfl, Keep.refl _ _⟩
def BMsg (E : Env) (P MB B D : Nat) (a : Option Addr) (c : Cfg) (rem : List UInt8) (w : World) (e : Ending) (w' : World) : Prop :=
 ∃ s t sq ev rem', e = .returned (.tuple #[.string s, .int .i32 t, .int .i32 sq, ev]) ∧ ErrAt E w.heap.size w' ev (bmK rem c) ∧ BinP E P MB B D a c rem' w' ∧ Keep (MB2 P B) w w' ∧
  (bmK rem c = 0 → s = ⟨(bmB rem).toArray⟩ ∧ t = bmT rem ∧ sq = bmN rem ∧ rem' = bmS rem)
theorem i8_bd2 (n : Int) : -128 ≤ IntKind.i8.wrap n ∧ IntKind.i8.wrap n ≤ 127 := by simp [IntKind.wrap, IntKind.bits, IntKind.signed]; split <;> omega
set_option maxRecDepth 100000 in
theorem bin_msgBegin {E : Env} {P MB B D : Nat} {a : Option Addr} {c : Cfg} {rem : List UInt8} {w : World} (h : BinP E P MB B D a c rem w) :
  Calls Tryz.prog 309 #[.pointer (some ⟨P, 0, none⟩), ctxV] w (BMsg E P MB B D a c rem w) := by
 go_enter Tryz.func309, Tryz.ntmps309
 go_wp2_with fail
 refine (bin_readI32 h).mono ?_
 rintro e w1 ⟨n, ev, rfl, he1, h1, hk1, ⟨hlo, hhi⟩, hv1⟩
 by_cases hl : rem.length < 4
 ·have hk10 : fullK 4 rem = 10 := by simp [fullK]; omega
  rw [hk10] at he1
  obtain ⟨t, x, rfl⟩ := he1.held (by decide)
  have HK : Hid (bmK rem c = 10) := hdd (by simp only [bmK, if_pos hl])
  have HE := hdd he1
  clear hv1 he1
  go_wp2_with fail
  refine (newPExc h1.glob hk1.size HE.out (by omega)).mono ?_
  rintro e w2 ⟨ev', rfl, he2, hk2⟩
  go_wp2_with fail
  go_returns
  exact ⟨_, _, _, _, _, rfl, by rw [HK.out]; exact he2, h1.fresh hk2, hk1.then (hk2.weak (fun _ _ x => x.elim)), fun hh => by rw [HK.out] at hh; omega⟩
 ·have hk0 : fullK 4 rem = 0 := by simp [fullK]; omega
  rw [hk0] at he1
  have hev := he1.isNil
  subst hev
  have hnn : strN rem = n := (hv1 (by omega)).symm
  have HN := hdd hnn
  have HL := hdd hl
  clear hnn hv1 he1 hk0 hl
  by_cases hn0 : n < 0
  ·have ha := and255_i32 n
   obtain ⟨q, hq⟩ : ∃ q, lo8 n = q := ⟨_, rfl⟩
   have hqb := lo8_bd n
   rw [hq] at ha hqb
   obtain ⟨hq0, hq1⟩ := hqb
   have HQ := hdd hq
   clear hq
   have HN0 := hdd hn0
   have HBB : Hid (bmB rem = strS (rem.drop 4)) := hdd (by simp only [bmB, HN.out, if_pos hn0])
   have HTT : Hid (bmT rem = q) := hdd (by simp only [bmT, HN.out, if_pos hn0, HQ.out])
   have HNN : Hid (bmN rem = wrap32 (Lib.beNat ((strRem (rem.drop 4)).take 4))) := hdd (by simp only [bmN, HN.out, if_pos hn0])
   have HSS : Hid (bmS rem = (strRem (rem.drop 4)).drop 4) := hdd (by simp only [bmS, HN.out, if_pos hn0])
   by_cases hver : bits BinOp.and IntKind.i64 n 4294901760 = 2147549184
   ·have HK1 : Hid (bmK rem c = if strK (rem.drop 4) c = 0 then fullK 4 (strRem (rem.drop 4)) else strK (rem.drop 4) c) := hdd (by simp only [bmK, if_neg HL.out, HN.out, if_pos hn0, verN, if_pos hver])
    go_wp2_with fail
    refine (bin_readString h1).mono ?_
    rintro e w2 ⟨s, ev, rem', rfl, he2, h2, hk2, hv2⟩
    have HKW := hdd (hk1.then hk2)
    by_cases hs : strK (rem.drop 4) c = 0
    ·obtain ⟨rfl, rfl⟩ := hv2 hs
     have HK2 : Hid (bmK rem c = fullK 4 (strRem (rem.drop 4))) := hdd (HK1.out.trans (if_pos hs))
     rw [hs] at he2
     have hev := he2.isNil
     subst hev
     clear he2 hs hv2
     go_wp2_with fail
     refine (bin_readI32 h2).mono ?_
     rintro e w3 ⟨sq, ev, rfl, he3, h3, hk3, hb3, hv3⟩
     have HK3 := hdd (HKW.out.then hk3)
     have HV3 := hdd hv3
     clear hv3
     rcases fullK_cases 4 (strRem (rem.drop 4)) with hf | hf
     ·rw [hf] at he3
      have hev := he3.isNil
      subst hev
      have HF := hdd hf
      clear he3 hf
      go_wp2_with fail
      go_returns
      exact ⟨_, _, _, _, _, rfl, by rw [HK2.out, HF.out]; exact ErrAt.nil _ _ _, h3, HK3.out, fun _ => ⟨by rw [HBB.out], HTT.out.symm, by rw [HNN.out]; exact HV3.out (fullK_len HF.out), HSS.out.symm⟩⟩
     ·rw [hf] at he3
      obtain ⟨t, x, rfl⟩ := he3.held (by decide)
      have HE := hdd (he3.mono HKW.out.size)
      have HF := hdd hf
      clear he3 hf
      go_wp2_with fail
      refine (newPExc h3.glob HK3.out.size HE.out (by omega)).mono ?_
      rintro e w4 ⟨ev', rfl, he4, hk4⟩
      go_wp2_with fail
      go_returns
      exact ⟨_, _, _, _, _, rfl, by rw [HK2.out, HF.out]; exact he4, h3.fresh hk4, HK3.out.then (hk4.weak (fun _ _ x => x.elim)), fun hh => by rw [HK2.out, HF.out] at hh; omega⟩
    ·have HK2 : Hid (bmK rem c = strK (rem.drop 4) c) := hdd (HK1.out.trans (if_neg hs))
     have hb50 : strK (rem.drop 4) c < 50 := by rcases strK_cases (rem.drop 4) c with h | h | h | h <;> omega
     have hpk := pk_strK (rem.drop 4) c
     obtain ⟨t, x, rfl⟩ := he2.held hs
     have HE := hdd (he2.mono hk1.size)
     have HS := hdd hs
     clear he2 hs hv2
     go_wp2_with fail
     refine (newPExc h2.glob HKW.out.size HE.out hb50).mono ?_
     rintro e w4 ⟨ev', rfl, he4, hk4⟩
     go_wp2_with fail
     go_returns
     exact ⟨_, _, _, _, _, rfl, by rw [HK2.out]; rw [hpk] at he4; exact he4, h2.fresh hk4, HKW.out.then (hk4.weak (fun _ _ x => x.elim)), fun hh => absurd (HK2.out ▸ hh) HS.out⟩
   ·have HK1 : Hid (bmK rem c = 14) := hdd (by simp only [bmK, if_neg HL.out, HN.out, if_pos hn0, verN, if_neg hver])
    go_wp2_with fail
    refine (errNew _ _).mono ?_
    rintro e w8 ⟨b, rfl, hb, _, hk8⟩
    go_wp2_with fail
    refine (newPExcT' (E := E) (n0 := w.heap.size) 4 (by omega) b 0 _ _ hb (hk8.lt hk1.size)).mono ?_
    rintro e w9 ⟨v, rfl, hv, hk9⟩
    go_wp2_with fail
    go_returns
    exact ⟨_, _, _, _, _, rfl, by rw [HK1.out]; exact hv, h1.fresh (hk8.then hk9), hk1.then ((hk8.then hk9).weak (fun _ _ x => x.elim)), fun hh => by rw [HK1.out] at hh; omega⟩
  ·have HN0 := hdd hn0
   have HBB : Hid (bmB rem = strS rem) := hdd (by simp only [bmB, HN.out, if_neg hn0])
   have HTT : Hid (bmT rem = match strRem rem with | b :: _ => IntKind.i8.wrap b.toNat | [] => 0) := hdd (by simp only [bmT, HN.out, if_neg hn0])
   have HNN : Hid (bmN rem = wrap32 (Lib.beNat (((strRem rem).drop 1).take 4))) := hdd (by simp only [bmN, HN.out, if_neg hn0])
   have HSS : Hid (bmS rem = ((strRem rem).drop 1).drop 4) := hdd (by simp only [bmS, HN.out, if_neg hn0])
   have HKA : Hid (bmK rem c = if c.strict = true then 14 else if strK rem c = 0 then (if endK 1 (strRem rem) = 0 then fullK 4 ((strRem rem).drop 1) else endK 1 (strRem rem)) else strK rem c) := hdd (by simp only [bmK, if_neg HL.out, HN.out, if_neg hn0])
   have HSK : Hid (strK rem c = if sizeK n c = 0 then fullK n.toNat (rem.drop 4) else sizeK n c) := hdd (by simp only [strK, if_neg HL.out, HN.out])
   have HSR : Hid (strRem rem = (rem.drop 4).drop n.toNat) := hdd (by simp only [strRem, HN.out])
   have HSTR : Hid (strS rem = (rem.drop 4).take n.toNat) := hdd (by simp only [strS, HN.out])
   obtain ⟨sc, e1, e2⟩ := h1.blk
   have c2 : w1.cell? ⟨P, 2, none⟩ = some (.pointer a) := by simp [cellAt e2 2]
   go_wp2_with fail
   refine (strict_any h1.cfg).mono ?_
   rintro e w2 ⟨rfl, hk2⟩
   have h2 := h1.fresh hk2
   have HKW := hdd (hk1.then (hk2.weak (fun _ _ x => x.elim)) : Keep (MB2 P B) w w2)
   have d2 := (hk2.cell (p := ⟨P, 2, none⟩) (lt_of_heap e2) id).trans c2
   clear c2 e1 e2
   by_cases hst : c.strict = true
   ·have HK1 : Hid (bmK rem c = 14) := hdd (HKA.out.trans (if_pos hst))
    rw [hst]
    go_wp2_with fail
    refine (errNew _ _).mono ?_
    rintro e w8 ⟨b, rfl, hb, _, hk8⟩
    go_wp2_with fail
    refine (newPExcT' (E := E) (n0 := w.heap.size) 4 (by omega) b 0 _ _ hb (hk8.lt HKW.out.size)).mono ?_
    rintro e w9 ⟨v, rfl, hv, hk9⟩
    go_wp2_with fail
    go_returns
    exact ⟨_, _, _, _, _, rfl, by rw [HK1.out]; exact hv, h2.fresh (hk8.then hk9), HKW.out.then ((hk8.then hk9).weak (fun _ _ x => x.elim)), fun hh => by rw [HK1.out] at hh; omega⟩
   ·have hst0 : c.strict = false := by simpa using hst
    have HKB : Hid (bmK rem c = if strK rem c = 0 then (if endK 1 (strRem rem) = 0 then fullK 4 ((strRem rem).drop 1) else endK 1 (strRem rem)) else strK rem c) := hdd (HKA.out.trans (if_neg hst))
    rw [hst0]
    clear hst hst0
    go_wp2_with fail
    refine (checkSize (E := E) (n0 := w.heap.size) n hhi h2.cfg h2.cok HKW.out.size).mono ?_
    rintro e w3 ⟨v, rfl, hv3, hk3⟩
    have h3 := h2.fresh hk3
    have HK3 := hdd (HKW.out.then (hk3.weak (fun _ _ x => x.elim)))
    by_cases hz : sizeK n c = 0
    ·rw [hz] at hv3
     have hv4 := hv3.isNil
     subst hv4
     obtain ⟨m, rfl⟩ := Int.eq_ofNat_of_zero_le (show 0 ≤ n by omega)
     have HSK2 : Hid (strK rem c = fullK m (rem.drop 4)) := hdd (HSK.out.trans ((if_pos hz).trans (by simp)))
     have hSR : (rem.drop 4).drop m = strRem rem := by rw [HSR.out]; simp
     have hSS : (rem.drop 4).take m = strS rem := by rw [HSTR.out]; simp
     simp only [Int.ofNat_eq_natCast] at *
     have HSR2 := hdd hSR
     have HSS2 := hdd hSS
     clear hSR hSS hz hv3 d2
     go_wp2_with fail
     refine (bin_readStringBody h3 m (by omega)).mono ?_
     rintro e w4 ⟨ev, rfl, he4, h4, hk4⟩
     rw [HSR2.out] at h4
     rw [HSS2.out]
     have HK4 := hdd (HK3.out.then hk4)
     rcases fullK_cases m (rem.drop 4) with hf | hf
     ·have HKC : Hid (bmK rem c = if endK 1 (strRem rem) = 0 then fullK 4 ((strRem rem).drop 1) else endK 1 (strRem rem)) := hdd (HKB.out.trans (if_pos (HSK2.out.trans hf)))
      rw [hf] at he4
      have hev := he4.isNil
      subst hev
      clear he4 hf
      go_wp2_with fail
      refine (bin_readByte h4).mono ?_
      rintro e w5 ⟨bt, ev, rfl, he5, h5, hk5, hbt, hbv⟩
      have HK5 := hdd (HK4.out.then hk5)
      rcases endK1_cases (strRem rem) with ⟨hq, hq2⟩ | ⟨hq, b, r, hq2⟩
      ·have HKD : Hid (bmK rem c = 1) := hdd (by rw [HKC.out, hq]; simp)
       rw [hq] at he5
       have HE := hdd (he5.mono HK4.out.size)
       obtain ⟨t, x, rfl⟩ := he5.held (by decide)
       clear he5 hbv
       go_wp2_with fail
       go_returns
       exact ⟨_, _, _, _, _, rfl, by rw [HKD.out]; exact HE.out, h5, HK5.out, fun hh => by rw [HKD.out] at hh; omega⟩
      ·have HKD : Hid (bmK rem c = fullK 4 ((strRem rem).drop 1)) := hdd (by rw [HKC.out, hq]; simp)
       rw [hq] at he5
       have hev := he5.isNil
       subst hev
       have hbb := hbv b r hq2
       have HTT2 : Hid (bmT rem = bt) := hdd (by rw [HTT.out, hq2, hbb])
       have hbt1 := hbt.1
       have hbt2 := hbt.2
       clear he5 hbv hbt hq hq2 hbb
       go_wp2_with fail
       refine (bin_readI32 h5).mono ?_
       rintro e w6 ⟨sq, ev, rfl, he6, h6, hk6, hb6, hv6⟩
       have HK6 := hdd (HK5.out.then hk6)
       have HV6 := hdd hv6
       clear hv6
       rcases fullK_cases 4 ((strRem rem).drop 1) with hf | hf
       ·rw [hf] at he6
        have hev := he6.isNil
        subst hev
        have HF := hdd hf
        clear he6 hf
        go_wp2_with fail
        go_returns
        exact ⟨_, _, _, _, _, rfl, by rw [HKD.out, HF.out]; exact ErrAt.nil _ _ _, h6, HK6.out, fun _ => ⟨by rw [HBB.out], HTT2.out.symm, by rw [HNN.out]; exact HV6.out (fullK_len HF.out), HSS.out.symm⟩⟩
       ·rw [hf] at he6
        have HE := hdd (he6.mono HK5.out.size)
        obtain ⟨t, x, rfl⟩ := he6.held (by decide)
        have HF := hdd hf
        clear he6 hf
        go_wp2_with fail
        go_returns
        exact ⟨_, _, _, _, _, rfl, by rw [HKD.out, HF.out]; exact HE.out, h6, HK6.out, fun hh => by rw [HKD.out, HF.out] at hh; omega⟩
     ·have HKC : Hid (bmK rem c = 10) := hdd (by rw [HKB.out, HSK2.out, hf]; simp)
      rw [hf] at he4
      have HE := hdd (he4.mono HK3.out.size)
      obtain ⟨t, x, rfl⟩ := he4.held (by decide)
      clear he4 hf
      go_wp2_with fail
      go_returns
      exact ⟨_, _, _, _, _, rfl, by rw [HKC.out]; exact HE.out, h4, HK4.out, fun hh => by rw [HKC.out] at hh; omega⟩
    ·have HKC : Hid (bmK rem c = sizeK n c) := hdd (by rw [HKB.out, HSK.out, if_neg hz, if_neg hz])
     obtain ⟨t, x, rfl⟩ := hv3.held hz
     have HE := hdd hv3
     have HZ := hdd hz
     clear hv3 hz
     go_wp2_with fail
     go_returns
     exact ⟨_, _, _, _, _, rfl, by rw [HKC.out]; exact HE.out, h3, HK3.out, fun hh => absurd (HKC.out ▸ hh) HZ.out⟩
end Go.Proofs.YtjekbomlpcdojaaGreatDoor
