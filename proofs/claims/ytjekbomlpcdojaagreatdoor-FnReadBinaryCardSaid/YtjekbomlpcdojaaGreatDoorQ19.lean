/- Part 19 of the proof: BytBin. -/
import Derived.Test.YtjekbomlpcdojaaGreatDoorQ10
import Derived.Test.YtjekbomlpcdojaaGreatDoorQ11
set_option linter.unusedVariables false
set_option linter.unusedSimpArgs false
set_option linter.unusedSectionVars false
set_option maxHeartbeats 16000000
namespace Go.Proofs.YtjekbomlpcdojaaGreatDoor
open Go Go.RowKit
theorem bytesAt_row {w : World} {g m cap : Nat} {sc l : List UInt8} {T : TypeId} (hb : w.heap[g]? = some (.cells (bcells sc).toArray T (0, 0))) (ht : sc.take m = l) (hl : l.length = m) (hc : m ≤ cap) (hcap : cap ≤ 140737488355328) : BytesAt (fun _ => True) w (.slice (some ⟨g, 0, none⟩) m cap) l := by
 by_cases hz : l = []
 ·subst hz
  simp at hl
  subst hl
  exact .inl ⟨rfl, _, _, rfl⟩
 ·refine .inr ⟨hz, g, 0, cap, by rw [hl], by omega, by omega, trivial, fun j b hj => ?_⟩
  obtain ⟨hj', e⟩ := List.getElem?_eq_some_iff.mp hj
  rw [row_cells hb ht j hj', e]
set_option maxRecDepth 100000 in
theorem bin_readBinary {E : Env} {P MB B D : Nat} {a : Option Addr} {c : Cfg} {rem : List UInt8} {w : World} (h : BinP E P MB B D a c rem w) :
  Calls Tryz.prog 296 #[.pointer (some ⟨P, 0, none⟩), ctxV] w fun e w' => ∃ v ev rem' l, e = .returned (.tuple #[v, ev]) ∧ ErrAt E w.heap.size w' ev (strK rem c) ∧
   BinP E P MB B D a c rem' w' ∧ Keep (MB2 P B) w w' ∧ (∃ A, BytesAt A w' v l) ∧ (strK rem c = 0 → l = strS rem ∧ rem' = strRem rem) := by
 go_enter Tryz.func296, Tryz.ntmps296
 go_wp2_with fail
 refine (bin_readI32 h).mono ?_
 rintro e w1 ⟨n, ev, rfl, he1, h1, hk1, ⟨hlo, hhi⟩, hv1⟩
 by_cases hl : rem.length < 4
 ·have hk10 : fullK 4 rem = 10 := by simp [fullK]; omega
  rw [hk10] at he1
  obtain ⟨t, x, rfl⟩ := he1.held (by decide)
  have HK : Hid (strK rem c = 10) := by show _ = _; simp [strK, hl]
  go_wp2_with fail
  go_ret2
  exact ⟨_, _, _, [], rfl, by rw [HK.out]; exact he1, h1, hk1, ⟨fun _ => True, .inl ⟨rfl, _, _, rfl⟩⟩, fun hh => by rw [HK.out] at hh; omega⟩
 ·have hk0 : fullK 4 rem = 0 := by simp [fullK]; omega
  rw [hk0] at he1
  have hev := he1.isNil
  subst hev
  have hnn : strN rem = n := (hv1 (by omega)).symm
  obtain ⟨sc, e1, e2⟩ := h1.blk
  have c0 : w1.cell? ⟨P, 0, none⟩ = some (memV MB) := by simp [cellAt e2 0]
  have c2 : w1.cell? ⟨P, 2, none⟩ = some (.pointer a) := by simp [cellAt e2 2]
  have HN := hdd hnn
  clear hnn hv1
  go_wp2_with fail
  refine (checkSize (E := E) (n0 := w.heap.size) n hhi h1.cfg h1.cok hk1.size).mono ?_
  rintro e w2 ⟨v, rfl, hv2, hk2⟩
  have h2 := h1.fresh hk2
  have hk12 : Keep (MB2 P B) w w2 := hk1.then (hk2.weak (fun _ _ x => x.elim))
  have e22 := (hk2.block P (lt_of_heap e2) id).trans e2
  have d0 := (hk2.cell (p := ⟨P, 0, none⟩) (lt_of_heap e2) id).trans c0
  clear c0 c2
  by_cases hz : sizeK n c = 0
  ·rw [hz] at hv2
   have hv3 := hv2.isNil
   subst hv3
   have hn0 : 0 ≤ n := by unfold sizeK at hz; split at hz; omega; omega
   have HK : Hid (strK rem c = fullK n.toNat (rem.drop 4)) := by show _ = _; simp only [strK, if_neg hl, HN.out, if_pos hz]
   obtain ⟨m, rfl⟩ := Int.eq_ofNat_of_zero_le hn0
   simp only [Int.ofNat_eq_natCast, Int.toNat_natCast] at *
   clear hz
   have hm31 : m ≤ 2147483647 := by omega
   have E22 := hdd e22
   clear e22 e2
   go_wp2_with fail
   refine (safeRead h2.glob h2.mem hm31).mono ?_
   rintro e w3 ⟨g, cap, ev, s2, rfl, he3, hm3, hk3, hgw, hs2, hb3, ht3, hle, hcap⟩
   have hk23 : Keep (MB2 P B) w2 w3 := hk3.weak (fun _ _ x => .inl x)
   have h3 : BinP E P MB B D a c ((rem.drop 4).drop m) w3 := h2.step hm3 hk23 ⟨sc, e1, (hk3.block P (lt_of_heap E22.out) (fun e => h2.neB e.symm)).trans E22.out⟩
   have hl3 : ((rem.drop 4).take m).length = min m (rem.drop 4).length := by simp
   have HB := hdd (bytesAt_row hb3 ht3 hl3 hle hcap)
   have HE := hdd he3
   generalize hmm : min m (rem.drop 4).length = q at *
   clear hl3 hmm hb3 ht3 he3
   go_wp2_with fail
   refine (newPExc h3.glob (n0 := w.heap.size) (hk12.then hk23).size (HE.out.mono hk12.size) (safeK_lt m (rem.drop 4))).mono ?_
   rintro e w4 ⟨v, rfl, hv4, hk4⟩
   have hb4 := HB.out.keep hk4 (fun _ _ x => x)
   have HB4 := hdd hb4
   clear hb4
   go_wp2_with fail
   go_ret2
   refine ⟨_, _, _, _, rfl, by rw [HK.out, ← safeK_pk]; exact hv4, h3.fresh hk4, hk12.then (hk23.then (hk4.weak (fun _ _ x => x.elim))), ⟨_, HB4.out⟩, fun _ => ⟨?_, ?_⟩⟩
   ·simp [strS, HN.out]
   ·simp [strRem, HN.out]
  ·obtain ⟨t, x, rfl⟩ := hv2.held hz
   have HK : Hid (strK rem c = sizeK n c) := by show _ = _; simp only [strK, if_neg hl, HN.out, if_neg hz]
   go_wp2_with fail
   go_ret2
   exact ⟨_, _, _, [], rfl, by rw [HK.out]; exact hv2, h2, hk12, ⟨fun _ => True, .inl ⟨rfl, _, _, rfl⟩⟩, fun hh => absurd (HK.out ▸ hh) hz⟩
end Go.Proofs.YtjekbomlpcdojaaGreatDoor
