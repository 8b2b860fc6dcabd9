/- Part 34 of the proof: BegunCmp, GetLCmp. -/
import Derived.Test.YtnccjcbelcbgoaaGreatDoorA32
import Derived.Test.YtnccjcbelcbgoaaGreatDoorA17
import Derived.Test.YtnccjcbelcbgoaaGreatDoorA33
import Derived.Test.YtnccjcbelcbgoaaGreatDoorA15
import Derived.Deep.RegionWith
import Derived.Deep.LoopGhost
set_option linter.unusedVariables false
set_option linter.unusedSimpArgs false
set_option linter.unusedSectionVars false
/- The thin package: begun: a list or a set begins, or ends. -/
namespace Go.Proofs.YtnccjcbelcbgoaaGreatDoor
open Go Go.RowKit

/- ONE -/
/-- What the begin of a list or set tells. -/
def Cmp.BegP (K : Cmp.Ctx) (w : World) (s : Cmp.St) (e : Ending) (w' : World) : Prop :=
  ∃ t n ev, e = .returned (.tuple #[gotV 0 t 0 n 0 0 nilB, ev]) ∧ Cmp.Post K w w' ((Cmp.pr K).lK s) ev ((Cmp.pr K).lS s) ∧ ((Cmp.pr K).lK s = 0 → t = (Cmp.pr K).lT s ∧ n = (Cmp.pr K).lN s)

theorem Cmp.na_ReadListBegin (K : Cmp.Ctx) (w : World) : (nilAhead 491 106 (.pointer (some ⟨K.P, 0, none⟩)) "ReadListBegin").run Tryz.prog w = .ok (some false) w := by kernel_rfl

set_option maxRecDepth 100000 in
set_option maxHeartbeats 2000000 in
theorem Cmp.begun9 (K : Cmp.Ctx) (s : Cmp.St) (w : World) (h : Cmp.Inv K s w) :
    Calls Tryz.prog 68 #[Cmp.V K, .agg (stepI 9)] w (Cmp.BegP K w s) := by
  have hna := Cmp.na_ReadListBegin K
  have hk0 : Keep (fun _ => False) w (((w.alloc (.cells (stepI 9) 151 (0, 0))).alloc (.cells zGot 148 (0, 0))).alloc (.cells zGot 148 (0, 0))) := (((Keep.refl _ w).alloc _).alloc _).alloc _
  have hR0 : (((w.alloc (.cells (stepI 9) 151 (0, 0))).alloc (.cells zGot 148 (0, 0))).alloc (.cells zGot 148 (0, 0))).heap[w.heap.size + 1]? = some (.cells zGot 148 (0, 0)) := (Below.heap_alloc _ _ _ (by simp)).trans (heap_alloc_at (by simp) _)
  have hG0 : (((w.alloc (.cells (stepI 9) 151 (0, 0))).alloc (.cells zGot 148 (0, 0))).alloc (.cells zGot 148 (0, 0))).heap[w.heap.size + 1 + 1]? = some (.cells zGot 148 (0, 0)) := heap_alloc_at (by simp) _
  have hs0 : (((w.alloc (.cells (stepI 9) 151 (0, 0))).alloc (.cells zGot 148 (0, 0))).alloc (.cells zGot 148 (0, 0))).heap.size = w.heap.size + 3 := by simp
  go_enter Tryz.func68, Tryz.ntmps68
  go_wp2_with fail
  obtain ⟨n0, hn⟩ : ∃ n0, w.heap.size = n0 := ⟨_, rfl⟩
  rw [hn] at hR0 hG0 hs0 ⊢
  generalize ((w.alloc (.cells (stepI 9) 151 (0, 0))).alloc (.cells zGot 148 (0, 0))).alloc (.cells zGot 148 (0, 0)) = w1 at *
  have HN := Lib.hid hn
  have HR := Lib.hid hR0
  have HG := Lib.hid hG0
  have HS := Lib.hid hs0
  have HM := Lib.hid (Cmp.M_new h hk0)
  obtain ⟨u0, u1, u2, u3, u4, u5, u6⟩ := got_cells hG0
  obtain ⟨f0, f1, f2, f3, f4, f5, f6⟩ := got_free hG0
  clear hn hR0 hG0 hs0
  go_region_with (first | (go_at_call 21; refine (ctx_at _).mono ?_; rintro e w' ⟨rfl, rfl⟩) | (go_at_call 163; refine (Cmp.readListBegin (w := w1.drew) (h.fresh hk0.drew)).mono ?_; rintro e w2 ⟨t, n, ev, rfl, hp, hv⟩; have HP := Lib.hid hp; have HV := Lib.hid hv; have HG2 := Lib.hid ((hp.keep.block (n0 + 1 + 1) (by simpa using lt_of_heap HG.out) (fun x => by have := HM.out _ x; have := HN.out; omega)).trans HG.out); clear hp hv; obtain ⟨x0, x1, x2, x3, x4, x5, x6⟩ := got_cells HG2.out; obtain ⟨y0, y1, y2, y3, y4, y5, y6⟩ := got_free HG2.out))
  all_goals
    have hG3 := heap_set_same (i := 3) HG2.out (.int .i64 n)
    have hk3 : Keep (fun i => n0 ≤ i ∧ i < n0 + 3) w2 (w2.setCell ⟨n0 + 1 + 1, 3, none⟩ (.int .i64 n)) := (Keep.refl _ w2).set (n0 + 1 + 1) 3 (fun _ => by omega) _
    have hR3 : (w2.setCell ⟨n0 + 1 + 1, 3, none⟩ (.int .i64 n)).heap[n0 + 1]? = some (.cells zGot 148 (0, 0)) := (heap_set_other (p := ⟨n0 + 1 + 1, 3, none⟩) _ (by simp)).trans ((HP.out.keep.block (n0 + 1) (by simpa using lt_of_heap HR.out) (fun x => by have := HM.out _ x; have := HN.out; omega)).trans HR.out)
    clear x0 x1 x2 x3 x4 x5 x6 y0 y1 y2 y3 y4 y5 y6 u0 u1 u2 u3 u4 u5 u6 f0 f1 f2 f3 f4 f5 f6
    generalize w2.setCell ⟨n0 + 1 + 1, 3, none⟩ (.int .i64 n) = w3 at *
    have hG4 : w3.heap[n0 + 1 + 1]? = some (.cells (gotA 0 0 0 n 0 0 nilB) 148 (0, 0)) := hG3
    obtain ⟨x0, x1, x2, x3, x4, x5, x6⟩ := got_cells hG4
    obtain ⟨y0, y1, y2, y3, y4, y5, y6⟩ := got_free hG4
    obtain ⟨r0, r1, r2, r3, r4, r5, r6⟩ := got_cells hR3
    obtain ⟨z0, z1, z2, z3, z4, z5, z6⟩ := got_free hR3
    have HG4 := Lib.hid hG4
    have HR3 := Lib.hid hR3
    clear hG3 hG4 hR3
    go_wp2_with fail
    have hn0 := HN.out
    have hs1 := HS.out
    have hR4 : ((w3.setCell ⟨n0 + 1 + 1, 1, none⟩ (.int .i64 (wrap64 t))).setCell ⟨n0 + 1 + 1, 2, none⟩ (.int .i64 0)).heap[n0 + 1]? = some (.cells zGot 148 (0, 0)) := (heap_set_other (p := ⟨n0 + 1 + 1, 2, none⟩) _ (by simp)).trans ((heap_set_other (p := ⟨n0 + 1 + 1, 1, none⟩) _ (by simp)).trans HR3.out)
    have hkN : Keep (fun i => n0 ≤ i ∧ i < n0 + 3) w2 ((w3.setCell ⟨n0 + 1 + 1, 1, none⟩ (.int .i64 (wrap64 t))).setCell ⟨n0 + 1 + 1, 2, none⟩ (.int .i64 0)) := (hk3.set (n0 + 1 + 1) 1 (fun _ => by omega) _).set (n0 + 1 + 1) 2 (fun _ => by omega) _
    have hkW := got_keep hkN (U := n0 + 1) (fun _ => by omega) 0 (wrap64 t) 0 n 0 0 nilB
    refine ret_cell2 (U := n0 + 1) (T := 148) Tryz.results68 rfl rfl rfl (got_set hR4 _ _ _ _ _ _ _) Tryz.underlying148 igot_size ?_
    refine ⟨wrap64 t, n, ev, rfl, Cmp.through h hk0.drew HP.out hkW (fun i hi => by simp; omega), fun hz => ?_⟩
    obtain ⟨e1, e2⟩ := HV.out hz
    exact ⟨by rw [e1]; exact Cmp.lT_w K s, e2⟩

theorem Cmp.na_ReadSetBegin (K : Cmp.Ctx) (w : World) : (nilAhead 491 106 (.pointer (some ⟨K.P, 0, none⟩)) "ReadSetBegin").run Tryz.prog w = .ok (some false) w := by kernel_rfl

set_option maxRecDepth 100000 in
set_option maxHeartbeats 2000000 in
theorem Cmp.begun11 (K : Cmp.Ctx) (s : Cmp.St) (w : World) (h : Cmp.Inv K s w) :
    Calls Tryz.prog 68 #[Cmp.V K, .agg (stepI 11)] w (Cmp.BegP K w s) := by
  have hna := Cmp.na_ReadSetBegin K
  have hk0 : Keep (fun _ => False) w (((w.alloc (.cells (stepI 11) 151 (0, 0))).alloc (.cells zGot 148 (0, 0))).alloc (.cells zGot 148 (0, 0))) := (((Keep.refl _ w).alloc _).alloc _).alloc _
  have hR0 : (((w.alloc (.cells (stepI 11) 151 (0, 0))).alloc (.cells zGot 148 (0, 0))).alloc (.cells zGot 148 (0, 0))).heap[w.heap.size + 1]? = some (.cells zGot 148 (0, 0)) := (Below.heap_alloc _ _ _ (by simp)).trans (heap_alloc_at (by simp) _)
  have hG0 : (((w.alloc (.cells (stepI 11) 151 (0, 0))).alloc (.cells zGot 148 (0, 0))).alloc (.cells zGot 148 (0, 0))).heap[w.heap.size + 1 + 1]? = some (.cells zGot 148 (0, 0)) := heap_alloc_at (by simp) _
  have hs0 : (((w.alloc (.cells (stepI 11) 151 (0, 0))).alloc (.cells zGot 148 (0, 0))).alloc (.cells zGot 148 (0, 0))).heap.size = w.heap.size + 3 := by simp
  go_enter Tryz.func68, Tryz.ntmps68
  go_wp2_with fail
  obtain ⟨n0, hn⟩ : ∃ n0, w.heap.size = n0 := ⟨_, rfl⟩
  rw [hn] at hR0 hG0 hs0 ⊢
  generalize ((w.alloc (.cells (stepI 11) 151 (0, 0))).alloc (.cells zGot 148 (0, 0))).alloc (.cells zGot 148 (0, 0)) = w1 at *
  have HN := Lib.hid hn
  have HR := Lib.hid hR0
  have HG := Lib.hid hG0
  have HS := Lib.hid hs0
  have HM := Lib.hid (Cmp.M_new h hk0)
  obtain ⟨u0, u1, u2, u3, u4, u5, u6⟩ := got_cells hG0
  obtain ⟨f0, f1, f2, f3, f4, f5, f6⟩ := got_free hG0
  clear hn hR0 hG0 hs0
  go_region_with (first | (go_at_call 21; refine (ctx_at _).mono ?_; rintro e w' ⟨rfl, rfl⟩) | (go_at_call 169; refine (Cmp.readSetBegin (w := w1.drew) (h.fresh hk0.drew)).mono ?_; rintro e w2 ⟨t, n, ev, rfl, hp, hv⟩; have HP := Lib.hid hp; have HV := Lib.hid hv; have HG2 := Lib.hid ((hp.keep.block (n0 + 1 + 1) (by simpa using lt_of_heap HG.out) (fun x => by have := HM.out _ x; have := HN.out; omega)).trans HG.out); clear hp hv; obtain ⟨x0, x1, x2, x3, x4, x5, x6⟩ := got_cells HG2.out; obtain ⟨y0, y1, y2, y3, y4, y5, y6⟩ := got_free HG2.out))
  all_goals
    have hG3 := heap_set_same (i := 3) HG2.out (.int .i64 n)
    have hk3 : Keep (fun i => n0 ≤ i ∧ i < n0 + 3) w2 (w2.setCell ⟨n0 + 1 + 1, 3, none⟩ (.int .i64 n)) := (Keep.refl _ w2).set (n0 + 1 + 1) 3 (fun _ => by omega) _
    have hR3 : (w2.setCell ⟨n0 + 1 + 1, 3, none⟩ (.int .i64 n)).heap[n0 + 1]? = some (.cells zGot 148 (0, 0)) := (heap_set_other (p := ⟨n0 + 1 + 1, 3, none⟩) _ (by simp)).trans ((HP.out.keep.block (n0 + 1) (by simpa using lt_of_heap HR.out) (fun x => by have := HM.out _ x; have := HN.out; omega)).trans HR.out)
    clear x0 x1 x2 x3 x4 x5 x6 y0 y1 y2 y3 y4 y5 y6 u0 u1 u2 u3 u4 u5 u6 f0 f1 f2 f3 f4 f5 f6
    generalize w2.setCell ⟨n0 + 1 + 1, 3, none⟩ (.int .i64 n) = w3 at *
    have hG4 : w3.heap[n0 + 1 + 1]? = some (.cells (gotA 0 0 0 n 0 0 nilB) 148 (0, 0)) := hG3
    obtain ⟨x0, x1, x2, x3, x4, x5, x6⟩ := got_cells hG4
    obtain ⟨y0, y1, y2, y3, y4, y5, y6⟩ := got_free hG4
    obtain ⟨r0, r1, r2, r3, r4, r5, r6⟩ := got_cells hR3
    obtain ⟨z0, z1, z2, z3, z4, z5, z6⟩ := got_free hR3
    have HG4 := Lib.hid hG4
    have HR3 := Lib.hid hR3
    clear hG3 hG4 hR3
    go_wp2_with fail
    have hn0 := HN.out
    have hs1 := HS.out
    have hR4 : ((w3.setCell ⟨n0 + 1 + 1, 1, none⟩ (.int .i64 (wrap64 t))).setCell ⟨n0 + 1 + 1, 2, none⟩ (.int .i64 0)).heap[n0 + 1]? = some (.cells zGot 148 (0, 0)) := (heap_set_other (p := ⟨n0 + 1 + 1, 2, none⟩) _ (by simp)).trans ((heap_set_other (p := ⟨n0 + 1 + 1, 1, none⟩) _ (by simp)).trans HR3.out)
    have hkN : Keep (fun i => n0 ≤ i ∧ i < n0 + 3) w2 ((w3.setCell ⟨n0 + 1 + 1, 1, none⟩ (.int .i64 (wrap64 t))).setCell ⟨n0 + 1 + 1, 2, none⟩ (.int .i64 0)) := (hk3.set (n0 + 1 + 1) 1 (fun _ => by omega) _).set (n0 + 1 + 1) 2 (fun _ => by omega) _
    have hkW := got_keep hkN (U := n0 + 1) (fun _ => by omega) 0 (wrap64 t) 0 n 0 0 nilB
    refine ret_cell2 (U := n0 + 1) (T := 148) Tryz.results68 rfl rfl rfl (got_set hR4 _ _ _ _ _ _ _) Tryz.underlying148 igot_size ?_
    refine ⟨wrap64 t, n, ev, rfl, Cmp.through h hk0.drew HP.out hkW (fun i hi => by simp; omega), fun hz => ?_⟩
    obtain ⟨e1, e2⟩ := HV.out hz
    exact ⟨by rw [e1]; exact Cmp.lT_w K s, e2⟩

theorem Cmp.na_ReadListEnd (K : Cmp.Ctx) (w : World) : (nilAhead 491 106 (.pointer (some ⟨K.P, 0, none⟩)) "ReadListEnd").run Tryz.prog w = .ok (some false) w := by kernel_rfl

set_option maxRecDepth 100000 in
set_option maxHeartbeats 2000000 in
theorem Cmp.begun10 (K : Cmp.Ctx) (s : Cmp.St) (w : World) (h : Cmp.Inv K s w) :
    Calls Tryz.prog 68 #[Cmp.V K, .agg (stepI 10)] w fun e w' => ∃ v, e = .returned (.tuple #[v, .nilIface]) ∧ Cmp.Post K w w' 0 .nilIface ((Cmp.pr K).leS s) := by
  have hna := Cmp.na_ReadListEnd K
  have hk0 : Keep (fun _ => False) w (((w.alloc (.cells (stepI 10) 151 (0, 0))).alloc (.cells zGot 148 (0, 0))).alloc (.cells zGot 148 (0, 0))) := (((Keep.refl _ w).alloc _).alloc _).alloc _
  have hR0 : (((w.alloc (.cells (stepI 10) 151 (0, 0))).alloc (.cells zGot 148 (0, 0))).alloc (.cells zGot 148 (0, 0))).heap[w.heap.size + 1]? = some (.cells zGot 148 (0, 0)) := (Below.heap_alloc _ _ _ (by simp)).trans (heap_alloc_at (by simp) _)
  have hG0 : (((w.alloc (.cells (stepI 10) 151 (0, 0))).alloc (.cells zGot 148 (0, 0))).alloc (.cells zGot 148 (0, 0))).heap[w.heap.size + 1 + 1]? = some (.cells zGot 148 (0, 0)) := heap_alloc_at (by simp) _
  have hs0 : (((w.alloc (.cells (stepI 10) 151 (0, 0))).alloc (.cells zGot 148 (0, 0))).alloc (.cells zGot 148 (0, 0))).heap.size = w.heap.size + 3 := by simp
  go_enter Tryz.func68, Tryz.ntmps68
  go_wp2_with fail
  obtain ⟨n0, hn⟩ : ∃ n0, w.heap.size = n0 := ⟨_, rfl⟩
  rw [hn] at hR0 hG0 hs0 ⊢
  generalize ((w.alloc (.cells (stepI 10) 151 (0, 0))).alloc (.cells zGot 148 (0, 0))).alloc (.cells zGot 148 (0, 0)) = w1 at *
  have HN := Lib.hid hn
  have HR := Lib.hid hR0
  have HG := Lib.hid hG0
  have HS := Lib.hid hs0
  have HM := Lib.hid (Cmp.M_new h hk0)
  obtain ⟨u0, u1, u2, u3, u4, u5, u6⟩ := got_cells hG0
  obtain ⟨f0, f1, f2, f3, f4, f5, f6⟩ := got_free hG0
  clear hn hR0 hG0 hs0
  go_region_with (first | (go_at_call 21; refine (ctx_at _).mono ?_; rintro e w' ⟨rfl, rfl⟩) | (go_at_call 164; refine (Cmp.readListEnd (w := w1.drew) (h.fresh hk0.drew)).mono ?_; rintro e w2 ⟨rfl, hp⟩; have HP := Lib.hid hp; have HG2 := Lib.hid ((hp.keep.block (n0 + 1 + 1) (by simpa using lt_of_heap HG.out) (fun x => by have := HM.out _ x; have := HN.out; omega)).trans HG.out); clear hp; obtain ⟨x0, x1, x2, x3, x4, x5, x6⟩ := got_cells HG2.out; obtain ⟨y0, y1, y2, y3, y4, y5, y6⟩ := got_free HG2.out))
  all_goals
    have hG3 := HG2.out
    have hk3 : Keep (fun i => n0 ≤ i ∧ i < n0 + 3) w2 w2 := Keep.refl _ w2
    have hR3 : w2.heap[n0 + 1]? = some (.cells zGot 148 (0, 0)) := ((HP.out.keep.block (n0 + 1) (by simpa using lt_of_heap HR.out) (fun x => by have := HM.out _ x; have := HN.out; omega)).trans HR.out)
    clear x0 x1 x2 x3 x4 x5 x6 y0 y1 y2 y3 y4 y5 y6 u0 u1 u2 u3 u4 u5 u6 f0 f1 f2 f3 f4 f5 f6
    obtain ⟨w3, hw3⟩ : ∃ w3, w2 = w3 := ⟨_, rfl⟩
    have HW3 := Lib.hid hw3
    rw [hw3] at hG3 hk3 hR3 ⊢
    have hk3 : Keep (fun i => n0 ≤ i ∧ i < n0 + 3) w2 w3 := hw3 ▸ Keep.refl _ w2
    clear hw3
    have hG4 : w3.heap[n0 + 1 + 1]? = some (.cells (gotA 0 0 0 0 0 0 nilB) 148 (0, 0)) := hG3
    obtain ⟨x0, x1, x2, x3, x4, x5, x6⟩ := got_cells hG4
    obtain ⟨y0, y1, y2, y3, y4, y5, y6⟩ := got_free hG4
    obtain ⟨r0, r1, r2, r3, r4, r5, r6⟩ := got_cells hR3
    obtain ⟨z0, z1, z2, z3, z4, z5, z6⟩ := got_free hR3
    have HG4 := Lib.hid hG4
    have HR3 := Lib.hid hR3
    clear hG3 hG4 hR3
    go_wp2_with fail
    have hn0 := HN.out
    have hs1 := HS.out
    have hR4 : ((w3.setCell ⟨n0 + 1 + 1, 1, none⟩ (.int .i64 0)).setCell ⟨n0 + 1 + 1, 2, none⟩ (.int .i64 0)).heap[n0 + 1]? = some (.cells zGot 148 (0, 0)) := (heap_set_other (p := ⟨n0 + 1 + 1, 2, none⟩) _ (by simp)).trans ((heap_set_other (p := ⟨n0 + 1 + 1, 1, none⟩) _ (by simp)).trans HR3.out)
    have hkN : Keep (fun i => n0 ≤ i ∧ i < n0 + 3) w2 ((w3.setCell ⟨n0 + 1 + 1, 1, none⟩ (.int .i64 0)).setCell ⟨n0 + 1 + 1, 2, none⟩ (.int .i64 0)) := (hk3.set (n0 + 1 + 1) 1 (fun _ => by omega) _).set (n0 + 1 + 1) 2 (fun _ => by omega) _
    have hkW := got_keep hkN (U := n0 + 1) (fun _ => by omega) 0 0 0 0 0 0 nilB
    refine ret_cell2 (U := n0 + 1) (T := 148) Tryz.results68 rfl rfl rfl (got_set hR4 _ _ _ _ _ _ _) Tryz.underlying148 igot_size ?_
    exact ⟨_, rfl, Cmp.through h hk0.drew HP.out hkW (fun i hi => by simp; omega)⟩

theorem Cmp.na_ReadSetEnd (K : Cmp.Ctx) (w : World) : (nilAhead 491 106 (.pointer (some ⟨K.P, 0, none⟩)) "ReadSetEnd").run Tryz.prog w = .ok (some false) w := by kernel_rfl

set_option maxRecDepth 100000 in
set_option maxHeartbeats 2000000 in
theorem Cmp.begun12 (K : Cmp.Ctx) (s : Cmp.St) (w : World) (h : Cmp.Inv K s w) :
    Calls Tryz.prog 68 #[Cmp.V K, .agg (stepI 12)] w fun e w' => ∃ v, e = .returned (.tuple #[v, .nilIface]) ∧ Cmp.Post K w w' 0 .nilIface ((Cmp.pr K).leS s) := by
  have hna := Cmp.na_ReadSetEnd K
  have hk0 : Keep (fun _ => False) w (((w.alloc (.cells (stepI 12) 151 (0, 0))).alloc (.cells zGot 148 (0, 0))).alloc (.cells zGot 148 (0, 0))) := (((Keep.refl _ w).alloc _).alloc _).alloc _
  have hR0 : (((w.alloc (.cells (stepI 12) 151 (0, 0))).alloc (.cells zGot 148 (0, 0))).alloc (.cells zGot 148 (0, 0))).heap[w.heap.size + 1]? = some (.cells zGot 148 (0, 0)) := (Below.heap_alloc _ _ _ (by simp)).trans (heap_alloc_at (by simp) _)
  have hG0 : (((w.alloc (.cells (stepI 12) 151 (0, 0))).alloc (.cells zGot 148 (0, 0))).alloc (.cells zGot 148 (0, 0))).heap[w.heap.size + 1 + 1]? = some (.cells zGot 148 (0, 0)) := heap_alloc_at (by simp) _
  have hs0 : (((w.alloc (.cells (stepI 12) 151 (0, 0))).alloc (.cells zGot 148 (0, 0))).alloc (.cells zGot 148 (0, 0))).heap.size = w.heap.size + 3 := by simp
  go_enter Tryz.func68, Tryz.ntmps68
  go_wp2_with fail
  obtain ⟨n0, hn⟩ : ∃ n0, w.heap.size = n0 := ⟨_, rfl⟩
  rw [hn] at hR0 hG0 hs0 ⊢
  generalize ((w.alloc (.cells (stepI 12) 151 (0, 0))).alloc (.cells zGot 148 (0, 0))).alloc (.cells zGot 148 (0, 0)) = w1 at *
  have HN := Lib.hid hn
  have HR := Lib.hid hR0
  have HG := Lib.hid hG0
  have HS := Lib.hid hs0
  have HM := Lib.hid (Cmp.M_new h hk0)
  obtain ⟨u0, u1, u2, u3, u4, u5, u6⟩ := got_cells hG0
  obtain ⟨f0, f1, f2, f3, f4, f5, f6⟩ := got_free hG0
  clear hn hR0 hG0 hs0
  go_region_with (first | (go_at_call 21; refine (ctx_at _).mono ?_; rintro e w' ⟨rfl, rfl⟩) | (go_at_call 170; refine (Cmp.readSetEnd (w := w1.drew) (h.fresh hk0.drew)).mono ?_; rintro e w2 ⟨rfl, hp⟩; have HP := Lib.hid hp; have HG2 := Lib.hid ((hp.keep.block (n0 + 1 + 1) (by simpa using lt_of_heap HG.out) (fun x => by have := HM.out _ x; have := HN.out; omega)).trans HG.out); clear hp; obtain ⟨x0, x1, x2, x3, x4, x5, x6⟩ := got_cells HG2.out; obtain ⟨y0, y1, y2, y3, y4, y5, y6⟩ := got_free HG2.out))
  all_goals
    have hG3 := HG2.out
    have hk3 : Keep (fun i => n0 ≤ i ∧ i < n0 + 3) w2 w2 := Keep.refl _ w2
    have hR3 : w2.heap[n0 + 1]? = some (.cells zGot 148 (0, 0)) := ((HP.out.keep.block (n0 + 1) (by simpa using lt_of_heap HR.out) (fun x => by have := HM.out _ x; have := HN.out; omega)).trans HR.out)
    clear x0 x1 x2 x3 x4 x5 x6 y0 y1 y2 y3 y4 y5 y6 u0 u1 u2 u3 u4 u5 u6 f0 f1 f2 f3 f4 f5 f6
    obtain ⟨w3, hw3⟩ : ∃ w3, w2 = w3 := ⟨_, rfl⟩
    have HW3 := Lib.hid hw3
    rw [hw3] at hG3 hk3 hR3 ⊢
    have hk3 : Keep (fun i => n0 ≤ i ∧ i < n0 + 3) w2 w3 := hw3 ▸ Keep.refl _ w2
    clear hw3
    have hG4 : w3.heap[n0 + 1 + 1]? = some (.cells (gotA 0 0 0 0 0 0 nilB) 148 (0, 0)) := hG3
    obtain ⟨x0, x1, x2, x3, x4, x5, x6⟩ := got_cells hG4
    obtain ⟨y0, y1, y2, y3, y4, y5, y6⟩ := got_free hG4
    obtain ⟨r0, r1, r2, r3, r4, r5, r6⟩ := got_cells hR3
    obtain ⟨z0, z1, z2, z3, z4, z5, z6⟩ := got_free hR3
    have HG4 := Lib.hid hG4
    have HR3 := Lib.hid hR3
    clear hG3 hG4 hR3
    go_wp2_with fail
    have hn0 := HN.out
    have hs1 := HS.out
    have hR4 : ((w3.setCell ⟨n0 + 1 + 1, 1, none⟩ (.int .i64 0)).setCell ⟨n0 + 1 + 1, 2, none⟩ (.int .i64 0)).heap[n0 + 1]? = some (.cells zGot 148 (0, 0)) := (heap_set_other (p := ⟨n0 + 1 + 1, 2, none⟩) _ (by simp)).trans ((heap_set_other (p := ⟨n0 + 1 + 1, 1, none⟩) _ (by simp)).trans HR3.out)
    have hkN : Keep (fun i => n0 ≤ i ∧ i < n0 + 3) w2 ((w3.setCell ⟨n0 + 1 + 1, 1, none⟩ (.int .i64 0)).setCell ⟨n0 + 1 + 1, 2, none⟩ (.int .i64 0)) := (hk3.set (n0 + 1 + 1) 1 (fun _ => by omega) _).set (n0 + 1 + 1) 2 (fun _ => by omega) _
    have hkW := got_keep hkN (U := n0 + 1) (fun _ => by omega) 0 0 0 0 0 0 nilB
    refine ret_cell2 (U := n0 + 1) (T := 148) Tryz.results68 rfl rfl rfl (got_set hR4 _ _ _ _ _ _ _) Tryz.underlying148 igot_size ?_
    exact ⟨_, rfl, Cmp.through h hk0.drew HP.out hkW (fun i hi => by simp; omega)⟩

end Go.Proofs.YtnccjcbelcbgoaaGreatDoor

/- The thin package: get of a list or a set. -/
namespace Go.Proofs.YtnccjcbelcbgoaaGreatDoor
open Go Go.RowKit

/-- What holds ahead of each element. -/
def Cmp.GRel (K : Cmp.Ctx) (w : World) (U : Nat) (S : List (Nat × Array Value × TypeId)) (d : Nat) (T KT E : Int) (f : Cmp.St → List _root_.Go.Proofs.YtnccjcbelcbgoaaGreatDoor.V → Nat → Int × Cmp.St × List _root_.Go.Proofs.YtnccjcbelcbgoaaGreatDoor.V) (n m : Int) (tot : Int × Cmp.St × List _root_.Go.Proofs.YtnccjcbelcbgoaaGreatDoor.V) (k : Nat) (v : Value) (wr : World) : Prop :=
  ∃ i s1 vs lv rows, v = .int .i64 i ∧ 0 ≤ i ∧ k = (n - i).toNat ∧ (vs.length : Int) ≤ m * i ∧ Cmp.Inv K s1 wr ∧ Cmp.Frame K w U S d T KT E [] vs (.slice none 0 0) lv rows wr ∧ f s1 vs k = tot ∧ (Cmp.pr K).Room s1

/- LIST -/
set_option maxRecDepth 100000 in
set_option maxHeartbeats 4000000 in
theorem Cmp.getList9 (K : Cmp.Ctx) (d : Nat) (ih : Cmp.Gets K d) (deep : Int) (s : Cmp.St) (w : World) (hdd : deep.toNat = d + 1) (hd : 0 < deep) (hhi : deep ≤ 9223372036854775807) (h : Cmp.Inv K s w) (hroom : (Cmp.pr K).Room s) :
    Calls Tryz.prog 52 #[Cmp.V K, .agg (valC 15 0 nilB 0 0 (.slice none 0 0) (.slice none 0 0)), .int .i64 9, .int .i64 deep] w (Cmp.GetP K (d + 1) w (gt (Cmp.pr K) (d + 1) 15 s)) := by
  have hk0 : Keep (fun _ => False) w ((w.alloc (.cells (valC 15 0 nilB 0 0 (.slice none 0 0) (.slice none 0 0)) 38 (0, 0))).alloc (.cells zVal 38 (0, 0))) := ((Keep.refl _ w).alloc _).alloc _
  have hU0 : ((w.alloc (.cells (valC 15 0 nilB 0 0 (.slice none 0 0) (.slice none 0 0)) 38 (0, 0))).alloc (.cells zVal 38 (0, 0))).heap[w.heap.size]? = some (.cells (valC 15 0 nilB 0 0 (.slice none 0 0) (.slice none 0 0)) 38 (0, 0)) := (Below.heap_alloc _ _ _ (by simp)).trans (heap_alloc_new w _)
  have hR0 : ((w.alloc (.cells (valC 15 0 nilB 0 0 (.slice none 0 0) (.slice none 0 0)) 38 (0, 0))).alloc (.cells zVal 38 (0, 0))).heap[w.heap.size + 1]? = some (.cells zVal 38 (0, 0)) := heap_alloc_at (by simp) _
  have hs0 : ((w.alloc (.cells (valC 15 0 nilB 0 0 (.slice none 0 0) (.slice none 0 0)) 38 (0, 0))).alloc (.cells zVal 38 (0, 0))).heap.size = w.heap.size + 2 := by simp
  by_cases hz : (Cmp.pr K).lK s = 0
  · by_cases hbig : (Cmp.pr K).lN s > 100000
    · have e0 : gt (Cmp.pr K) (d + 1) 15 s = (52, (Cmp.pr K).lS s, V.zero) := by simp [gt, isSc, hz, hbig]
      rw [e0]
      have HZ := Lib.hid hz
      have HB := Lib.hid hbig
      clear hroom hdd hz hbig e0
      go_enter Tryz.func52, Tryz.ntmps52
      go_wp2_with fail
      obtain ⟨n0, hn⟩ : ∃ n0, w.heap.size = n0 := ⟨_, rfl⟩
      rw [hn] at hU0 hR0 hs0 ⊢
      generalize (w.alloc (.cells (valC 15 0 nilB 0 0 (.slice none 0 0) (.slice none 0 0)) 38 (0, 0))).alloc (.cells zVal 38 (0, 0)) = w1 at *
      have HN := Lib.hid hn
      have HU0 := Lib.hid hU0
      have HR0 := Lib.hid hR0
      have HS0 := Lib.hid hs0
      have HM := Lib.hid (Cmp.M_new h hk0)
      clear hn hU0 hR0 hs0
      refine (Cmp.begun9 K s w1 (h.fresh hk0)).mono ?_
      rintro e w2 ⟨t, n, ev, rfl, hp, hv⟩
      have hU2 := (hp.keep.block n0 (lt_of_heap HU0.out) (fun x => by have := HM.out _ x; have := HN.out; omega)).trans HU0.out
      have hR2 := (hp.keep.block (n0 + 1) (lt_of_heap HR0.out) (fun x => by have := HM.out _ x; have := HN.out; omega)).trans HR0.out
      have HP := Lib.hid hp
      have HU2 := Lib.hid hU2
      have HR2 := Lib.hid hR2
      obtain ⟨ht, hn⟩ := hv HZ.out
      have hev : ev = .nilIface := by have := hp.err; rw [HZ.out] at this; exact this.isNil
      subst hev
      have hnb : 100000 < n := by have := HB.out; omega
      have hlt2 := lt_of_heap hU2
      have hU3 := (Below.heap_alloc w2 (.cells (gotA 0 t 0 n 0 0 nilB) 148 (0, 0)) _ hlt2).trans hU2
      have hne1 : ¬ n0 = w2.heap.size := by omega
      have hne2 : ¬ w2.heap.size = n0 := by omega
      obtain ⟨x0, x1, x2, x3, x4, x5, x6⟩ := got_cells hU3
      obtain ⟨y0, y1, y2, y3, y4, y5, y6⟩ := got_free hU3
      clear hv ht hn hp hU2 hR2 hU3
      go_wp2_with (with_reducible refine wpList_named 31 rfl ?_)
      intro w4 hw4
      have hk3 : Keep (fun i => n0 = i) w2 w4 := by rw [← hw4]; exact ((Keep.refl _ w2).set n0 4 (fun _ => rfl) _).alloc _
      have hU4 : w4.heap[n0]? = some (.cells (valC 15 0 nilB 0 t (.slice none 0 0) (.slice none 0 0)) 38 (0, 0)) := by rw [← hw4]; exact (Below.heap_alloc _ _ _ (by simpa [World.setCell] using hlt2)).trans (by simpa using heap_set_same (i := 4) HU2.out (.int .i64 t))
      have hR4 := (hk3.block (n0 + 1) (lt_of_heap HR2.out) (by omega)).trans HR2.out
      clear hw4 x0 x1 x2 x3 x4 x5 x6 y0 y1 y2 y3 y4 y5 y6
      have HK3 := Lib.hid hk3
      have HR4 := Lib.hid hR4
      obtain ⟨p0, p1, p2, p3, p4, p5, p6⟩ := got_cells hU4
      obtain ⟨q0, q1, q2, q3, q4, q5, q6⟩ := got_cells hR4
      obtain ⟨o0, o1, o2, o3, o4, o5, o6⟩ := got_free hR4
      clear hU4 hR4 hk3
      go_wp2_with fail
      have hk9 := val_keep (M := fun i => n0 ≤ i ∧ i < n0 + 2) (HK3.out.weak (fun i _ e => by omega)) (R := n0 + 1) (fun _ => by omega) (.int .i64 15) (.int .i64 0) (.slice none 0 0) (.int .i64 0) (.int .i64 t) (.slice none 0 0) (.slice none 0 0)
      refine ret_cell2 (U := n0 + 1) (T := 38) Tryz.results52 rfl rfl rfl (val_set HR4.out (.int .i64 15) (.int .i64 0) (.slice none 0 0) (.int .i64 0) (.int .i64 t) (.slice none 0 0) (.slice none 0 0)) Tryz.underlying38 ival_size ?_
      have hn0 := HN.out
      have hs1 := HS0.out
      exact ⟨15, 0, none, 0, 0, 0, t, none, 0, 0, none, 0, 0, _, rfl, Cmp.through h hk0 (HP.out.own 52 (by decide) (by decide)) hk9 (fun i hi => by omega), fun hz => absurd hz (by show ¬ (52 : Int) = 0; decide)⟩
    · obtain ⟨tot, htot⟩ : ∃ tot, gseq (gt (Cmp.pr K) d ((Cmp.pr K).lT s)) ((Cmp.pr K).lN s).toNat ((Cmp.pr K).lS s) [] = tot := ⟨_, rfl⟩
      have e0 : gt (Cmp.pr K) (d + 1) 15 s = gend (Cmp.pr K).leS (fun l => .mk 15 0 [] 0 ((Cmp.pr K).lT s) [] l) tot := by rw [← htot]; simp [gt, isSc, hz, hbig]
      rw [e0]
      have HT := Lib.hid htot
      have HRM := Lib.hid hroom
      have hd1 : (deep - 1).toNat = d := by omega
      have HD := Lib.hid hd1
      have HDD := Lib.hid hdd
      have HZ := Lib.hid hz
      have HB := Lib.hid hbig
      clear htot hroom hd1 hdd hz hbig e0
      go_enter Tryz.func52, Tryz.ntmps52
      go_wp2_with fail
      obtain ⟨n0, hn⟩ : ∃ n0, w.heap.size = n0 := ⟨_, rfl⟩
      rw [hn] at hU0 hR0 hs0 ⊢
      generalize (w.alloc (.cells (valC 15 0 nilB 0 0 (.slice none 0 0) (.slice none 0 0)) 38 (0, 0))).alloc (.cells zVal 38 (0, 0)) = w1 at *
      have HN := Lib.hid hn
      have HU0 := Lib.hid hU0
      have HR0 := Lib.hid hR0
      have HS0 := Lib.hid hs0
      have HM := Lib.hid (Cmp.M_new h hk0)
      clear hn hU0 hR0 hs0
      refine (Cmp.begun9 K s w1 (h.fresh hk0)).mono ?_
      rintro e w2 ⟨t, n, ev, rfl, hp, hv⟩
      obtain ⟨ht, hn⟩ := hv HZ.out
      have hev : ev = .nilIface := by have := hp.err; rw [HZ.out] at this; exact this.isNil
      subst hev
      have hnb : n ≤ 100000 := by have := HB.out; omega
      have HTT := Lib.hid ht
      have HNN := Lib.hid hn
      have hU2 := (hp.keep.block n0 (lt_of_heap HU0.out) (fun x => by have := HM.out _ x; have := HN.out; omega)).trans HU0.out
      have hR2 := (hp.keep.block (n0 + 1) (lt_of_heap HR0.out) (fun x => by have := HM.out _ x; have := HN.out; omega)).trans HR0.out
      have HP := Lib.hid hp
      have HU2 := Lib.hid hU2
      have HR2 := Lib.hid hR2
      have hlt2 := lt_of_heap hU2
      have hU3 := (Below.heap_alloc w2 (.cells (gotA 0 t 0 n 0 0 nilB) 148 (0, 0)) _ hlt2).trans hU2
      have hne1 : ¬ n0 = w2.heap.size := by omega
      have hne2 : ¬ w2.heap.size = n0 := by omega
      obtain ⟨x0, x1, x2, x3, x4, x5, x6⟩ := got_cells hU3
      obtain ⟨y0, y1, y2, y3, y4, y5, y6⟩ := got_free hU3
      clear hv ht hn hp hU2 hR2 hU3
      go_wp2_with fail
      have hk3 : Keep (fun i => n0 = i) w2 ((w2.setCell ⟨n0, 4, none⟩ (.int .i64 t)).alloc (.cells (gotA 0 t 0 n 0 0 nilB) 148 (0, 0))) := ((Keep.refl _ w2).set n0 4 (fun _ => rfl) _).alloc _
      have hU4 : ((w2.setCell ⟨n0, 4, none⟩ (.int .i64 t)).alloc (.cells (gotA 0 t 0 n 0 0 nilB) 148 (0, 0))).heap[n0]? = some (.cells (valC 15 0 nilB 0 t (.slice none 0 0) (.slice none 0 0)) 38 (0, 0)) := (Below.heap_alloc _ _ _ (by simpa [World.setCell] using hlt2)).trans (by simpa using heap_set_same (i := 4) HU2.out (.int .i64 t))
      have hG4 : ((w2.setCell ⟨n0, 4, none⟩ (.int .i64 t)).alloc (.cells (gotA 0 t 0 n 0 0 nilB) 148 (0, 0))).heap[w2.heap.size]? = some (.cells (gotA 0 t 0 n 0 0 nilB) 148 (0, 0)) := heap_alloc_at (by simp [World.setCell]) _
      have hR4 := (hk3.block (n0 + 1) (lt_of_heap HR2.out) (by omega)).trans HR2.out
      generalize hw4 : (w2.setCell ⟨n0, 4, none⟩ (.int .i64 t)).alloc (.cells (gotA 0 t 0 n 0 0 nilB) 148 (0, 0)) = w4 at *
      clear hw4 x0 x1 x2 x3 x4 x5 x6 y0 y1 y2 y3 y4 y5 y6
      obtain ⟨G, hG⟩ : ∃ G, w2.heap.size = G := ⟨_, rfl⟩
      rw [hG] at hG4 hne1 hne2 hlt2 ⊢
      have HG := Lib.hid hG
      have HU4 := Lib.hid hU4
      have HG4 := Lib.hid hG4
      have HR4 := Lib.hid hR4
      have HK3 := Lib.hid hk3
      clear hU4 hG4 hR4 hk3 hG
      go_loopg [35] n.toNat (fun k v wr => Cmp.GRel K w n0 [(n0 + 1, zVal, 38), (G, gotA 0 t 0 n 0 0 nilB, 148)] d 15 0 t (fun q l k => gseq (gt (Cmp.pr K) d ((Cmp.pr K).lT s)) k q l) n 1 tot k v wr)
      case atStart =>
        have hN := HN.out
        have hnM : ∀ j, n0 ≤ j → j < w1.heap.size → ¬ Cmp.M K w2 j := fun j hj hl => HP.out.keep.not hl (fun x => by have := HM.out _ x; omega)
        have hs1 := HS0.out
        obtain ⟨j1, j2, j3⟩ := Cmp.turn h ((Cmp.kept h hk0).then HP.out.keep) (HP.out.inv HZ.out) HK3.out (fun i e => by subst e; exact ⟨by omega, hnM _ (Nat.le_refl _) (by omega)⟩)
        have hlt := Cmp.M_lt (HP.out.inv HZ.out)
        have hGs := HG.out
        have hp2 := HP.out.keep.size
        refine ⟨0, _, [], _, [], rfl, by omega, by rw [Int.sub_zero], by simp, j1, ⟨j2, ivb_start HU4.out ⟨by omega, by simp; omega, fun m => hnM _ (Nat.le_refl _) (by omega) (j3 _ m)⟩ (fun i x => x.1), ?_⟩, by rw [HNN.out]; show gseq _ _ _ _ = _; exact HT.out, ?_⟩
        · intro p hp
          simp only [List.mem_cons, List.not_mem_nil, or_false] at hp
          rcases hp with rfl | rfl
          · exact ⟨by show w.heap.size ≤ n0 + 1; omega, HR4.out, fun m => hnM _ (by omega) (by omega) (j3 _ m)⟩
          · exact ⟨by show w.heap.size ≤ G; omega, HG4.out, fun m => by have := hlt _ (j3 _ m); omega⟩
        · have a1 := (Cmp.ok K).l s HZ.out
          have a2 := (Cmp.ok K).dl s HZ.out
          have a3 : _ + _ < _ := HRM.out
          show _ + _ < _
          omega
      case round =>
        obtain ⟨i, s1, vs, lv, rows, rfl, hi0, hk, hvl, hi1, hfr, hgs, hrm⟩ := hrel
        obtain ⟨hR1, hR2, hR3⟩ := hfr.still (n0 + 1, zVal, 38) (by simp)
        obtain ⟨hG1, hG2, hG3⟩ := hfr.still (G, gotA 0 t 0 n 0 0 nilB, 148) (by simp)
        by_cases hin : i < n
        · cases gk with
          | zero => omega
          | succ k =>
          have HK := Lib.hid hk
          have HGS := Lib.hid hgs
          have HFR := Lib.hid hfr
          have HVL := Lib.hid hvl
          obtain ⟨u0, u1, u2, u3, u4, u5, u6⟩ := got_cells hG2
          clear hk hgs hfr hR1 hR2 hR3 hG1 hG2 hG3
          go_wp2_with fail
          refine (typ_at t _).mono ?_
          rintro e w' ⟨rfl, rfl⟩
          go_wp2_with fail
          have hb8 := Cmp.lT_bd K s
          have h8 : ty8 t = (Cmp.pr K).lT s := by rw [HTT.out]; exact ty8_id hb8
          rw [h8]
          clear h8
          refine (ih (deep - 1) _ s1 wr HD.out (by omega) (by omega) hb8.1 hb8.2 hi1 hrm).mono ?_
          rintro e w3 ⟨T', N', Sa, Sm, Sc, KT', E', Ia, Im, Ic, La, Lm, Lc, ev, rfl, hp3, hval⟩
          have HF3 := Lib.hid (HFR.out.call hp3.keep)
          have hU5 := HF3.out.vb.blk
          have hUl := lt_of_heap hU5
          have hU6 := (Below.heap_alloc w3 (.cells (valC T' N' (.slice Sa Sm Sc) KT' E' (.slice Ia Im Ic) (.slice La Lm Lc)) 38 (0, 0)) _ hUl).trans hU5
          have hne3 : ¬ n0 = w3.heap.size := by omega
          have hne4 : ¬ w3.heap.size = n0 := by omega
          have HP3 := Lib.hid hp3
          have HVAL := Lib.hid hval
          obtain ⟨x0, x1, x2, x3, x4, x5, x6⟩ := got_cells hU6
          clear hp3 hval hU6 hU5 hb8
          obtain ⟨vi, hvi, hvz, hvs, hvb⟩ := ival_info
          have hvs1 : vs.length + 1 ≤ 100000 := by have := HVL.out; omega
          have hnews := new_cells (w3.alloc (.cells (valC T' N' (.slice Sa Sm Sc) KT' E' (.slice Ia Im Ic) (.slice La Lm Lc)) 38)) (valC T' N' (.slice Sa Sm Sc) KT' E' (.slice Ia Im Ic) (.slice La Lm Lc)) 38
          rw [show (w3.alloc (.cells (valC T' N' (.slice Sa Sm Sc) KT' E' (.slice Ia Im Ic) (.slice La Lm Lc)) 38)).heap.size = w3.heap.size + 1 by simp] at hnews
          have hone : ∀ u ∈ ((valC T' N' (.slice Sa Sm Sc) KT' E' (.slice Ia Im Ic) (.slice La Lm Lc))).toList, u.oneCell' = true := by
            intro u hu
            simp only [List.mem_cons, List.not_mem_nil, or_false] at hu
            rcases hu with rfl | rfl | rfl | rfl | rfl | rfl | rfl <;> rfl
          have hb0 : w.heap.size ≤ ((w3.alloc (.cells (valC T' N' (.slice Sa Sm Sc) KT' E' (.slice Ia Im Ic) (.slice La Lm Lc)) 38)).alloc (.cells (valC T' N' (.slice Sa Sm Sc) KT' E' (.slice Ia Im Ic) (.slice La Lm Lc)) 38)).heap.size := by have := HF3.out.kp.size; simp; omega
          have hmx : vs.length + 1 ≤ maxLen := by simp only [maxLen]; omega
          go_wp2_with (at_builtin; refine wpList_append_own_at _ rfl (.tmp 48) (.tmp 50) 36 rfl w.heap.size 38 vi (.agg zVal) 7 104 Tryz.underlying36 hvi hvz hvs hvb rfl (by decide) lv vs.length rows.flatten rfl ((HF3.out.vb.parts.alloc _).alloc _) ⟨w3.heap.size + 1, 0, none⟩ 1 1 ((valC T' N' (.slice Sa Sm Sc) KT' E' (.slice Ia Im Ic) (.slice La Lm Lc))).toList rfl rfl hnews hone hmx (by omega) hb0 ?_)
          intro v' w7 hown hgrow hnil hat
          obtain ⟨va, vm, vc, rfl⟩ := own_shape hown
          have hmn := HFR.out.mine
          have hkk : Keep (fun _ => False) w3 ((w3.alloc (.cells (valC T' N' (.slice Sa Sm Sc) KT' E' (.slice Ia Im Ic) (.slice La Lm Lc)) 38)).alloc (.cells (valC T' N' (.slice Sa Sm Sc) KT' E' (.slice Ia Im Ic) (.slice La Lm Lc)) 38)) := ((Keep.refl _ w3).alloc _).alloc _
          have hk7 : Keep (fun i => lv.ownBlock = some i) w3 w7 := (hkk.weak (fun _ _ x => x.elim)).grown hgrow (fun k e _ => e)
          have hU7 := (hk7.block n0 hUl HF3.out.vb.neL).trans HF3.out.vb.blk
          obtain ⟨hR1, hR2, hR3⟩ := HF3.out.still (n0 + 1, zVal, 38) (by simp)
          have hR7 := (hk7.block (n0 + 1) (lt_of_heap hR2) (fun e => (hmn _ (.inr (.inr e))).2.2.1 (n0 + 1, zVal, 38) (by simp) rfl)).trans hR2
          have HOWN := Lib.hid hown
          have HGROW := Lib.hid hgrow
          have HAT := Lib.hid hat
          have HK7 := Lib.hid hk7
          have HKK := Lib.hid hkk
          have HR7 := Lib.hid hR7
          have HMN := Lib.hid hmn
          clear x0 x1 x2 x3 x4 x5 x6 hnews hone hb0 hmx hown hgrow hat hnil hk7 hkk hR1 hR2 hR3 hmn hvi hvz hvs hvb
          obtain ⟨x0, x1, x2, x3, x4, x5, x6⟩ := got_cells hU7
          obtain ⟨y0, y1, y2, y3, y4, y5, y6⟩ := got_free hU7
          clear hU7
          by_cases hz3 : (gt (Cmp.pr K) d ((Cmp.pr K).lT s) s1).1 = 0
          · have hev : ev = .nilIface := by have := HP3.out.err; rw [hz3] at this; exact this.isNil
            subst hev
            have HZ3 := Lib.hid hz3
            clear hz3
            go_wp2_with fail
            go_roundg k
            case measure => exact Nat.lt_succ_self _
            case rel =>
              have i3 := HP3.out.inv HZ3.out
              have hM6 := (Cmp.turn h HF3.out.kp i3 HKK.out (fun _ x => x.elim)).2.2
              obtain ⟨F8, I8⟩ := Cmp.Frame.part (x := (gt (Cmp.pr K) d ((Cmp.pr K).lT s) s1).2.2) h (Cmp.Frame.fresh h HF3.out i3 HKK.out) (i3.fresh HKK.out)
                (((HVAL.out HZ3.out).keep HKK.out (fun _ _ => id)).weak (fun i _ hi => ⟨fun j hj e => by have := (HMN.out j hj).2.1; have := hi.1; omega, by have := hi.1; have := HFR.out.kp.size; omega, fun p hp e => by have := lt_of_heap (HFR.out.still p hp).2.1; have := hi.1; omega, fun m => hi.2 (hM6 i m)⟩)) HOWN.out HGROW.out (by simpa using HAT.out)
              refine ⟨i + 1, _, _, _, _, rfl, by omega, by have := HK.out; omega, by have := HVL.out; simp; omega, I8, F8, ?_, ?_⟩
              · show gseq _ _ _ _ = _
                rw [← HGS.out]
                exact (gseq_ok HZ3.out).symm
              · have a1 := gt_len (Cmp.ok K) d _ _ HZ3.out
                have a2 := gt_dep (Cmp.ok K) d _ _ HZ3.out
                have a3 : _ + _ < _ := hrm
                show _ + _ < _
                omega
          · obtain ⟨tt, x, rfl⟩ := HP3.out.err.held hz3
            have HZ3 := Lib.hid hz3
            clear hz3
            obtain ⟨r0, r1, r2, r3, r4, r5, r6⟩ := got_cells HR7.out
            obtain ⟨z0, z1, z2, z3, z4, z5, z6⟩ := got_free HR7.out
            go_wp2_with fail
            have hR8 : (w7.setCell ⟨n0, 6, none⟩ (.slice va vm vc)).heap[n0 + 1]? = some (.cells zVal 38 (0, 0)) := (heap_set_other (p := ⟨n0, 6, none⟩) _ (by simp)).trans HR7.out
            have hk9 := val_keep (M := fun i => n0 = i ∨ lv.ownBlock = some i ∨ n0 + 1 = i) ((HK7.out.weak (fun i _ e => .inr (.inl e))).set n0 6 (fun _ => .inl rfl) (.slice va vm vc)) (R := n0 + 1) (fun _ => .inr (.inr rfl)) (.int .i64 15) (.int .i64 0) (.slice none 0 0) (.int .i64 0) (.int .i64 t) (.slice none 0 0) (.slice va vm vc)
            refine ret_cell2 (U := n0 + 1) (T := 38) Tryz.results52 rfl rfl rfl (val_set hR8 (.int .i64 15) (.int .i64 0) (.slice none 0 0) (.int .i64 0) (.int .i64 t) (.slice none 0 0) (.slice va vm vc)) Tryz.underlying38 ival_size ?_
            have hth := Cmp.thru h HFR.out.kp hi1 HP3.out hk9 (fun i e => by
              rcases e with e | e | e
              · have := HMN.out i (.inl e); exact ⟨this.1, this.2.1, this.2.2.2⟩
              · have := HMN.out i (.inr (.inr e)); exact ⟨this.1, this.2.1, this.2.2.2⟩
              · subst e
                obtain ⟨q1, q2, q3⟩ := HFR.out.still (n0 + 1, zVal, 38) (by simp)
                exact ⟨q1, lt_of_heap q2, q3⟩)
            have e1 : gend (Cmp.pr K).leS (fun l => .mk 15 0 [] 0 ((Cmp.pr K).lT s) [] l) tot = ((gt (Cmp.pr K) d ((Cmp.pr K).lT s) s1).1, (gt (Cmp.pr K) d ((Cmp.pr K).lT s) s1).2.1, V.zero) := by
              have e2 : tot = ((gt (Cmp.pr K) d ((Cmp.pr K).lT s) s1).1, (gt (Cmp.pr K) d ((Cmp.pr K).lT s) s1).2.1, vs) := by rw [← HGS.out]; exact gseq_bad HZ3.out
              rw [e2]
              exact gend_bad HZ3.out
            rw [e1]
            exact ⟨15, 0, none, 0, 0, 0, t, none, 0, 0, va, vm, vc, _, rfl, hth.1, fun hz => absurd hz HZ3.out⟩
        · have hgk : gk = 0 := by omega
          subst hgk
          obtain ⟨La, Lm, Lc, rfl⟩ := own_shape hfr.vb.parts
          have HGS := Lib.hid hgs
          have HFR := Lib.hid hfr
          clear hk hgs hfr hR1 hR2 hR3 hG1 hG2 hG3
          go_wp2_with fail
          refine (Cmp.begun10 K s1 wr hi1).mono ?_
          rintro e w5 ⟨v, rfl, hp5⟩
          have HF5 := Lib.hid (HFR.out.call hp5.keep)
          obtain ⟨hR1, hR2, hR3⟩ := HF5.out.still (n0 + 1, zVal, 38) (by simp)
          have HR5 := Lib.hid hR2
          have HP5 := Lib.hid hp5
          obtain ⟨x0, x1, x2, x3, x4, x5, x6⟩ := got_cells HF5.out.vb.blk
          obtain ⟨r0, r1, r2, r3, r4, r5, r6⟩ := got_cells hR2
          obtain ⟨z0, z1, z2, z3, z4, z5, z6⟩ := got_free hR2
          clear hR1 hR2 hR3 hp5
          go_wp2_with fail
          have hk9 := val_keep (M := fun i => n0 + 1 = i) (Keep.refl _ w5) (R := n0 + 1) (fun _ => rfl) (.int .i64 15) (.int .i64 0) (.slice none 0 0) (.int .i64 0) (.int .i64 t) (.slice none 0 0) (.slice La Lm Lc)
          refine ret_cell2 (U := n0 + 1) (T := 38) Tryz.results52 rfl rfl rfl (val_set HR5.out (.int .i64 15) (.int .i64 0) (.slice none 0 0) (.int .i64 0) (.int .i64 t) (.slice none 0 0) (.slice La Lm Lc)) Tryz.underlying38 ival_size ?_
          have hth := Cmp.thru h HFR.out.kp hi1 HP5.out hk9 (fun i e => by
            subst e
            obtain ⟨q1, q2, q3⟩ := HFR.out.still (n0 + 1, zVal, 38) (by simp)
            exact ⟨q1, lt_of_heap q2, q3⟩)
          have e1 : gend (Cmp.pr K).leS (fun l => .mk 15 0 [] 0 ((Cmp.pr K).lT s) [] l) tot = (0, (Cmp.pr K).leS s1, .mk 15 0 [] 0 ((Cmp.pr K).lT s) [] vs) := by
            have e2 : tot = (0, s1, vs) := by rw [← HGS.out]; rfl
            rw [e2]
            exact gend_ok rfl
          rw [e1]
          refine ⟨15, 0, none, 0, 0, 0, t, none, 0, 0, La, Lm, Lc, _, rfl, hth.1, fun hz => ?_⟩
          have hv := HF5.out.vb.val (by simp)
          rw [← HTT.out]
          exact (hv.keep hk9 (fun i hi e => hi.2.1 (n0 + 1, zVal, 38) (by simp) e.symm)).weak (fun i _ hi => ⟨hi.1, fun m => hi.2.2 (hth.2 i m)⟩)
  · have e0 : gt (Cmp.pr K) (d + 1) 15 s = ((Cmp.pr K).lK s, (Cmp.pr K).lS s, V.zero) := by simp [gt, isSc, hz]
    rw [e0]
    have HZ := Lib.hid hz
    clear hroom hdd hz e0
    go_enter Tryz.func52, Tryz.ntmps52
    go_wp2_with fail
    obtain ⟨n0, hn⟩ : ∃ n0, w.heap.size = n0 := ⟨_, rfl⟩
    rw [hn] at hU0 hR0 hs0 ⊢
    generalize (w.alloc (.cells (valC 15 0 nilB 0 0 (.slice none 0 0) (.slice none 0 0)) 38 (0, 0))).alloc (.cells zVal 38 (0, 0)) = w1 at *
    have HN := Lib.hid hn
    have HU0 := Lib.hid hU0
    have HR0 := Lib.hid hR0
    have HS0 := Lib.hid hs0
    have HM := Lib.hid (Cmp.M_new h hk0)
    clear hn hU0 hR0 hs0
    refine (Cmp.begun9 K s w1 (h.fresh hk0)).mono ?_
    rintro e w2 ⟨t, n, ev, rfl, hp, hv⟩
    have hU2 := (hp.keep.block n0 (lt_of_heap HU0.out) (fun x => by have := HM.out _ x; have := HN.out; omega)).trans HU0.out
    have hR2 := (hp.keep.block (n0 + 1) (lt_of_heap HR0.out) (fun x => by have := HM.out _ x; have := HN.out; omega)).trans HR0.out
    have HP := Lib.hid hp
    have HU2 := Lib.hid hU2
    have HR2 := Lib.hid hR2
    obtain ⟨tt, x, rfl⟩ := hp.err.held HZ.out
    clear hv hp hU2 hR2
    go_wp2_with (with_reducible refine wpList_named 23 rfl ?_)
    intro w4 hw4
    have hk3 : Keep (fun _ => False) w2 w4 := by rw [← hw4]; exact (Keep.refl _ w2).alloc _
    have hU4 := (hk3.block n0 (lt_of_heap HU2.out) id).trans HU2.out
    have hR4 := (hk3.block (n0 + 1) (lt_of_heap HR2.out) id).trans HR2.out
    clear hw4
    have HK3 := Lib.hid hk3
    have HR4 := Lib.hid hR4
    obtain ⟨p0, p1, p2, p3, p4, p5, p6⟩ := got_cells hU4
    obtain ⟨q0, q1, q2, q3, q4, q5, q6⟩ := got_cells hR4
    obtain ⟨o0, o1, o2, o3, o4, o5, o6⟩ := got_free hR4
    clear hU4 hR4 hk3
    go_wp2_with fail
    have hk9 := val_keep (M := fun i => n0 ≤ i ∧ i < n0 + 2) (HK3.out.weak (fun i _ e => e.elim)) (R := n0 + 1) (fun _ => by omega) (.int .i64 15) (.int .i64 0) (.slice none 0 0) (.int .i64 0) (.int .i64 0) (.slice none 0 0) (.slice none 0 0)
    refine ret_cell2 (U := n0 + 1) (T := 38) Tryz.results52 rfl rfl rfl (val_set HR4.out (.int .i64 15) (.int .i64 0) (.slice none 0 0) (.int .i64 0) (.int .i64 0) (.slice none 0 0) (.slice none 0 0)) Tryz.underlying38 ival_size ?_
    have hn0 := HN.out
    have hs1 := HS0.out
    exact ⟨15, 0, none, 0, 0, 0, 0, none, 0, 0, none, 0, 0, _, rfl, Cmp.through h hk0 HP.out hk9 (fun i hi => by omega), fun hz => absurd hz HZ.out⟩

end Go.Proofs.YtnccjcbelcbgoaaGreatDoor
