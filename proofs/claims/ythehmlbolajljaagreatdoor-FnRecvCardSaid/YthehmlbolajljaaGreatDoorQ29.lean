/- Part 29 of the proof: BegunR, Gg3. -/
import Derived.Test.YthehmlbolajljaaGreatDoorQ10
import Derived.Test.YthehmlbolajljaaGreatDoorQ20
import Derived.Deep.RegionWith
set_option linter.unusedVariables false
set_option linter.unusedSimpArgs false
set_option linter.unusedSectionVars false
set_option maxHeartbeats 16000000
namespace Go.Proofs.YthehmlbolajljaaGreatDoor
open Go Go.RowKit
def Rp.BegP {St : Type} (K : Rp.Ctx St) (w : World) (s : St) (e : Ending) (w' : World) : Prop :=
 ∃ t n ev, e = .returned (.tuple #[gotV 0 t 0 n 0 0 nilB, ev]) ∧ Rp.Post K w w' (K.pr.lK s) ev (K.pr.lS s) ∧ (K.pr.lK s = 0 → t = K.pr.lT s ∧ n = K.pr.lN s)
set_option maxRecDepth 100000 in
theorem Rp.begun9 {St : Type} (K : Rp.Ctx St) (s : St) (w : World) (h : K.Inv s w) :
  Calls Tryz.prog 85 #[K.V, .agg (stepI 9)] w (Rp.BegP K w s) := by
 obtain ⟨hnam, hna, hnac⟩ := K.mLb
 have hk0 : Keep (fun _ => False) w (((w.alloc (.cells (stepI 9) 95 (0, 0))).alloc (.cells zGot 139 (0, 0))).alloc (.cells zGot 139 (0, 0))) := (((Keep.refl _ w).alloc _).alloc _).alloc _
 have hR0 : (((w.alloc (.cells (stepI 9) 95 (0, 0))).alloc (.cells zGot 139 (0, 0))).alloc (.cells zGot 139 (0, 0))).heap[w.heap.size + 1]? = some (.cells zGot 139 (0, 0)) := (Below.heap_alloc _ _ _ (by simp)).trans (heap_alloc_at (by simp) _)
 have hG0 : (((w.alloc (.cells (stepI 9) 95 (0, 0))).alloc (.cells zGot 139 (0, 0))).alloc (.cells zGot 139 (0, 0))).heap[w.heap.size + 1 + 1]? = some (.cells zGot 139 (0, 0)) := heap_alloc_at (by simp) _
 have hs0 : (((w.alloc (.cells (stepI 9) 95 (0, 0))).alloc (.cells zGot 139 (0, 0))).alloc (.cells zGot 139 (0, 0))).heap.size = w.heap.size + 3 := by simp
 go_enter Tryz.func85, Tryz.ntmps85
 go_wp2_with fail
 obtain ⟨n0, hn⟩ : ∃ n0, w.heap.size = n0 := ⟨_, rfl⟩
 rw [hn] at hR0 hG0 hs0 ⊢
 generalize ((w.alloc (.cells (stepI 9) 95 (0, 0))).alloc (.cells zGot 139 (0, 0))).alloc (.cells zGot 139 (0, 0)) = w1 at *
 have HN := hdd hn
 have HR := hdd hR0
 have HG := hdd hG0
 have HS := hdd hs0
 have HM := hdd (Rp.M_new h hk0)
 obtain ⟨u0, u1, u2, u3, u4, u5, u6⟩ := got_cells hG0
 obtain ⟨f0, f1, f2, f3, f4, f5, f6⟩ := got_free hG0
 clear hn hR0 hG0 hs0
 go_region_with (first | (go_at_call 28; refine (ctx_at _).mono ?_; rintro e w' ⟨rfl, rfl⟩) | (refine (K.readListBegin (w := w1.drew) (h.fresh hk0.drew)).mono ?_; rintro e w2 ⟨t, n, ev, rfl, hp, hv⟩; have HP := hdd hp; have HV := hdd hv; have HG2 := hdd ((hp.keep.block (n0 + 1 + 1) (by simpa using lt_of_heap HG.out) (fun x => by have := HM.out _ x; have := HN.out; omega)).trans HG.out); clear hp hv; obtain ⟨x0, x1, x2, x3, x4, x5, x6⟩ := got_cells HG2.out; obtain ⟨y0, y1, y2, y3, y4, y5, y6⟩ := got_free HG2.out))
 all_goals
  have hG3 := heap_set_same (i := 3) HG2.out (.int .i64 n)
  have hk3 : Keep (fun i => n0 ≤ i ∧ i < n0 + 3) w2 (w2.setCell ⟨n0 + 1 + 1, 3, none⟩ (.int .i64 n)) := (Keep.refl _ w2).set (n0 + 1 + 1) 3 (fun _ => by omega) _
  have hR3 : (w2.setCell ⟨n0 + 1 + 1, 3, none⟩ (.int .i64 n)).heap[n0 + 1]? = some (.cells zGot 139 (0, 0)) := (heap_set_other (p := ⟨n0 + 1 + 1, 3, none⟩) _ (by simp)).trans ((HP.out.keep.block (n0 + 1) (by simpa using lt_of_heap HR.out) (fun x => by have := HM.out _ x; have := HN.out; omega)).trans HR.out)
  clear x0 x1 x2 x3 x4 x5 x6 y0 y1 y2 y3 y4 y5 y6 u0 u1 u2 u3 u4 u5 u6 f0 f1 f2 f3 f4 f5 f6
  generalize w2.setCell ⟨n0 + 1 + 1, 3, none⟩ (.int .i64 n) = w3 at *
  have hG4 : w3.heap[n0 + 1 + 1]? = some (.cells (gotA 0 0 0 n 0 0 nilB) 139 (0, 0)) := hG3
  obtain ⟨x0, x1, x2, x3, x4, x5, x6⟩ := got_cells hG4
  obtain ⟨y0, y1, y2, y3, y4, y5, y6⟩ := got_free hG4
  obtain ⟨r0, r1, r2, r3, r4, r5, r6⟩ := got_cells hR3
  obtain ⟨z0, z1, z2, z3, z4, z5, z6⟩ := got_free hR3
  have HG4 := hdd hG4
  have HR3 := hdd hR3
  clear hG3 hG4 hR3
  go_wp2_with fail
  have hn0 := HN.out
  have hs1 := HS.out
  have hR4 : ((w3.setCell ⟨n0 + 1 + 1, 1, none⟩ (.int .i64 (wrap64 t))).setCell ⟨n0 + 1 + 1, 2, none⟩ (.int .i64 0)).heap[n0 + 1]? = some (.cells zGot 139 (0, 0)) := (heap_set_other (p := ⟨n0 + 1 + 1, 2, none⟩) _ (by simp)).trans ((heap_set_other (p := ⟨n0 + 1 + 1, 1, none⟩) _ (by simp)).trans HR3.out)
  have hkN : Keep (fun i => n0 ≤ i ∧ i < n0 + 3) w2 ((w3.setCell ⟨n0 + 1 + 1, 1, none⟩ (.int .i64 (wrap64 t))).setCell ⟨n0 + 1 + 1, 2, none⟩ (.int .i64 0)) := (hk3.set (n0 + 1 + 1) 1 (fun _ => by omega) _).set (n0 + 1 + 1) 2 (fun _ => by omega) _
  have hkW := got_keep hkN (U := n0 + 1) (fun _ => by omega) 0 (wrap64 t) 0 n 0 0 nilB
  refine ret_cell2 (U := n0 + 1) (T := 139) Tryz.results85 rfl rfl rfl (got_set hR4 _ _ _ _ _ _ _) Tryz.underlying139 igot_size ?_
  refine ⟨wrap64 t, n, ev, rfl, Rp.through h hk0.drew HP.out hkW (fun i hi => by simp; omega), fun hz => ?_⟩
  obtain ⟨e1, e2⟩ := HV.out hz
  exact ⟨by rw [e1]; exact Rp.lT_w K s, e2⟩
set_option maxRecDepth 100000 in
theorem Rp.begun11 {St : Type} (K : Rp.Ctx St) (s : St) (w : World) (h : K.Inv s w) :
  Calls Tryz.prog 85 #[K.V, .agg (stepI 11)] w (Rp.BegP K w s) := by
 obtain ⟨hnam, hna, hnac⟩ := K.mTb
 have hk0 : Keep (fun _ => False) w (((w.alloc (.cells (stepI 11) 95 (0, 0))).alloc (.cells zGot 139 (0, 0))).alloc (.cells zGot 139 (0, 0))) := (((Keep.refl _ w).alloc _).alloc _).alloc _
 have hR0 : (((w.alloc (.cells (stepI 11) 95 (0, 0))).alloc (.cells zGot 139 (0, 0))).alloc (.cells zGot 139 (0, 0))).heap[w.heap.size + 1]? = some (.cells zGot 139 (0, 0)) := (Below.heap_alloc _ _ _ (by simp)).trans (heap_alloc_at (by simp) _)
 have hG0 : (((w.alloc (.cells (stepI 11) 95 (0, 0))).alloc (.cells zGot 139 (0, 0))).alloc (.cells zGot 139 (0, 0))).heap[w.heap.size + 1 + 1]? = some (.cells zGot 139 (0, 0)) := heap_alloc_at (by simp) _
 have hs0 : (((w.alloc (.cells (stepI 11) 95 (0, 0))).alloc (.cells zGot 139 (0, 0))).alloc (.cells zGot 139 (0, 0))).heap.size = w.heap.size + 3 := by simp
 go_enter Tryz.func85, Tryz.ntmps85
 go_wp2_with fail
 obtain ⟨n0, hn⟩ : ∃ n0, w.heap.size = n0 := ⟨_, rfl⟩
 rw [hn] at hR0 hG0 hs0 ⊢
 generalize ((w.alloc (.cells (stepI 11) 95 (0, 0))).alloc (.cells zGot 139 (0, 0))).alloc (.cells zGot 139 (0, 0)) = w1 at *
 have HN := hdd hn
 have HR := hdd hR0
 have HG := hdd hG0
 have HS := hdd hs0
 have HM := hdd (Rp.M_new h hk0)
 obtain ⟨u0, u1, u2, u3, u4, u5, u6⟩ := got_cells hG0
 obtain ⟨f0, f1, f2, f3, f4, f5, f6⟩ := got_free hG0
 clear hn hR0 hG0 hs0
 go_region_with (first | (go_at_call 28; refine (ctx_at _).mono ?_; rintro e w' ⟨rfl, rfl⟩) | (refine (K.readSetBegin (w := w1.drew) (h.fresh hk0.drew)).mono ?_; rintro e w2 ⟨t, n, ev, rfl, hp, hv⟩; have HP := hdd hp; have HV := hdd hv; have HG2 := hdd ((hp.keep.block (n0 + 1 + 1) (by simpa using lt_of_heap HG.out) (fun x => by have := HM.out _ x; have := HN.out; omega)).trans HG.out); clear hp hv; obtain ⟨x0, x1, x2, x3, x4, x5, x6⟩ := got_cells HG2.out; obtain ⟨y0, y1, y2, y3, y4, y5, y6⟩ := got_free HG2.out))
 all_goals
  have hG3 := heap_set_same (i := 3) HG2.out (.int .i64 n)
  have hk3 : Keep (fun i => n0 ≤ i ∧ i < n0 + 3) w2 (w2.setCell ⟨n0 + 1 + 1, 3, none⟩ (.int .i64 n)) := (Keep.refl _ w2).set (n0 + 1 + 1) 3 (fun _ => by omega) _
  have hR3 : (w2.setCell ⟨n0 + 1 + 1, 3, none⟩ (.int .i64 n)).heap[n0 + 1]? = some (.cells zGot 139 (0, 0)) := (heap_set_other (p := ⟨n0 + 1 + 1, 3, none⟩) _ (by simp)).trans ((HP.out.keep.block (n0 + 1) (by simpa using lt_of_heap HR.out) (fun x => by have := HM.out _ x; have := HN.out; omega)).trans HR.out)
  clear x0 x1 x2 x3 x4 x5 x6 y0 y1 y2 y3 y4 y5 y6 u0 u1 u2 u3 u4 u5 u6 f0 f1 f2 f3 f4 f5 f6
  generalize w2.setCell ⟨n0 + 1 + 1, 3, none⟩ (.int .i64 n) = w3 at *
  have hG4 : w3.heap[n0 + 1 + 1]? = some (.cells (gotA 0 0 0 n 0 0 nilB) 139 (0, 0)) := hG3
  obtain ⟨x0, x1, x2, x3, x4, x5, x6⟩ := got_cells hG4
  obtain ⟨y0, y1, y2, y3, y4, y5, y6⟩ := got_free hG4
  obtain ⟨r0, r1, r2, r3, r4, r5, r6⟩ := got_cells hR3
  obtain ⟨z0, z1, z2, z3, z4, z5, z6⟩ := got_free hR3
  have HG4 := hdd hG4
  have HR3 := hdd hR3
  clear hG3 hG4 hR3
  go_wp2_with fail
  have hn0 := HN.out
  have hs1 := HS.out
  have hR4 : ((w3.setCell ⟨n0 + 1 + 1, 1, none⟩ (.int .i64 (wrap64 t))).setCell ⟨n0 + 1 + 1, 2, none⟩ (.int .i64 0)).heap[n0 + 1]? = some (.cells zGot 139 (0, 0)) := (heap_set_other (p := ⟨n0 + 1 + 1, 2, none⟩) _ (by simp)).trans ((heap_set_other (p := ⟨n0 + 1 + 1, 1, none⟩) _ (by simp)).trans HR3.out)
  have hkN : Keep (fun i => n0 ≤ i ∧ i < n0 + 3) w2 ((w3.setCell ⟨n0 + 1 + 1, 1, none⟩ (.int .i64 (wrap64 t))).setCell ⟨n0 + 1 + 1, 2, none⟩ (.int .i64 0)) := (hk3.set (n0 + 1 + 1) 1 (fun _ => by omega) _).set (n0 + 1 + 1) 2 (fun _ => by omega) _
  have hkW := got_keep hkN (U := n0 + 1) (fun _ => by omega) 0 (wrap64 t) 0 n 0 0 nilB
  refine ret_cell2 (U := n0 + 1) (T := 139) Tryz.results85 rfl rfl rfl (got_set hR4 _ _ _ _ _ _ _) Tryz.underlying139 igot_size ?_
  refine ⟨wrap64 t, n, ev, rfl, Rp.through h hk0.drew HP.out hkW (fun i hi => by simp; omega), fun hz => ?_⟩
  obtain ⟨e1, e2⟩ := HV.out hz
  exact ⟨by rw [e1]; exact Rp.lT_w K s, e2⟩
set_option maxRecDepth 100000 in
theorem Rp.begun10 {St : Type} (K : Rp.Ctx St) (s : St) (w : World) (h : K.Inv s w) :
  Calls Tryz.prog 85 #[K.V, .agg (stepI 10)] w fun e w' => ∃ v, e = .returned (.tuple #[v, .nilIface]) ∧ Rp.Post K w w' 0 .nilIface (K.pr.leS s) := by
 obtain ⟨hnam, hna, hnac⟩ := K.mLe
 have hk0 : Keep (fun _ => False) w (((w.alloc (.cells (stepI 10) 95 (0, 0))).alloc (.cells zGot 139 (0, 0))).alloc (.cells zGot 139 (0, 0))) := (((Keep.refl _ w).alloc _).alloc _).alloc _
 have hR0 : (((w.alloc (.cells (stepI 10) 95 (0, 0))).alloc (.cells zGot 139 (0, 0))).alloc (.cells zGot 139 (0, 0))).heap[w.heap.size + 1]? = some (.cells zGot 139 (0, 0)) := (Below.heap_alloc _ _ _ (by simp)).trans (heap_alloc_at (by simp) _)
 have hG0 : (((w.alloc (.cells (stepI 10) 95 (0, 0))).alloc (.cells zGot 139 (0, 0))).alloc (.cells zGot 139 (0, 0))).heap[w.heap.size + 1 + 1]? = some (.cells zGot 139 (0, 0)) := heap_alloc_at (by simp) _
 have hs0 : (((w.alloc (.cells (stepI 10) 95 (0, 0))).alloc (.cells zGot 139 (0, 0))).alloc (.cells zGot 139 (0, 0))).heap.size = w.heap.size + 3 := by simp
 go_enter Tryz.func85, Tryz.ntmps85
 go_wp2_with fail
 obtain ⟨n0, hn⟩ : ∃ n0, w.heap.size = n0 := ⟨_, rfl⟩
 rw [hn] at hR0 hG0 hs0 ⊢
 generalize ((w.alloc (.cells (stepI 10) 95 (0, 0))).alloc (.cells zGot 139 (0, 0))).alloc (.cells zGot 139 (0, 0)) = w1 at *
 have HN := hdd hn
 have HR := hdd hR0
 have HG := hdd hG0
 have HS := hdd hs0
 have HM := hdd (Rp.M_new h hk0)
 obtain ⟨u0, u1, u2, u3, u4, u5, u6⟩ := got_cells hG0
 obtain ⟨f0, f1, f2, f3, f4, f5, f6⟩ := got_free hG0
 clear hn hR0 hG0 hs0
 go_region_with (first | (go_at_call 28; refine (ctx_at _).mono ?_; rintro e w' ⟨rfl, rfl⟩) | (refine (K.readListEnd (w := w1.drew) (h.fresh hk0.drew)).mono ?_; rintro e w2 ⟨rfl, hp⟩; have HP := hdd hp; have HG2 := hdd ((hp.keep.block (n0 + 1 + 1) (by simpa using lt_of_heap HG.out) (fun x => by have := HM.out _ x; have := HN.out; omega)).trans HG.out); clear hp; obtain ⟨x0, x1, x2, x3, x4, x5, x6⟩ := got_cells HG2.out; obtain ⟨y0, y1, y2, y3, y4, y5, y6⟩ := got_free HG2.out))
 all_goals
  have hG3 := HG2.out
  have hk3 : Keep (fun i => n0 ≤ i ∧ i < n0 + 3) w2 w2 := Keep.refl _ w2
  have hR3 : w2.heap[n0 + 1]? = some (.cells zGot 139 (0, 0)) := ((HP.out.keep.block (n0 + 1) (by simpa using lt_of_heap HR.out) (fun x => by have := HM.out _ x; have := HN.out; omega)).trans HR.out)
  clear x0 x1 x2 x3 x4 x5 x6 y0 y1 y2 y3 y4 y5 y6 u0 u1 u2 u3 u4 u5 u6 f0 f1 f2 f3 f4 f5 f6
  obtain ⟨w3, hw3⟩ : ∃ w3, w2 = w3 := ⟨_, rfl⟩
  have HW3 := hdd hw3
  rw [hw3] at hG3 hk3 hR3 ⊢
  have hk3 : Keep (fun i => n0 ≤ i ∧ i < n0 + 3) w2 w3 := hw3 ▸ Keep.refl _ w2
  clear hw3
  have hG4 : w3.heap[n0 + 1 + 1]? = some (.cells (gotA 0 0 0 0 0 0 nilB) 139 (0, 0)) := hG3
  obtain ⟨x0, x1, x2, x3, x4, x5, x6⟩ := got_cells hG4
  obtain ⟨y0, y1, y2, y3, y4, y5, y6⟩ := got_free hG4
  obtain ⟨r0, r1, r2, r3, r4, r5, r6⟩ := got_cells hR3
  obtain ⟨z0, z1, z2, z3, z4, z5, z6⟩ := got_free hR3
  have HG4 := hdd hG4
  have HR3 := hdd hR3
  clear hG3 hG4 hR3
  go_wp2_with fail
  have hn0 := HN.out
  have hs1 := HS.out
  have hR4 : ((w3.setCell ⟨n0 + 1 + 1, 1, none⟩ (.int .i64 0)).setCell ⟨n0 + 1 + 1, 2, none⟩ (.int .i64 0)).heap[n0 + 1]? = some (.cells zGot 139 (0, 0)) := (heap_set_other (p := ⟨n0 + 1 + 1, 2, none⟩) _ (by simp)).trans ((heap_set_other (p := ⟨n0 + 1 + 1, 1, none⟩) _ (by simp)).trans HR3.out)
  have hkN : Keep (fun i => n0 ≤ i ∧ i < n0 + 3) w2 ((w3.setCell ⟨n0 + 1 + 1, 1, none⟩ (.int .i64 0)).setCell ⟨n0 + 1 + 1, 2, none⟩ (.int .i64 0)) := (hk3.set (n0 + 1 + 1) 1 (fun _ => by omega) _).set (n0 + 1 + 1) 2 (fun _ => by omega) _
  have hkW := got_keep hkN (U := n0 + 1) (fun _ => by omega) 0 0 0 0 0 0 nilB
  refine ret_cell2 (U := n0 + 1) (T := 139) Tryz.results85 rfl rfl rfl (got_set hR4 _ _ _ _ _ _ _) Tryz.underlying139 igot_size ?_
  exact ⟨_, rfl, Rp.through h hk0.drew HP.out hkW (fun i hi => by simp; omega)⟩
set_option maxRecDepth 100000 in
theorem Rp.begun12 {St : Type} (K : Rp.Ctx St) (s : St) (w : World) (h : K.Inv s w) :
  Calls Tryz.prog 85 #[K.V, .agg (stepI 12)] w fun e w' => ∃ v, e = .returned (.tuple #[v, .nilIface]) ∧ Rp.Post K w w' 0 .nilIface (K.pr.leS s) := by
 obtain ⟨hnam, hna, hnac⟩ := K.mTe
 have hk0 : Keep (fun _ => False) w (((w.alloc (.cells (stepI 12) 95 (0, 0))).alloc (.cells zGot 139 (0, 0))).alloc (.cells zGot 139 (0, 0))) := (((Keep.refl _ w).alloc _).alloc _).alloc _
 have hR0 : (((w.alloc (.cells (stepI 12) 95 (0, 0))).alloc (.cells zGot 139 (0, 0))).alloc (.cells zGot 139 (0, 0))).heap[w.heap.size + 1]? = some (.cells zGot 139 (0, 0)) := (Below.heap_alloc _ _ _ (by simp)).trans (heap_alloc_at (by simp) _)
 have hG0 : (((w.alloc (.cells (stepI 12) 95 (0, 0))).alloc (.cells zGot 139 (0, 0))).alloc (.cells zGot 139 (0, 0))).heap[w.heap.size + 1 + 1]? = some (.cells zGot 139 (0, 0)) := heap_alloc_at (by simp) _
 have hs0 : (((w.alloc (.cells (stepI 12) 95 (0, 0))).alloc (.cells zGot 139 (0, 0))).alloc (.cells zGot 139 (0, 0))).heap.size = w.heap.size + 3 := by simp
 go_enter Tryz.func85, Tryz.ntmps85
 go_wp2_with fail
 obtain ⟨n0, hn⟩ : ∃ n0, w.heap.size = n0 := ⟨_, rfl⟩
 rw [hn] at hR0 hG0 hs0 ⊢
 generalize ((w.alloc (.cells (stepI 12) 95 (0, 0))).alloc (.cells zGot 139 (0, 0))).alloc (.cells zGot 139 (0, 0)) = w1 at *
 have HN := hdd hn
 have HR := hdd hR0
 have HG := hdd hG0
 have HS := hdd hs0
 have HM := hdd (Rp.M_new h hk0)
 obtain ⟨u0, u1, u2, u3, u4, u5, u6⟩ := got_cells hG0
 obtain ⟨f0, f1, f2, f3, f4, f5, f6⟩ := got_free hG0
 clear hn hR0 hG0 hs0
 go_region_with (first | (go_at_call 28; refine (ctx_at _).mono ?_; rintro e w' ⟨rfl, rfl⟩) | (refine (K.readSetEnd (w := w1.drew) (h.fresh hk0.drew)).mono ?_; rintro e w2 ⟨rfl, hp⟩; have HP := hdd hp; have HG2 := hdd ((hp.keep.block (n0 + 1 + 1) (by simpa using lt_of_heap HG.out) (fun x => by have := HM.out _ x; have := HN.out; omega)).trans HG.out); clear hp; obtain ⟨x0, x1, x2, x3, x4, x5, x6⟩ := got_cells HG2.out; obtain ⟨y0, y1, y2, y3, y4, y5, y6⟩ := got_free HG2.out))
 all_goals
  have hG3 := HG2.out
  have hk3 : Keep (fun i => n0 ≤ i ∧ i < n0 + 3) w2 w2 := Keep.refl _ w2
  have hR3 : w2.heap[n0 + 1]? = some (.cells zGot 139 (0, 0)) := ((HP.out.keep.block (n0 + 1) (by simpa using lt_of_heap HR.out) (fun x => by have := HM.out _ x; have := HN.out; omega)).trans HR.out)
  clear x0 x1 x2 x3 x4 x5 x6 y0 y1 y2 y3 y4 y5 y6 u0 u1 u2 u3 u4 u5 u6 f0 f1 f2 f3 f4 f5 f6
  obtain ⟨w3, hw3⟩ : ∃ w3, w2 = w3 := ⟨_, rfl⟩
  have HW3 := hdd hw3
  rw [hw3] at hG3 hk3 hR3 ⊢
  have hk3 : Keep (fun i => n0 ≤ i ∧ i < n0 + 3) w2 w3 := hw3 ▸ Keep.refl _ w2
  clear hw3
  have hG4 : w3.heap[n0 + 1 + 1]? = some (.cells (gotA 0 0 0 0 0 0 nilB) 139 (0, 0)) := hG3
  obtain ⟨x0, x1, x2, x3, x4, x5, x6⟩ := got_cells hG4
  obtain ⟨y0, y1, y2, y3, y4, y5, y6⟩ := got_free hG4
  obtain ⟨r0, r1, r2, r3, r4, r5, r6⟩ := got_cells hR3
  obtain ⟨z0, z1, z2, z3, z4, z5, z6⟩ := got_free hR3
  have HG4 := hdd hG4
  have HR3 := hdd hR3
  clear hG3 hG4 hR3
  go_wp2_with fail
  have hn0 := HN.out
  have hs1 := HS.out
  have hR4 : ((w3.setCell ⟨n0 + 1 + 1, 1, none⟩ (.int .i64 0)).setCell ⟨n0 + 1 + 1, 2, none⟩ (.int .i64 0)).heap[n0 + 1]? = some (.cells zGot 139 (0, 0)) := (heap_set_other (p := ⟨n0 + 1 + 1, 2, none⟩) _ (by simp)).trans ((heap_set_other (p := ⟨n0 + 1 + 1, 1, none⟩) _ (by simp)).trans HR3.out)
  have hkN : Keep (fun i => n0 ≤ i ∧ i < n0 + 3) w2 ((w3.setCell ⟨n0 + 1 + 1, 1, none⟩ (.int .i64 0)).setCell ⟨n0 + 1 + 1, 2, none⟩ (.int .i64 0)) := (hk3.set (n0 + 1 + 1) 1 (fun _ => by omega) _).set (n0 + 1 + 1) 2 (fun _ => by omega) _
  have hkW := got_keep hkN (U := n0 + 1) (fun _ => by omega) 0 0 0 0 0 0 nilB
  refine ret_cell2 (U := n0 + 1) (T := 139) Tryz.results85 rfl rfl rfl (got_set hR4 _ _ _ _ _ _ _) Tryz.underlying139 igot_size ?_
  exact ⟨_, rfl, Rp.through h hk0.drew HP.out hkW (fun i hi => by simp; omega)⟩
theorem gseq_ok {σ : Type} {f : σ → Int × σ × V} {n : Nat} {s : σ} {l : List V} (h : (f s).1 = 0) : gseq f (n + 1) s l = gseq f n (f s).2.1 (l ++ [(f s).2.2]) := by show (if _ then _ else _) = _; rw [if_pos h]
theorem gseq_bad {σ : Type} {f : σ → Int × σ × V} {n : Nat} {s : σ} {l : List V} (h : ¬ (f s).1 = 0) : gseq f (n + 1) s l = ((f s).1, (f s).2.1, l) := by show (if _ then _ else _) = _; rw [if_neg h]
theorem gend_ok {σ : Type} {g : σ → σ} {mk : List V → V} {r : Int × σ × List V} (h : r.1 = 0) : gend g mk r = (0, g r.2.1, mk r.2.2) := by show (if _ then _ else _) = _; rw [if_pos h]
theorem gend_bad {σ : Type} {g : σ → σ} {mk : List V → V} {r : Int × σ × List V} (h : ¬ r.1 = 0) : gend g mk r = (r.1, r.2.1, V.zero) := by show (if _ then _ else _) = _; rw [if_neg h]
theorem gpairs_ok {σ : Type} {f g : σ → Int × σ × V} {n : Nat} {s : σ} {l : List V} (h : (f s).1 = 0) (h2 : (g (f s).2.1).1 = 0) : gpairs f g (n + 1) s l = gpairs f g n (g (f s).2.1).2.1 (l ++ [(f s).2.2] ++ [(g (f s).2.1).2.2]) := by
 simp only [gpairs]
 rw [if_pos h, if_pos h2]
 try simp
theorem gpairs_bad1 {σ : Type} {f g : σ → Int × σ × V} {n : Nat} {s : σ} {l : List V} (h : ¬ (f s).1 = 0) : gpairs f g (n + 1) s l = ((f s).1, (f s).2.1, l) := by
 simp only [gpairs]
 rw [if_neg h]
theorem gpairs_bad2 {σ : Type} {f g : σ → Int × σ × V} {n : Nat} {s : σ} {l : List V} (h : (f s).1 = 0) (h2 : ¬ (g (f s).2.1).1 = 0) : ∃ l', gpairs f g (n + 1) s l = ((g (f s).2.1).1, (g (f s).2.1).2.1, l') := by
 simp only [gpairs]
 rw [if_pos h, if_neg h2]
 exact ⟨_, rfl⟩
theorem gflds_stop {σ : Type} {p : Pr σ} {f : Int → σ → Int × σ × V} {n : Nat} {s : σ} {ids : List Int} {l : List V} (h : p.fK s = 0) (h2 : p.fT s = 0) : gflds p f (n + 1) s ids l = (0, p.seS (p.fS s), .mk 12 0 [] 0 0 ids l) := by
 simp only [gflds]; rw [if_pos h, if_pos h2]
theorem gflds_ok {σ : Type} {p : Pr σ} {f : Int → σ → Int × σ × V} {n : Nat} {s : σ} {ids : List Int} {l : List V} (h : p.fK s = 0) (h2 : ¬ p.fT s = 0) (h3 : (f (p.fT s) (p.fS s)).1 = 0) : gflds p f (n + 1) s ids l = gflds p f n (p.feS (f (p.fT s) (p.fS s)).2.1) (ids ++ [p.fI s]) (l ++ [(f (p.fT s) (p.fS s)).2.2]) := by
 simp only [gflds]; rw [if_pos h, if_neg h2, if_pos h3]
theorem gflds_bad {σ : Type} {p : Pr σ} {f : Int → σ → Int × σ × V} {n : Nat} {s : σ} {ids : List Int} {l : List V} (h : p.fK s = 0) (h2 : ¬ p.fT s = 0) (h3 : ¬ (f (p.fT s) (p.fS s)).1 = 0) : gflds p f (n + 1) s ids l = ((f (p.fT s) (p.fS s)).1, (f (p.fT s) (p.fS s)).2.1, V.zero) := by
 simp only [gflds]; rw [if_pos h, if_neg h2, if_neg h3]
theorem gflds_err {σ : Type} {p : Pr σ} {f : Int → σ → Int × σ × V} {n : Nat} {s : σ} {ids : List Int} {l : List V} (h : ¬ p.fK s = 0) : gflds p f (n + 1) s ids l = (p.fK s, p.fS s, V.zero) := by
 simp only [gflds]; rw [if_neg h]
end Go.Proofs.YthehmlbolajljaaGreatDoor
