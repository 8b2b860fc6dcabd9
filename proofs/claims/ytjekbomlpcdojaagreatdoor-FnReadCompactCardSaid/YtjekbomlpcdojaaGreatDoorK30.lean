/- Part 30 of the proof: BegunJ, BegunJ2, BegunJ3, BegunJ4, ReadJ, Xt0, BegunJ5, BegunJ6. -/
import Derived.Test.YtjekbomlpcdojaaGreatDoorK10
import Derived.Test.YtjekbomlpcdojaaGreatDoorK28
import Derived.Test.YtjekbomlpcdojaaGreatDoorK29
import Derived.Test.YtjekbomlpcdojaaGreatDoorK15
import Derived.Test.YtjekbomlpcdojaaGreatDoorK18
import Derived.Deep.RegionWith
import Derived.Deep.Cut
import Derived.Deep.CutBlock
set_option linter.unusedVariables false
set_option linter.unusedSimpArgs false
set_option linter.unusedSectionVars false
set_option maxHeartbeats 16000000
namespace Go.Proofs.YtjekbomlpcdojaaGreatDoor
open Go Go.RowKit
def Rp.StP {St : Type} (K : Rp.Ctx St) (w : World) (k : Int) (s' : St) (T KT Z I N : Int) (S : List UInt8) (e : Ending) (w' : World) : Prop :=
 ∃ t kt z i n va vm vc ev, e = .returned (.tuple #[gotV 0 t kt z i n (.slice va vm vc), ev]) ∧ Rp.Post K w w' k ev s' ∧ (k = 0 → t = T ∧ kt = KT ∧ z = Z ∧ i = I ∧ n = N ∧ BytesAt (fun j => w.heap.size ≤ j ∧ ¬ K.M w' j) w' (.slice va vm vc) S)
def Rp.EndP {St : Type} (K : Rp.Ctx St) (w : World) (k : Int) (s' : St) (e : Ending) (w' : World) : Prop := ∃ ev, e = .returned ev ∧ Rp.Post K w w' k ev s'
set_option maxRecDepth 100000 in
theorem Rp.begunJ1 {St : Type} {a1 a2 a3 a4 a5 : Int} {sv : Value} (K : Rp.Ctx St) {fX : FuncId} (hm : Rp.Meth K.T K.P "ReadMessageEnd" fX) {k : Int} {s' : St} (s : St) (w : World) (h : K.Inv s w) (hc : ∀ W, Keep (fun _ => False) w W → Calls Tryz.prog fX #[.pointer (some ⟨K.P, 0, none⟩), ctxV] W (Rp.EndP K W k s')) :
  Calls Tryz.prog 134 #[K.V, .agg (stepJ 1 a1 a2 a3 a4 a5 sv)] w (Rp.StP K w k s' 0 0 0 0 0 []) := by
 obtain ⟨hnam, hna, hnac⟩ := hm
 have hk0 : Keep (fun _ => False) w (((w.alloc (.cells (stepJ 1 a1 a2 a3 a4 a5 sv) 63 (0, 0))).alloc (.cells zGot 145 (0, 0))).alloc (.cells zGot 145 (0, 0))) := (((Keep.refl _ w).alloc _).alloc _).alloc _
 have hR0 : (((w.alloc (.cells (stepJ 1 a1 a2 a3 a4 a5 sv) 63 (0, 0))).alloc (.cells zGot 145 (0, 0))).alloc (.cells zGot 145 (0, 0))).heap[w.heap.size + 1]? = some (.cells zGot 145 (0, 0)) := (Below.heap_alloc _ _ _ (by simp)).trans (heap_alloc_at (by simp) _)
 have hG0 : (((w.alloc (.cells (stepJ 1 a1 a2 a3 a4 a5 sv) 63 (0, 0))).alloc (.cells zGot 145 (0, 0))).alloc (.cells zGot 145 (0, 0))).heap[w.heap.size + 1 + 1]? = some (.cells zGot 145 (0, 0)) := heap_alloc_at (by simp) _
 have hs0 : (((w.alloc (.cells (stepJ 1 a1 a2 a3 a4 a5 sv) 63 (0, 0))).alloc (.cells zGot 145 (0, 0))).alloc (.cells zGot 145 (0, 0))).heap.size = w.heap.size + 3 := by simp
 have HC := hdd hc
 clear hc
 go_enter Tryz.func134, Tryz.ntmps134
 go_wp2_with fail
 obtain ⟨n0, hn⟩ : ∃ n0, w.heap.size = n0 := ⟨_, rfl⟩
 rw [hn] at hR0 hG0 hs0 ⊢
 generalize ((w.alloc (.cells (stepJ 1 a1 a2 a3 a4 a5 sv) 63 (0, 0))).alloc (.cells zGot 145 (0, 0))).alloc (.cells zGot 145 (0, 0)) = w1 at *
 have HN := hdd hn
 have HR := hdd hR0
 have HG := hdd hG0
 have HS := hdd hs0
 have HM := hdd (Rp.M_new h hk0)
 obtain ⟨u0, u1, u2, u3, u4, u5, u6⟩ := got_cells hG0
 obtain ⟨f0, f1, f2, f3, f4, f5, f6⟩ := got_free hG0
 clear hn hR0 hG0 hs0
 go_region_with (first | (go_at_call 37; refine (ctx_at _).mono ?_; rintro e w' ⟨rfl, rfl⟩) | (refine (HC.out w1.drew hk0.drew).mono ?_; rintro e w2 ⟨ev, rfl, hp⟩; have HP := hdd hp; have HG2 := hdd ((hp.keep.block (n0 + 1 + 1) (by simpa using lt_of_heap HG.out) (fun x => by have := HM.out _ x; have := HN.out; omega)).trans HG.out); clear hp; obtain ⟨x0, x1, x2, x3, x4, x5, x6⟩ := got_cells HG2.out; obtain ⟨y0, y1, y2, y3, y4, y5, y6⟩ := got_free HG2.out))
 all_goals
  have hG3 := HG2.out
  have hR3 : w2.heap[n0 + 1]? = some (.cells zGot 145 (0, 0)) := ((HP.out.keep.block (n0 + 1) (by simpa using lt_of_heap HR.out) (fun x => by have := HM.out _ x; have := HN.out; omega)).trans HR.out)
  clear x0 x1 x2 x3 x4 x5 x6 y0 y1 y2 y3 y4 y5 y6 u0 u1 u2 u3 u4 u5 u6 f0 f1 f2 f3 f4 f5 f6
  obtain ⟨w3, hw3⟩ : ∃ w3, w2 = w3 := ⟨_, rfl⟩
  rw [hw3] at hG3 hR3 ⊢
  have hk3 : Keep (fun i => n0 ≤ i ∧ i < n0 + 3) w2 w3 := hw3 ▸ Keep.refl _ w2
  clear hw3
  have hG4 : w3.heap[n0 + 1 + 1]? = some (.cells (gotA 0 0 0 0 0 0 nilB) 145 (0, 0)) := hG3
  obtain ⟨x0, x1, x2, x3, x4, x5, x6⟩ := got_cells hG4
  obtain ⟨y0, y1, y2, y3, y4, y5, y6⟩ := got_free hG4
  obtain ⟨r0, r1, r2, r3, r4, r5, r6⟩ := got_cells hR3
  obtain ⟨z0, z1, z2, z3, z4, z5, z6⟩ := got_free hR3
  have HG4 := hdd hG4
  have HR3 := hdd hR3
  clear hG3 hG4 hR3
  go_wp2_with fail
  have hn0 := HN.out
  have hs1 := HS.out
  have hR4 : ((w3.setCell ⟨n0 + 1 + 1, 1, none⟩ (.int .i64 0)).setCell ⟨n0 + 1 + 1, 2, none⟩ (.int .i64 0)).heap[n0 + 1]? = some (.cells zGot 145 (0, 0)) := (heap_set_other (p := ⟨n0 + 1 + 1, 2, none⟩) _ (by simp)).trans ((heap_set_other (p := ⟨n0 + 1 + 1, 1, none⟩) _ (by simp)).trans HR3.out)
  have hkN : Keep (fun i => n0 ≤ i ∧ i < n0 + 3) w2 ((w3.setCell ⟨n0 + 1 + 1, 1, none⟩ (.int .i64 0)).setCell ⟨n0 + 1 + 1, 2, none⟩ (.int .i64 0)) := (hk3.set (n0 + 1 + 1) 1 (fun _ => by omega) _).set (n0 + 1 + 1) 2 (fun _ => by omega) _
  have hkW := got_keep hkN (U := n0 + 1) (fun _ => by omega) 0 0 0 0 0 0 nilB
  refine ret_cell2 (U := n0 + 1) (T := 145) Tryz.results134 rfl rfl rfl (got_set hR4 _ _ _ _ _ _ _) Tryz.underlying145 igot_size ?_
  exact ⟨0, 0, 0, 0, 0, none, 0, 0, ev, rfl, Rp.through h hk0.drew HP.out hkW (fun i hi => by simp; omega), fun _ => ⟨rfl, rfl, rfl, rfl, rfl, .inl ⟨rfl, _, _, rfl⟩⟩⟩
set_option maxRecDepth 100000 in
theorem Rp.begunJ3 {St : Type} {a1 a2 a3 a4 a5 : Int} {sv : Value} (K : Rp.Ctx St) {fX : FuncId} (hm : Rp.Meth K.T K.P "ReadStructEnd" fX) {k : Int} {s' : St} (s : St) (w : World) (h : K.Inv s w) (hc : ∀ W, Keep (fun _ => False) w W → Calls Tryz.prog fX #[.pointer (some ⟨K.P, 0, none⟩), ctxV] W (Rp.EndP K W k s')) :
  Calls Tryz.prog 134 #[K.V, .agg (stepJ 3 a1 a2 a3 a4 a5 sv)] w (Rp.StP K w k s' 0 0 0 0 0 []) := by
 obtain ⟨hnam, hna, hnac⟩ := hm
 have hk0 : Keep (fun _ => False) w (((w.alloc (.cells (stepJ 3 a1 a2 a3 a4 a5 sv) 63 (0, 0))).alloc (.cells zGot 145 (0, 0))).alloc (.cells zGot 145 (0, 0))) := (((Keep.refl _ w).alloc _).alloc _).alloc _
 have hR0 : (((w.alloc (.cells (stepJ 3 a1 a2 a3 a4 a5 sv) 63 (0, 0))).alloc (.cells zGot 145 (0, 0))).alloc (.cells zGot 145 (0, 0))).heap[w.heap.size + 1]? = some (.cells zGot 145 (0, 0)) := (Below.heap_alloc _ _ _ (by simp)).trans (heap_alloc_at (by simp) _)
 have hG0 : (((w.alloc (.cells (stepJ 3 a1 a2 a3 a4 a5 sv) 63 (0, 0))).alloc (.cells zGot 145 (0, 0))).alloc (.cells zGot 145 (0, 0))).heap[w.heap.size + 1 + 1]? = some (.cells zGot 145 (0, 0)) := heap_alloc_at (by simp) _
 have hs0 : (((w.alloc (.cells (stepJ 3 a1 a2 a3 a4 a5 sv) 63 (0, 0))).alloc (.cells zGot 145 (0, 0))).alloc (.cells zGot 145 (0, 0))).heap.size = w.heap.size + 3 := by simp
 have HC := hdd hc
 clear hc
 go_enter Tryz.func134, Tryz.ntmps134
 go_wp2_with fail
 obtain ⟨n0, hn⟩ : ∃ n0, w.heap.size = n0 := ⟨_, rfl⟩
 rw [hn] at hR0 hG0 hs0 ⊢
 generalize ((w.alloc (.cells (stepJ 3 a1 a2 a3 a4 a5 sv) 63 (0, 0))).alloc (.cells zGot 145 (0, 0))).alloc (.cells zGot 145 (0, 0)) = w1 at *
 have HN := hdd hn
 have HR := hdd hR0
 have HG := hdd hG0
 have HS := hdd hs0
 have HM := hdd (Rp.M_new h hk0)
 obtain ⟨u0, u1, u2, u3, u4, u5, u6⟩ := got_cells hG0
 obtain ⟨f0, f1, f2, f3, f4, f5, f6⟩ := got_free hG0
 clear hn hR0 hG0 hs0
 go_region_with (first | (go_at_call 37; refine (ctx_at _).mono ?_; rintro e w' ⟨rfl, rfl⟩) | (refine (HC.out w1.drew hk0.drew).mono ?_; rintro e w2 ⟨ev, rfl, hp⟩; have HP := hdd hp; have HG2 := hdd ((hp.keep.block (n0 + 1 + 1) (by simpa using lt_of_heap HG.out) (fun x => by have := HM.out _ x; have := HN.out; omega)).trans HG.out); clear hp; obtain ⟨x0, x1, x2, x3, x4, x5, x6⟩ := got_cells HG2.out; obtain ⟨y0, y1, y2, y3, y4, y5, y6⟩ := got_free HG2.out))
 all_goals
  have hG3 := HG2.out
  have hR3 : w2.heap[n0 + 1]? = some (.cells zGot 145 (0, 0)) := ((HP.out.keep.block (n0 + 1) (by simpa using lt_of_heap HR.out) (fun x => by have := HM.out _ x; have := HN.out; omega)).trans HR.out)
  clear x0 x1 x2 x3 x4 x5 x6 y0 y1 y2 y3 y4 y5 y6 u0 u1 u2 u3 u4 u5 u6 f0 f1 f2 f3 f4 f5 f6
  obtain ⟨w3, hw3⟩ : ∃ w3, w2 = w3 := ⟨_, rfl⟩
  rw [hw3] at hG3 hR3 ⊢
  have hk3 : Keep (fun i => n0 ≤ i ∧ i < n0 + 3) w2 w3 := hw3 ▸ Keep.refl _ w2
  clear hw3
  have hG4 : w3.heap[n0 + 1 + 1]? = some (.cells (gotA 0 0 0 0 0 0 nilB) 145 (0, 0)) := hG3
  obtain ⟨x0, x1, x2, x3, x4, x5, x6⟩ := got_cells hG4
  obtain ⟨y0, y1, y2, y3, y4, y5, y6⟩ := got_free hG4
  obtain ⟨r0, r1, r2, r3, r4, r5, r6⟩ := got_cells hR3
  obtain ⟨z0, z1, z2, z3, z4, z5, z6⟩ := got_free hR3
  have HG4 := hdd hG4
  have HR3 := hdd hR3
  clear hG3 hG4 hR3
  go_wp2_with fail
  have hn0 := HN.out
  have hs1 := HS.out
  have hR4 : ((w3.setCell ⟨n0 + 1 + 1, 1, none⟩ (.int .i64 0)).setCell ⟨n0 + 1 + 1, 2, none⟩ (.int .i64 0)).heap[n0 + 1]? = some (.cells zGot 145 (0, 0)) := (heap_set_other (p := ⟨n0 + 1 + 1, 2, none⟩) _ (by simp)).trans ((heap_set_other (p := ⟨n0 + 1 + 1, 1, none⟩) _ (by simp)).trans HR3.out)
  have hkN : Keep (fun i => n0 ≤ i ∧ i < n0 + 3) w2 ((w3.setCell ⟨n0 + 1 + 1, 1, none⟩ (.int .i64 0)).setCell ⟨n0 + 1 + 1, 2, none⟩ (.int .i64 0)) := (hk3.set (n0 + 1 + 1) 1 (fun _ => by omega) _).set (n0 + 1 + 1) 2 (fun _ => by omega) _
  have hkW := got_keep hkN (U := n0 + 1) (fun _ => by omega) 0 0 0 0 0 0 nilB
  refine ret_cell2 (U := n0 + 1) (T := 145) Tryz.results134 rfl rfl rfl (got_set hR4 _ _ _ _ _ _ _) Tryz.underlying145 igot_size ?_
  exact ⟨0, 0, 0, 0, 0, none, 0, 0, ev, rfl, Rp.through h hk0.drew HP.out hkW (fun i hi => by simp; omega), fun _ => ⟨rfl, rfl, rfl, rfl, rfl, .inl ⟨rfl, _, _, rfl⟩⟩⟩
set_option maxRecDepth 100000 in
theorem Rp.begunJ5 {St : Type} {a1 a2 a3 a4 a5 : Int} {sv : Value} (K : Rp.Ctx St) {fX : FuncId} (hm : Rp.Meth K.T K.P "ReadFieldEnd" fX) {k : Int} {s' : St} (s : St) (w : World) (h : K.Inv s w) (hc : ∀ W, Keep (fun _ => False) w W → Calls Tryz.prog fX #[.pointer (some ⟨K.P, 0, none⟩), ctxV] W (Rp.EndP K W k s')) :
  Calls Tryz.prog 134 #[K.V, .agg (stepJ 5 a1 a2 a3 a4 a5 sv)] w (Rp.StP K w k s' 0 0 0 0 0 []) := by
 obtain ⟨hnam, hna, hnac⟩ := hm
 have hk0 : Keep (fun _ => False) w (((w.alloc (.cells (stepJ 5 a1 a2 a3 a4 a5 sv) 63 (0, 0))).alloc (.cells zGot 145 (0, 0))).alloc (.cells zGot 145 (0, 0))) := (((Keep.refl _ w).alloc _).alloc _).alloc _
 have hR0 : (((w.alloc (.cells (stepJ 5 a1 a2 a3 a4 a5 sv) 63 (0, 0))).alloc (.cells zGot 145 (0, 0))).alloc (.cells zGot 145 (0, 0))).heap[w.heap.size + 1]? = some (.cells zGot 145 (0, 0)) := (Below.heap_alloc _ _ _ (by simp)).trans (heap_alloc_at (by simp) _)
 have hG0 : (((w.alloc (.cells (stepJ 5 a1 a2 a3 a4 a5 sv) 63 (0, 0))).alloc (.cells zGot 145 (0, 0))).alloc (.cells zGot 145 (0, 0))).heap[w.heap.size + 1 + 1]? = some (.cells zGot 145 (0, 0)) := heap_alloc_at (by simp) _
 have hs0 : (((w.alloc (.cells (stepJ 5 a1 a2 a3 a4 a5 sv) 63 (0, 0))).alloc (.cells zGot 145 (0, 0))).alloc (.cells zGot 145 (0, 0))).heap.size = w.heap.size + 3 := by simp
 have HC := hdd hc
 clear hc
 go_enter Tryz.func134, Tryz.ntmps134
 go_wp2_with fail
 obtain ⟨n0, hn⟩ : ∃ n0, w.heap.size = n0 := ⟨_, rfl⟩
 rw [hn] at hR0 hG0 hs0 ⊢
 generalize ((w.alloc (.cells (stepJ 5 a1 a2 a3 a4 a5 sv) 63 (0, 0))).alloc (.cells zGot 145 (0, 0))).alloc (.cells zGot 145 (0, 0)) = w1 at *
 have HN := hdd hn
 have HR := hdd hR0
 have HG := hdd hG0
 have HS := hdd hs0
 have HM := hdd (Rp.M_new h hk0)
 obtain ⟨u0, u1, u2, u3, u4, u5, u6⟩ := got_cells hG0
 obtain ⟨f0, f1, f2, f3, f4, f5, f6⟩ := got_free hG0
 clear hn hR0 hG0 hs0
 go_region_with (first | (go_at_call 37; refine (ctx_at _).mono ?_; rintro e w' ⟨rfl, rfl⟩) | (refine (HC.out w1.drew hk0.drew).mono ?_; rintro e w2 ⟨ev, rfl, hp⟩; have HP := hdd hp; have HG2 := hdd ((hp.keep.block (n0 + 1 + 1) (by simpa using lt_of_heap HG.out) (fun x => by have := HM.out _ x; have := HN.out; omega)).trans HG.out); clear hp; obtain ⟨x0, x1, x2, x3, x4, x5, x6⟩ := got_cells HG2.out; obtain ⟨y0, y1, y2, y3, y4, y5, y6⟩ := got_free HG2.out))
 all_goals
  have hG3 := HG2.out
  have hR3 : w2.heap[n0 + 1]? = some (.cells zGot 145 (0, 0)) := ((HP.out.keep.block (n0 + 1) (by simpa using lt_of_heap HR.out) (fun x => by have := HM.out _ x; have := HN.out; omega)).trans HR.out)
  clear x0 x1 x2 x3 x4 x5 x6 y0 y1 y2 y3 y4 y5 y6 u0 u1 u2 u3 u4 u5 u6 f0 f1 f2 f3 f4 f5 f6
  obtain ⟨w3, hw3⟩ : ∃ w3, w2 = w3 := ⟨_, rfl⟩
  rw [hw3] at hG3 hR3 ⊢
  have hk3 : Keep (fun i => n0 ≤ i ∧ i < n0 + 3) w2 w3 := hw3 ▸ Keep.refl _ w2
  clear hw3
  have hG4 : w3.heap[n0 + 1 + 1]? = some (.cells (gotA 0 0 0 0 0 0 nilB) 145 (0, 0)) := hG3
  obtain ⟨x0, x1, x2, x3, x4, x5, x6⟩ := got_cells hG4
  obtain ⟨y0, y1, y2, y3, y4, y5, y6⟩ := got_free hG4
  obtain ⟨r0, r1, r2, r3, r4, r5, r6⟩ := got_cells hR3
  obtain ⟨z0, z1, z2, z3, z4, z5, z6⟩ := got_free hR3
  have HG4 := hdd hG4
  have HR3 := hdd hR3
  clear hG3 hG4 hR3
  go_wp2_with fail
  have hn0 := HN.out
  have hs1 := HS.out
  have hR4 : ((w3.setCell ⟨n0 + 1 + 1, 1, none⟩ (.int .i64 0)).setCell ⟨n0 + 1 + 1, 2, none⟩ (.int .i64 0)).heap[n0 + 1]? = some (.cells zGot 145 (0, 0)) := (heap_set_other (p := ⟨n0 + 1 + 1, 2, none⟩) _ (by simp)).trans ((heap_set_other (p := ⟨n0 + 1 + 1, 1, none⟩) _ (by simp)).trans HR3.out)
  have hkN : Keep (fun i => n0 ≤ i ∧ i < n0 + 3) w2 ((w3.setCell ⟨n0 + 1 + 1, 1, none⟩ (.int .i64 0)).setCell ⟨n0 + 1 + 1, 2, none⟩ (.int .i64 0)) := (hk3.set (n0 + 1 + 1) 1 (fun _ => by omega) _).set (n0 + 1 + 1) 2 (fun _ => by omega) _
  have hkW := got_keep hkN (U := n0 + 1) (fun _ => by omega) 0 0 0 0 0 0 nilB
  refine ret_cell2 (U := n0 + 1) (T := 145) Tryz.results134 rfl rfl rfl (got_set hR4 _ _ _ _ _ _ _) Tryz.underlying145 igot_size ?_
  exact ⟨0, 0, 0, 0, 0, none, 0, 0, ev, rfl, Rp.through h hk0.drew HP.out hkW (fun i hi => by simp; omega), fun _ => ⟨rfl, rfl, rfl, rfl, rfl, .inl ⟨rfl, _, _, rfl⟩⟩⟩
set_option maxRecDepth 100000 in
theorem Rp.begunJ8 {St : Type} {a1 a2 a3 a4 a5 : Int} {sv : Value} (K : Rp.Ctx St) {fX : FuncId} (hm : Rp.Meth K.T K.P "ReadMapEnd" fX) {k : Int} {s' : St} (s : St) (w : World) (h : K.Inv s w) (hc : ∀ W, Keep (fun _ => False) w W → Calls Tryz.prog fX #[.pointer (some ⟨K.P, 0, none⟩), ctxV] W (Rp.EndP K W k s')) :
  Calls Tryz.prog 134 #[K.V, .agg (stepJ 8 a1 a2 a3 a4 a5 sv)] w (Rp.StP K w k s' 0 0 0 0 0 []) := by
 obtain ⟨hnam, hna, hnac⟩ := hm
 have hk0 : Keep (fun _ => False) w (((w.alloc (.cells (stepJ 8 a1 a2 a3 a4 a5 sv) 63 (0, 0))).alloc (.cells zGot 145 (0, 0))).alloc (.cells zGot 145 (0, 0))) := (((Keep.refl _ w).alloc _).alloc _).alloc _
 have hR0 : (((w.alloc (.cells (stepJ 8 a1 a2 a3 a4 a5 sv) 63 (0, 0))).alloc (.cells zGot 145 (0, 0))).alloc (.cells zGot 145 (0, 0))).heap[w.heap.size + 1]? = some (.cells zGot 145 (0, 0)) := (Below.heap_alloc _ _ _ (by simp)).trans (heap_alloc_at (by simp) _)
 have hG0 : (((w.alloc (.cells (stepJ 8 a1 a2 a3 a4 a5 sv) 63 (0, 0))).alloc (.cells zGot 145 (0, 0))).alloc (.cells zGot 145 (0, 0))).heap[w.heap.size + 1 + 1]? = some (.cells zGot 145 (0, 0)) := heap_alloc_at (by simp) _
 have hs0 : (((w.alloc (.cells (stepJ 8 a1 a2 a3 a4 a5 sv) 63 (0, 0))).alloc (.cells zGot 145 (0, 0))).alloc (.cells zGot 145 (0, 0))).heap.size = w.heap.size + 3 := by simp
 have HC := hdd hc
 clear hc
 go_enter Tryz.func134, Tryz.ntmps134
 go_wp2_with fail
 obtain ⟨n0, hn⟩ : ∃ n0, w.heap.size = n0 := ⟨_, rfl⟩
 rw [hn] at hR0 hG0 hs0 ⊢
 generalize ((w.alloc (.cells (stepJ 8 a1 a2 a3 a4 a5 sv) 63 (0, 0))).alloc (.cells zGot 145 (0, 0))).alloc (.cells zGot 145 (0, 0)) = w1 at *
 have HN := hdd hn
 have HR := hdd hR0
 have HG := hdd hG0
 have HS := hdd hs0
 have HM := hdd (Rp.M_new h hk0)
 obtain ⟨u0, u1, u2, u3, u4, u5, u6⟩ := got_cells hG0
 obtain ⟨f0, f1, f2, f3, f4, f5, f6⟩ := got_free hG0
 clear hn hR0 hG0 hs0
 go_region_with (first | (go_at_call 37; refine (ctx_at _).mono ?_; rintro e w' ⟨rfl, rfl⟩) | (refine (HC.out w1.drew hk0.drew).mono ?_; rintro e w2 ⟨ev, rfl, hp⟩; have HP := hdd hp; have HG2 := hdd ((hp.keep.block (n0 + 1 + 1) (by simpa using lt_of_heap HG.out) (fun x => by have := HM.out _ x; have := HN.out; omega)).trans HG.out); clear hp; obtain ⟨x0, x1, x2, x3, x4, x5, x6⟩ := got_cells HG2.out; obtain ⟨y0, y1, y2, y3, y4, y5, y6⟩ := got_free HG2.out))
 all_goals
  have hG3 := HG2.out
  have hR3 : w2.heap[n0 + 1]? = some (.cells zGot 145 (0, 0)) := ((HP.out.keep.block (n0 + 1) (by simpa using lt_of_heap HR.out) (fun x => by have := HM.out _ x; have := HN.out; omega)).trans HR.out)
  clear x0 x1 x2 x3 x4 x5 x6 y0 y1 y2 y3 y4 y5 y6 u0 u1 u2 u3 u4 u5 u6 f0 f1 f2 f3 f4 f5 f6
  obtain ⟨w3, hw3⟩ : ∃ w3, w2 = w3 := ⟨_, rfl⟩
  rw [hw3] at hG3 hR3 ⊢
  have hk3 : Keep (fun i => n0 ≤ i ∧ i < n0 + 3) w2 w3 := hw3 ▸ Keep.refl _ w2
  clear hw3
  have hG4 : w3.heap[n0 + 1 + 1]? = some (.cells (gotA 0 0 0 0 0 0 nilB) 145 (0, 0)) := hG3
  obtain ⟨x0, x1, x2, x3, x4, x5, x6⟩ := got_cells hG4
  obtain ⟨y0, y1, y2, y3, y4, y5, y6⟩ := got_free hG4
  obtain ⟨r0, r1, r2, r3, r4, r5, r6⟩ := got_cells hR3
  obtain ⟨z0, z1, z2, z3, z4, z5, z6⟩ := got_free hR3
  have HG4 := hdd hG4
  have HR3 := hdd hR3
  clear hG3 hG4 hR3
  go_wp2_with fail
  have hn0 := HN.out
  have hs1 := HS.out
  have hR4 : ((w3.setCell ⟨n0 + 1 + 1, 1, none⟩ (.int .i64 0)).setCell ⟨n0 + 1 + 1, 2, none⟩ (.int .i64 0)).heap[n0 + 1]? = some (.cells zGot 145 (0, 0)) := (heap_set_other (p := ⟨n0 + 1 + 1, 2, none⟩) _ (by simp)).trans ((heap_set_other (p := ⟨n0 + 1 + 1, 1, none⟩) _ (by simp)).trans HR3.out)
  have hkN : Keep (fun i => n0 ≤ i ∧ i < n0 + 3) w2 ((w3.setCell ⟨n0 + 1 + 1, 1, none⟩ (.int .i64 0)).setCell ⟨n0 + 1 + 1, 2, none⟩ (.int .i64 0)) := (hk3.set (n0 + 1 + 1) 1 (fun _ => by omega) _).set (n0 + 1 + 1) 2 (fun _ => by omega) _
  have hkW := got_keep hkN (U := n0 + 1) (fun _ => by omega) 0 0 0 0 0 0 nilB
  refine ret_cell2 (U := n0 + 1) (T := 145) Tryz.results134 rfl rfl rfl (got_set hR4 _ _ _ _ _ _ _) Tryz.underlying145 igot_size ?_
  exact ⟨0, 0, 0, 0, 0, none, 0, 0, ev, rfl, Rp.through h hk0.drew HP.out hkW (fun i hi => by simp; omega), fun _ => ⟨rfl, rfl, rfl, rfl, rfl, .inl ⟨rfl, _, _, rfl⟩⟩⟩
set_option maxRecDepth 100000 in
theorem Rp.begunJ10 {St : Type} {a1 a2 a3 a4 a5 : Int} {sv : Value} (K : Rp.Ctx St) {fX : FuncId} (hm : Rp.Meth K.T K.P "ReadListEnd" fX) {k : Int} {s' : St} (s : St) (w : World) (h : K.Inv s w) (hc : ∀ W, Keep (fun _ => False) w W → Calls Tryz.prog fX #[.pointer (some ⟨K.P, 0, none⟩), ctxV] W (Rp.EndP K W k s')) :
  Calls Tryz.prog 134 #[K.V, .agg (stepJ 10 a1 a2 a3 a4 a5 sv)] w (Rp.StP K w k s' 0 0 0 0 0 []) := by
 obtain ⟨hnam, hna, hnac⟩ := hm
 have hk0 : Keep (fun _ => False) w (((w.alloc (.cells (stepJ 10 a1 a2 a3 a4 a5 sv) 63 (0, 0))).alloc (.cells zGot 145 (0, 0))).alloc (.cells zGot 145 (0, 0))) := (((Keep.refl _ w).alloc _).alloc _).alloc _
 have hR0 : (((w.alloc (.cells (stepJ 10 a1 a2 a3 a4 a5 sv) 63 (0, 0))).alloc (.cells zGot 145 (0, 0))).alloc (.cells zGot 145 (0, 0))).heap[w.heap.size + 1]? = some (.cells zGot 145 (0, 0)) := (Below.heap_alloc _ _ _ (by simp)).trans (heap_alloc_at (by simp) _)
 have hG0 : (((w.alloc (.cells (stepJ 10 a1 a2 a3 a4 a5 sv) 63 (0, 0))).alloc (.cells zGot 145 (0, 0))).alloc (.cells zGot 145 (0, 0))).heap[w.heap.size + 1 + 1]? = some (.cells zGot 145 (0, 0)) := heap_alloc_at (by simp) _
 have hs0 : (((w.alloc (.cells (stepJ 10 a1 a2 a3 a4 a5 sv) 63 (0, 0))).alloc (.cells zGot 145 (0, 0))).alloc (.cells zGot 145 (0, 0))).heap.size = w.heap.size + 3 := by simp
 have HC := hdd hc
 clear hc
 go_enter Tryz.func134, Tryz.ntmps134
 go_wp2_with fail
 obtain ⟨n0, hn⟩ : ∃ n0, w.heap.size = n0 := ⟨_, rfl⟩
 rw [hn] at hR0 hG0 hs0 ⊢
 generalize ((w.alloc (.cells (stepJ 10 a1 a2 a3 a4 a5 sv) 63 (0, 0))).alloc (.cells zGot 145 (0, 0))).alloc (.cells zGot 145 (0, 0)) = w1 at *
 have HN := hdd hn
 have HR := hdd hR0
 have HG := hdd hG0
 have HS := hdd hs0
 have HM := hdd (Rp.M_new h hk0)
 obtain ⟨u0, u1, u2, u3, u4, u5, u6⟩ := got_cells hG0
 obtain ⟨f0, f1, f2, f3, f4, f5, f6⟩ := got_free hG0
 clear hn hR0 hG0 hs0
 go_region_with (first | (go_at_call 37; refine (ctx_at _).mono ?_; rintro e w' ⟨rfl, rfl⟩) | (refine (HC.out w1.drew hk0.drew).mono ?_; rintro e w2 ⟨ev, rfl, hp⟩; have HP := hdd hp; have HG2 := hdd ((hp.keep.block (n0 + 1 + 1) (by simpa using lt_of_heap HG.out) (fun x => by have := HM.out _ x; have := HN.out; omega)).trans HG.out); clear hp; obtain ⟨x0, x1, x2, x3, x4, x5, x6⟩ := got_cells HG2.out; obtain ⟨y0, y1, y2, y3, y4, y5, y6⟩ := got_free HG2.out))
 all_goals
  have hG3 := HG2.out
  have hR3 : w2.heap[n0 + 1]? = some (.cells zGot 145 (0, 0)) := ((HP.out.keep.block (n0 + 1) (by simpa using lt_of_heap HR.out) (fun x => by have := HM.out _ x; have := HN.out; omega)).trans HR.out)
  clear x0 x1 x2 x3 x4 x5 x6 y0 y1 y2 y3 y4 y5 y6 u0 u1 u2 u3 u4 u5 u6 f0 f1 f2 f3 f4 f5 f6
  obtain ⟨w3, hw3⟩ : ∃ w3, w2 = w3 := ⟨_, rfl⟩
  rw [hw3] at hG3 hR3 ⊢
  have hk3 : Keep (fun i => n0 ≤ i ∧ i < n0 + 3) w2 w3 := hw3 ▸ Keep.refl _ w2
  clear hw3
  have hG4 : w3.heap[n0 + 1 + 1]? = some (.cells (gotA 0 0 0 0 0 0 nilB) 145 (0, 0)) := hG3
  obtain ⟨x0, x1, x2, x3, x4, x5, x6⟩ := got_cells hG4
  obtain ⟨y0, y1, y2, y3, y4, y5, y6⟩ := got_free hG4
  obtain ⟨r0, r1, r2, r3, r4, r5, r6⟩ := got_cells hR3
  obtain ⟨z0, z1, z2, z3, z4, z5, z6⟩ := got_free hR3
  have HG4 := hdd hG4
  have HR3 := hdd hR3
  clear hG3 hG4 hR3
  go_wp2_with fail
  have hn0 := HN.out
  have hs1 := HS.out
  have hR4 : ((w3.setCell ⟨n0 + 1 + 1, 1, none⟩ (.int .i64 0)).setCell ⟨n0 + 1 + 1, 2, none⟩ (.int .i64 0)).heap[n0 + 1]? = some (.cells zGot 145 (0, 0)) := (heap_set_other (p := ⟨n0 + 1 + 1, 2, none⟩) _ (by simp)).trans ((heap_set_other (p := ⟨n0 + 1 + 1, 1, none⟩) _ (by simp)).trans HR3.out)
  have hkN : Keep (fun i => n0 ≤ i ∧ i < n0 + 3) w2 ((w3.setCell ⟨n0 + 1 + 1, 1, none⟩ (.int .i64 0)).setCell ⟨n0 + 1 + 1, 2, none⟩ (.int .i64 0)) := (hk3.set (n0 + 1 + 1) 1 (fun _ => by omega) _).set (n0 + 1 + 1) 2 (fun _ => by omega) _
  have hkW := got_keep hkN (U := n0 + 1) (fun _ => by omega) 0 0 0 0 0 0 nilB
  refine ret_cell2 (U := n0 + 1) (T := 145) Tryz.results134 rfl rfl rfl (got_set hR4 _ _ _ _ _ _ _) Tryz.underlying145 igot_size ?_
  exact ⟨0, 0, 0, 0, 0, none, 0, 0, ev, rfl, Rp.through h hk0.drew HP.out hkW (fun i hi => by simp; omega), fun _ => ⟨rfl, rfl, rfl, rfl, rfl, .inl ⟨rfl, _, _, rfl⟩⟩⟩
set_option maxRecDepth 100000 in
theorem Rp.begunJ12 {St : Type} {a1 a2 a3 a4 a5 : Int} {sv : Value} (K : Rp.Ctx St) {fX : FuncId} (hm : Rp.Meth K.T K.P "ReadSetEnd" fX) {k : Int} {s' : St} (s : St) (w : World) (h : K.Inv s w) (hc : ∀ W, Keep (fun _ => False) w W → Calls Tryz.prog fX #[.pointer (some ⟨K.P, 0, none⟩), ctxV] W (Rp.EndP K W k s')) :
  Calls Tryz.prog 134 #[K.V, .agg (stepJ 12 a1 a2 a3 a4 a5 sv)] w (Rp.StP K w k s' 0 0 0 0 0 []) := by
 obtain ⟨hnam, hna, hnac⟩ := hm
 have hk0 : Keep (fun _ => False) w (((w.alloc (.cells (stepJ 12 a1 a2 a3 a4 a5 sv) 63 (0, 0))).alloc (.cells zGot 145 (0, 0))).alloc (.cells zGot 145 (0, 0))) := (((Keep.refl _ w).alloc _).alloc _).alloc _
 have hR0 : (((w.alloc (.cells (stepJ 12 a1 a2 a3 a4 a5 sv) 63 (0, 0))).alloc (.cells zGot 145 (0, 0))).alloc (.cells zGot 145 (0, 0))).heap[w.heap.size + 1]? = some (.cells zGot 145 (0, 0)) := (Below.heap_alloc _ _ _ (by simp)).trans (heap_alloc_at (by simp) _)
 have hG0 : (((w.alloc (.cells (stepJ 12 a1 a2 a3 a4 a5 sv) 63 (0, 0))).alloc (.cells zGot 145 (0, 0))).alloc (.cells zGot 145 (0, 0))).heap[w.heap.size + 1 + 1]? = some (.cells zGot 145 (0, 0)) := heap_alloc_at (by simp) _
 have hs0 : (((w.alloc (.cells (stepJ 12 a1 a2 a3 a4 a5 sv) 63 (0, 0))).alloc (.cells zGot 145 (0, 0))).alloc (.cells zGot 145 (0, 0))).heap.size = w.heap.size + 3 := by simp
 have HC := hdd hc
 clear hc
 go_enter Tryz.func134, Tryz.ntmps134
 go_wp2_with fail
 obtain ⟨n0, hn⟩ : ∃ n0, w.heap.size = n0 := ⟨_, rfl⟩
 rw [hn] at hR0 hG0 hs0 ⊢
 generalize ((w.alloc (.cells (stepJ 12 a1 a2 a3 a4 a5 sv) 63 (0, 0))).alloc (.cells zGot 145 (0, 0))).alloc (.cells zGot 145 (0, 0)) = w1 at *
 have HN := hdd hn
 have HR := hdd hR0
 have HG := hdd hG0
 have HS := hdd hs0
 have HM := hdd (Rp.M_new h hk0)
 obtain ⟨u0, u1, u2, u3, u4, u5, u6⟩ := got_cells hG0
 obtain ⟨f0, f1, f2, f3, f4, f5, f6⟩ := got_free hG0
 clear hn hR0 hG0 hs0
 go_region_with (first | (go_at_call 37; refine (ctx_at _).mono ?_; rintro e w' ⟨rfl, rfl⟩) | (refine (HC.out w1.drew hk0.drew).mono ?_; rintro e w2 ⟨ev, rfl, hp⟩; have HP := hdd hp; have HG2 := hdd ((hp.keep.block (n0 + 1 + 1) (by simpa using lt_of_heap HG.out) (fun x => by have := HM.out _ x; have := HN.out; omega)).trans HG.out); clear hp; obtain ⟨x0, x1, x2, x3, x4, x5, x6⟩ := got_cells HG2.out; obtain ⟨y0, y1, y2, y3, y4, y5, y6⟩ := got_free HG2.out))
 all_goals
  have hG3 := HG2.out
  have hR3 : w2.heap[n0 + 1]? = some (.cells zGot 145 (0, 0)) := ((HP.out.keep.block (n0 + 1) (by simpa using lt_of_heap HR.out) (fun x => by have := HM.out _ x; have := HN.out; omega)).trans HR.out)
  clear x0 x1 x2 x3 x4 x5 x6 y0 y1 y2 y3 y4 y5 y6 u0 u1 u2 u3 u4 u5 u6 f0 f1 f2 f3 f4 f5 f6
  obtain ⟨w3, hw3⟩ : ∃ w3, w2 = w3 := ⟨_, rfl⟩
  rw [hw3] at hG3 hR3 ⊢
  have hk3 : Keep (fun i => n0 ≤ i ∧ i < n0 + 3) w2 w3 := hw3 ▸ Keep.refl _ w2
  clear hw3
  have hG4 : w3.heap[n0 + 1 + 1]? = some (.cells (gotA 0 0 0 0 0 0 nilB) 145 (0, 0)) := hG3
  obtain ⟨x0, x1, x2, x3, x4, x5, x6⟩ := got_cells hG4
  obtain ⟨y0, y1, y2, y3, y4, y5, y6⟩ := got_free hG4
  obtain ⟨r0, r1, r2, r3, r4, r5, r6⟩ := got_cells hR3
  obtain ⟨z0, z1, z2, z3, z4, z5, z6⟩ := got_free hR3
  have HG4 := hdd hG4
  have HR3 := hdd hR3
  clear hG3 hG4 hR3
  go_wp2_with fail
  have hn0 := HN.out
  have hs1 := HS.out
  have hR4 : ((w3.setCell ⟨n0 + 1 + 1, 1, none⟩ (.int .i64 0)).setCell ⟨n0 + 1 + 1, 2, none⟩ (.int .i64 0)).heap[n0 + 1]? = some (.cells zGot 145 (0, 0)) := (heap_set_other (p := ⟨n0 + 1 + 1, 2, none⟩) _ (by simp)).trans ((heap_set_other (p := ⟨n0 + 1 + 1, 1, none⟩) _ (by simp)).trans HR3.out)
  have hkN : Keep (fun i => n0 ≤ i ∧ i < n0 + 3) w2 ((w3.setCell ⟨n0 + 1 + 1, 1, none⟩ (.int .i64 0)).setCell ⟨n0 + 1 + 1, 2, none⟩ (.int .i64 0)) := (hk3.set (n0 + 1 + 1) 1 (fun _ => by omega) _).set (n0 + 1 + 1) 2 (fun _ => by omega) _
  have hkW := got_keep hkN (U := n0 + 1) (fun _ => by omega) 0 0 0 0 0 0 nilB
  refine ret_cell2 (U := n0 + 1) (T := 145) Tryz.results134 rfl rfl rfl (got_set hR4 _ _ _ _ _ _ _) Tryz.underlying145 igot_size ?_
  exact ⟨0, 0, 0, 0, 0, none, 0, 0, ev, rfl, Rp.through h hk0.drew HP.out hkW (fun i hi => by simp; omega), fun _ => ⟨rfl, rfl, rfl, rfl, rfl, .inl ⟨rfl, _, _, rfl⟩⟩⟩
def Rp.LstP {St : Type} (K : Rp.Ctx St) (w : World) (k : Int) (s' : St) (T Z : Int) (e : Ending) (w' : World) : Prop := ∃ t n ev, e = .returned (.tuple #[.int .u8 t, .int .i64 n, ev]) ∧ Rp.Post K w w' k ev s' ∧ (k = 0 → t = T ∧ n = Z ∧ wrap64 T = T)
def Rp.MapP {St : Type} (K : Rp.Ctx St) (w : World) (k : Int) (s' : St) (T KT Z : Int) (e : Ending) (w' : World) : Prop := ∃ kt t n ev, e = .returned (.tuple #[.int .u8 kt, .int .u8 t, .int .i64 n, ev]) ∧ Rp.Post K w w' k ev s' ∧ (k = 0 → kt = KT ∧ t = T ∧ n = Z ∧ wrap64 T = T ∧ wrap64 KT = KT)
set_option maxRecDepth 100000 in
theorem Rp.begunJ9 {St : Type} {a1 a2 a3 a4 a5 : Int} {sv : Value} (K : Rp.Ctx St) {fX : FuncId} (hm : Rp.Meth K.T K.P "ReadListBegin" fX) {k T Z : Int} {s' : St} (s : St) (w : World) (h : K.Inv s w) (hc : ∀ W, Keep (fun _ => False) w W → Calls Tryz.prog fX #[.pointer (some ⟨K.P, 0, none⟩), ctxV] W (Rp.LstP K W k s' T Z)) :
  Calls Tryz.prog 134 #[K.V, .agg (stepJ 9 a1 a2 a3 a4 a5 sv)] w (Rp.StP K w k s' T 0 Z 0 0 []) := by
 obtain ⟨hnam, hna, hnac⟩ := hm
 have hk0 : Keep (fun _ => False) w (((w.alloc (.cells (stepJ 9 a1 a2 a3 a4 a5 sv) 63 (0, 0))).alloc (.cells zGot 145 (0, 0))).alloc (.cells zGot 145 (0, 0))) := (((Keep.refl _ w).alloc _).alloc _).alloc _
 have hR0 : (((w.alloc (.cells (stepJ 9 a1 a2 a3 a4 a5 sv) 63 (0, 0))).alloc (.cells zGot 145 (0, 0))).alloc (.cells zGot 145 (0, 0))).heap[w.heap.size + 1]? = some (.cells zGot 145 (0, 0)) := (Below.heap_alloc _ _ _ (by simp)).trans (heap_alloc_at (by simp) _)
 have hG0 : (((w.alloc (.cells (stepJ 9 a1 a2 a3 a4 a5 sv) 63 (0, 0))).alloc (.cells zGot 145 (0, 0))).alloc (.cells zGot 145 (0, 0))).heap[w.heap.size + 1 + 1]? = some (.cells zGot 145 (0, 0)) := heap_alloc_at (by simp) _
 have hs0 : (((w.alloc (.cells (stepJ 9 a1 a2 a3 a4 a5 sv) 63 (0, 0))).alloc (.cells zGot 145 (0, 0))).alloc (.cells zGot 145 (0, 0))).heap.size = w.heap.size + 3 := by simp
 have HC := hdd hc
 clear hc
 go_enter Tryz.func134, Tryz.ntmps134
 go_wp2_with fail
 obtain ⟨n0, hn⟩ : ∃ n0, w.heap.size = n0 := ⟨_, rfl⟩
 rw [hn] at hR0 hG0 hs0 ⊢
 generalize ((w.alloc (.cells (stepJ 9 a1 a2 a3 a4 a5 sv) 63 (0, 0))).alloc (.cells zGot 145 (0, 0))).alloc (.cells zGot 145 (0, 0)) = w1 at *
 have HN := hdd hn
 have HR := hdd hR0
 have HG := hdd hG0
 have HS := hdd hs0
 have HM := hdd (Rp.M_new h hk0)
 obtain ⟨u0, u1, u2, u3, u4, u5, u6⟩ := got_cells hG0
 obtain ⟨f0, f1, f2, f3, f4, f5, f6⟩ := got_free hG0
 clear hn hR0 hG0 hs0
 go_region_with (first | (go_at_call 37; refine (ctx_at _).mono ?_; rintro e w' ⟨rfl, rfl⟩) | (refine (HC.out w1.drew hk0.drew).mono ?_; rintro e w2 ⟨t, n, ev, rfl, hp, hv⟩; have HP := hdd hp; have HV := hdd hv; have HG2 := hdd ((hp.keep.block (n0 + 1 + 1) (by simpa using lt_of_heap HG.out) (fun x => by have := HM.out _ x; have := HN.out; omega)).trans HG.out); clear hp hv; obtain ⟨x0, x1, x2, x3, x4, x5, x6⟩ := got_cells HG2.out; obtain ⟨y0, y1, y2, y3, y4, y5, y6⟩ := got_free HG2.out))
 all_goals
  have hG3 := heap_set_same (i := 3) HG2.out (.int .i64 n)
  have hk3 : Keep (fun i => n0 ≤ i ∧ i < n0 + 3) w2 (w2.setCell ⟨n0 + 1 + 1, 3, none⟩ (.int .i64 n)) := (Keep.refl _ w2).set (n0 + 1 + 1) 3 (fun _ => by have := HN.out; omega) _
  have hR3 : (w2.setCell ⟨n0 + 1 + 1, 3, none⟩ (.int .i64 n)).heap[n0 + 1]? = some (.cells zGot 145 (0, 0)) := (heap_set_other (p := ⟨n0 + 1 + 1, 3, none⟩) _ (by simp)).trans ((HP.out.keep.block (n0 + 1) (by simpa using lt_of_heap HR.out) (fun x => by have := HM.out _ x; have := HN.out; omega)).trans HR.out)
  clear x0 x1 x2 x3 x4 x5 x6 y0 y1 y2 y3 y4 y5 y6 u0 u1 u2 u3 u4 u5 u6 f0 f1 f2 f3 f4 f5 f6
  generalize w2.setCell ⟨n0 + 1 + 1, 3, none⟩ (.int .i64 n) = w3 at *
  have hG4 : w3.heap[n0 + 1 + 1]? = some (.cells (gotA 0 0 0 n 0 0 nilB) 145 (0, 0)) := hG3
  obtain ⟨x0, x1, x2, x3, x4, x5, x6⟩ := got_cells hG4
  obtain ⟨y0, y1, y2, y3, y4, y5, y6⟩ := got_free hG4
  obtain ⟨r0, r1, r2, r3, r4, r5, r6⟩ := got_cells hR3
  obtain ⟨z0, z1, z2, z3, z4, z5, z6⟩ := got_free hR3
  have HG4 := hdd hG4
  have HR3 := hdd hR3
  clear hG3 hG4 hR3
  go_wp2_with fail
  have hn0 := HN.out
  have hs1 := HS.out
  have hR4 : ((w3.setCell ⟨n0 + 1 + 1, 1, none⟩ (.int .i64 (wrap64 t))).setCell ⟨n0 + 1 + 1, 2, none⟩ (.int .i64 (0))).heap[n0 + 1]? = some (.cells zGot 145 (0, 0)) := (heap_set_other (p := ⟨n0 + 1 + 1, 2, none⟩) _ (by simp)).trans ((heap_set_other (p := ⟨n0 + 1 + 1, 1, none⟩) _ (by simp)).trans HR3.out)
  have hkN : Keep (fun i => n0 ≤ i ∧ i < n0 + 3) w2 ((w3.setCell ⟨n0 + 1 + 1, 1, none⟩ (.int .i64 (wrap64 t))).setCell ⟨n0 + 1 + 1, 2, none⟩ (.int .i64 (0))) := (hk3.set (n0 + 1 + 1) 1 (fun _ => by omega) _).set (n0 + 1 + 1) 2 (fun _ => by omega) _
  have hkW := got_keep hkN (U := n0 + 1) (fun _ => by omega) 0 (wrap64 t) (0) n 0 0 nilB
  refine ret_cell2 (U := n0 + 1) (T := 145) Tryz.results134 rfl rfl rfl (got_set hR4 _ _ _ _ _ _ _) Tryz.underlying145 igot_size ?_
  refine ⟨wrap64 t, 0, n, 0, 0, none, 0, 0, ev, rfl, Rp.through h hk0.drew HP.out hkW (fun i hi => by simp; omega), fun hz => ?_⟩
  obtain ⟨e1, e2, e3⟩ := HV.out hz
  exact ⟨by rw [e1]; exact e3, rfl, e2, rfl, rfl, .inl ⟨rfl, _, _, rfl⟩⟩
set_option maxRecDepth 100000 in
theorem Rp.begunJ11 {St : Type} {a1 a2 a3 a4 a5 : Int} {sv : Value} (K : Rp.Ctx St) {fX : FuncId} (hm : Rp.Meth K.T K.P "ReadSetBegin" fX) {k T Z : Int} {s' : St} (s : St) (w : World) (h : K.Inv s w) (hc : ∀ W, Keep (fun _ => False) w W → Calls Tryz.prog fX #[.pointer (some ⟨K.P, 0, none⟩), ctxV] W (Rp.LstP K W k s' T Z)) :
  Calls Tryz.prog 134 #[K.V, .agg (stepJ 11 a1 a2 a3 a4 a5 sv)] w (Rp.StP K w k s' T 0 Z 0 0 []) := by
 obtain ⟨hnam, hna, hnac⟩ := hm
 have hk0 : Keep (fun _ => False) w (((w.alloc (.cells (stepJ 11 a1 a2 a3 a4 a5 sv) 63 (0, 0))).alloc (.cells zGot 145 (0, 0))).alloc (.cells zGot 145 (0, 0))) := (((Keep.refl _ w).alloc _).alloc _).alloc _
 have hR0 : (((w.alloc (.cells (stepJ 11 a1 a2 a3 a4 a5 sv) 63 (0, 0))).alloc (.cells zGot 145 (0, 0))).alloc (.cells zGot 145 (0, 0))).heap[w.heap.size + 1]? = some (.cells zGot 145 (0, 0)) := (Below.heap_alloc _ _ _ (by simp)).trans (heap_alloc_at (by simp) _)
 have hG0 : (((w.alloc (.cells (stepJ 11 a1 a2 a3 a4 a5 sv) 63 (0, 0))).alloc (.cells zGot 145 (0, 0))).alloc (.cells zGot 145 (0, 0))).heap[w.heap.size + 1 + 1]? = some (.cells zGot 145 (0, 0)) := heap_alloc_at (by simp) _
 have hs0 : (((w.alloc (.cells (stepJ 11 a1 a2 a3 a4 a5 sv) 63 (0, 0))).alloc (.cells zGot 145 (0, 0))).alloc (.cells zGot 145 (0, 0))).heap.size = w.heap.size + 3 := by simp
 have HC := hdd hc
 clear hc
 go_enter Tryz.func134, Tryz.ntmps134
 go_wp2_with fail
 obtain ⟨n0, hn⟩ : ∃ n0, w.heap.size = n0 := ⟨_, rfl⟩
 rw [hn] at hR0 hG0 hs0 ⊢
 generalize ((w.alloc (.cells (stepJ 11 a1 a2 a3 a4 a5 sv) 63 (0, 0))).alloc (.cells zGot 145 (0, 0))).alloc (.cells zGot 145 (0, 0)) = w1 at *
 have HN := hdd hn
 have HR := hdd hR0
 have HG := hdd hG0
 have HS := hdd hs0
 have HM := hdd (Rp.M_new h hk0)
 obtain ⟨u0, u1, u2, u3, u4, u5, u6⟩ := got_cells hG0
 obtain ⟨f0, f1, f2, f3, f4, f5, f6⟩ := got_free hG0
 clear hn hR0 hG0 hs0
 go_region_with (first | (go_at_call 37; refine (ctx_at _).mono ?_; rintro e w' ⟨rfl, rfl⟩) | (refine (HC.out w1.drew hk0.drew).mono ?_; rintro e w2 ⟨t, n, ev, rfl, hp, hv⟩; have HP := hdd hp; have HV := hdd hv; have HG2 := hdd ((hp.keep.block (n0 + 1 + 1) (by simpa using lt_of_heap HG.out) (fun x => by have := HM.out _ x; have := HN.out; omega)).trans HG.out); clear hp hv; obtain ⟨x0, x1, x2, x3, x4, x5, x6⟩ := got_cells HG2.out; obtain ⟨y0, y1, y2, y3, y4, y5, y6⟩ := got_free HG2.out))
 all_goals
  have hG3 := heap_set_same (i := 3) HG2.out (.int .i64 n)
  have hk3 : Keep (fun i => n0 ≤ i ∧ i < n0 + 3) w2 (w2.setCell ⟨n0 + 1 + 1, 3, none⟩ (.int .i64 n)) := (Keep.refl _ w2).set (n0 + 1 + 1) 3 (fun _ => by have := HN.out; omega) _
  have hR3 : (w2.setCell ⟨n0 + 1 + 1, 3, none⟩ (.int .i64 n)).heap[n0 + 1]? = some (.cells zGot 145 (0, 0)) := (heap_set_other (p := ⟨n0 + 1 + 1, 3, none⟩) _ (by simp)).trans ((HP.out.keep.block (n0 + 1) (by simpa using lt_of_heap HR.out) (fun x => by have := HM.out _ x; have := HN.out; omega)).trans HR.out)
  clear x0 x1 x2 x3 x4 x5 x6 y0 y1 y2 y3 y4 y5 y6 u0 u1 u2 u3 u4 u5 u6 f0 f1 f2 f3 f4 f5 f6
  generalize w2.setCell ⟨n0 + 1 + 1, 3, none⟩ (.int .i64 n) = w3 at *
  have hG4 : w3.heap[n0 + 1 + 1]? = some (.cells (gotA 0 0 0 n 0 0 nilB) 145 (0, 0)) := hG3
  obtain ⟨x0, x1, x2, x3, x4, x5, x6⟩ := got_cells hG4
  obtain ⟨y0, y1, y2, y3, y4, y5, y6⟩ := got_free hG4
  obtain ⟨r0, r1, r2, r3, r4, r5, r6⟩ := got_cells hR3
  obtain ⟨z0, z1, z2, z3, z4, z5, z6⟩ := got_free hR3
  have HG4 := hdd hG4
  have HR3 := hdd hR3
  clear hG3 hG4 hR3
  go_wp2_with fail
  have hn0 := HN.out
  have hs1 := HS.out
  have hR4 : ((w3.setCell ⟨n0 + 1 + 1, 1, none⟩ (.int .i64 (wrap64 t))).setCell ⟨n0 + 1 + 1, 2, none⟩ (.int .i64 (0))).heap[n0 + 1]? = some (.cells zGot 145 (0, 0)) := (heap_set_other (p := ⟨n0 + 1 + 1, 2, none⟩) _ (by simp)).trans ((heap_set_other (p := ⟨n0 + 1 + 1, 1, none⟩) _ (by simp)).trans HR3.out)
  have hkN : Keep (fun i => n0 ≤ i ∧ i < n0 + 3) w2 ((w3.setCell ⟨n0 + 1 + 1, 1, none⟩ (.int .i64 (wrap64 t))).setCell ⟨n0 + 1 + 1, 2, none⟩ (.int .i64 (0))) := (hk3.set (n0 + 1 + 1) 1 (fun _ => by omega) _).set (n0 + 1 + 1) 2 (fun _ => by omega) _
  have hkW := got_keep hkN (U := n0 + 1) (fun _ => by omega) 0 (wrap64 t) (0) n 0 0 nilB
  refine ret_cell2 (U := n0 + 1) (T := 145) Tryz.results134 rfl rfl rfl (got_set hR4 _ _ _ _ _ _ _) Tryz.underlying145 igot_size ?_
  refine ⟨wrap64 t, 0, n, 0, 0, none, 0, 0, ev, rfl, Rp.through h hk0.drew HP.out hkW (fun i hi => by simp; omega), fun hz => ?_⟩
  obtain ⟨e1, e2, e3⟩ := HV.out hz
  exact ⟨by rw [e1]; exact e3, rfl, e2, rfl, rfl, .inl ⟨rfl, _, _, rfl⟩⟩
set_option maxRecDepth 100000 in
theorem Rp.begunJ7 {St : Type} {a1 a2 a3 a4 a5 : Int} {sv : Value} (K : Rp.Ctx St) {fX : FuncId} (hm : Rp.Meth K.T K.P "ReadMapBegin" fX) {k T KT Z : Int} {s' : St} (s : St) (w : World) (h : K.Inv s w) (hc : ∀ W, Keep (fun _ => False) w W → Calls Tryz.prog fX #[.pointer (some ⟨K.P, 0, none⟩), ctxV] W (Rp.MapP K W k s' T KT Z)) :
  Calls Tryz.prog 134 #[K.V, .agg (stepJ 7 a1 a2 a3 a4 a5 sv)] w (Rp.StP K w k s' T KT Z 0 0 []) := by
 obtain ⟨hnam, hna, hnac⟩ := hm
 have hk0 : Keep (fun _ => False) w (((w.alloc (.cells (stepJ 7 a1 a2 a3 a4 a5 sv) 63 (0, 0))).alloc (.cells zGot 145 (0, 0))).alloc (.cells zGot 145 (0, 0))) := (((Keep.refl _ w).alloc _).alloc _).alloc _
 have hR0 : (((w.alloc (.cells (stepJ 7 a1 a2 a3 a4 a5 sv) 63 (0, 0))).alloc (.cells zGot 145 (0, 0))).alloc (.cells zGot 145 (0, 0))).heap[w.heap.size + 1]? = some (.cells zGot 145 (0, 0)) := (Below.heap_alloc _ _ _ (by simp)).trans (heap_alloc_at (by simp) _)
 have hG0 : (((w.alloc (.cells (stepJ 7 a1 a2 a3 a4 a5 sv) 63 (0, 0))).alloc (.cells zGot 145 (0, 0))).alloc (.cells zGot 145 (0, 0))).heap[w.heap.size + 1 + 1]? = some (.cells zGot 145 (0, 0)) := heap_alloc_at (by simp) _
 have hs0 : (((w.alloc (.cells (stepJ 7 a1 a2 a3 a4 a5 sv) 63 (0, 0))).alloc (.cells zGot 145 (0, 0))).alloc (.cells zGot 145 (0, 0))).heap.size = w.heap.size + 3 := by simp
 have HC := hdd hc
 clear hc
 go_enter Tryz.func134, Tryz.ntmps134
 go_wp2_with fail
 obtain ⟨n0, hn⟩ : ∃ n0, w.heap.size = n0 := ⟨_, rfl⟩
 rw [hn] at hR0 hG0 hs0 ⊢
 generalize ((w.alloc (.cells (stepJ 7 a1 a2 a3 a4 a5 sv) 63 (0, 0))).alloc (.cells zGot 145 (0, 0))).alloc (.cells zGot 145 (0, 0)) = w1 at *
 have HN := hdd hn
 have HR := hdd hR0
 have HG := hdd hG0
 have HS := hdd hs0
 have HM := hdd (Rp.M_new h hk0)
 obtain ⟨u0, u1, u2, u3, u4, u5, u6⟩ := got_cells hG0
 obtain ⟨f0, f1, f2, f3, f4, f5, f6⟩ := got_free hG0
 clear hn hR0 hG0 hs0
 go_region_with (first | (go_at_call 37; refine (ctx_at _).mono ?_; rintro e w' ⟨rfl, rfl⟩) | (refine (HC.out w1.drew hk0.drew).mono ?_; rintro e w2 ⟨kt, t, n, ev, rfl, hp, hv⟩; have HP := hdd hp; have HV := hdd hv; have HG2 := hdd ((hp.keep.block (n0 + 1 + 1) (by simpa using lt_of_heap HG.out) (fun x => by have := HM.out _ x; have := HN.out; omega)).trans HG.out); clear hp hv; obtain ⟨x0, x1, x2, x3, x4, x5, x6⟩ := got_cells HG2.out; obtain ⟨y0, y1, y2, y3, y4, y5, y6⟩ := got_free HG2.out))
 all_goals
  have hG3 := heap_set_same (i := 3) HG2.out (.int .i64 n)
  have hk3 : Keep (fun i => n0 ≤ i ∧ i < n0 + 3) w2 (w2.setCell ⟨n0 + 1 + 1, 3, none⟩ (.int .i64 n)) := (Keep.refl _ w2).set (n0 + 1 + 1) 3 (fun _ => by have := HN.out; omega) _
  have hR3 : (w2.setCell ⟨n0 + 1 + 1, 3, none⟩ (.int .i64 n)).heap[n0 + 1]? = some (.cells zGot 145 (0, 0)) := (heap_set_other (p := ⟨n0 + 1 + 1, 3, none⟩) _ (by simp)).trans ((HP.out.keep.block (n0 + 1) (by simpa using lt_of_heap HR.out) (fun x => by have := HM.out _ x; have := HN.out; omega)).trans HR.out)
  clear x0 x1 x2 x3 x4 x5 x6 y0 y1 y2 y3 y4 y5 y6 u0 u1 u2 u3 u4 u5 u6 f0 f1 f2 f3 f4 f5 f6
  generalize w2.setCell ⟨n0 + 1 + 1, 3, none⟩ (.int .i64 n) = w3 at *
  have hG4 : w3.heap[n0 + 1 + 1]? = some (.cells (gotA 0 0 0 n 0 0 nilB) 145 (0, 0)) := hG3
  obtain ⟨x0, x1, x2, x3, x4, x5, x6⟩ := got_cells hG4
  obtain ⟨y0, y1, y2, y3, y4, y5, y6⟩ := got_free hG4
  obtain ⟨r0, r1, r2, r3, r4, r5, r6⟩ := got_cells hR3
  obtain ⟨z0, z1, z2, z3, z4, z5, z6⟩ := got_free hR3
  have HG4 := hdd hG4
  have HR3 := hdd hR3
  clear hG3 hG4 hR3
  go_wp2_with fail
  have hn0 := HN.out
  have hs1 := HS.out
  have hR4 : ((w3.setCell ⟨n0 + 1 + 1, 1, none⟩ (.int .i64 (wrap64 t))).setCell ⟨n0 + 1 + 1, 2, none⟩ (.int .i64 (wrap64 kt))).heap[n0 + 1]? = some (.cells zGot 145 (0, 0)) := (heap_set_other (p := ⟨n0 + 1 + 1, 2, none⟩) _ (by simp)).trans ((heap_set_other (p := ⟨n0 + 1 + 1, 1, none⟩) _ (by simp)).trans HR3.out)
  have hkN : Keep (fun i => n0 ≤ i ∧ i < n0 + 3) w2 ((w3.setCell ⟨n0 + 1 + 1, 1, none⟩ (.int .i64 (wrap64 t))).setCell ⟨n0 + 1 + 1, 2, none⟩ (.int .i64 (wrap64 kt))) := (hk3.set (n0 + 1 + 1) 1 (fun _ => by omega) _).set (n0 + 1 + 1) 2 (fun _ => by omega) _
  have hkW := got_keep hkN (U := n0 + 1) (fun _ => by omega) 0 (wrap64 t) (wrap64 kt) n 0 0 nilB
  refine ret_cell2 (U := n0 + 1) (T := 145) Tryz.results134 rfl rfl rfl (got_set hR4 _ _ _ _ _ _ _) Tryz.underlying145 igot_size ?_
  refine ⟨wrap64 t, wrap64 kt, n, 0, 0, none, 0, 0, ev, rfl, Rp.through h hk0.drew HP.out hkW (fun i hi => by simp; omega), fun hz => ?_⟩
  obtain ⟨e0, e1, e2, e3, e4⟩ := HV.out hz
  exact ⟨by rw [e1]; exact e3, by rw [e0]; exact e4, e2, rfl, rfl, .inl ⟨rfl, _, _, rfl⟩⟩
def Rp.SbP {St : Type} (K : Rp.Ctx St) (w : World) (k : Int) (s' : St) (e : Ending) (w' : World) : Prop := ∃ ev, e = .returned (.tuple #[.string ⟨#[]⟩, ev]) ∧ Rp.Post K w w' k ev s'
def Rp.FldP {St : Type} (K : Rp.Ctx St) (w : World) (k : Int) (s' : St) (T I : Int) (e : Ending) (w' : World) : Prop := ∃ t i ev, e = .returned (.tuple #[.string ⟨#[]⟩, .int .u8 t, .int .i16 i, ev]) ∧ Rp.Post K w w' k ev s' ∧ (k = 0 → t = T ∧ i = I ∧ wrap64 T = T ∧ wrap64 I = I)
def Rp.MgP {St : Type} (K : Rp.Ctx St) (w : World) (k : Int) (s' : St) (T N : Int) (B : List UInt8) (e : Ending) (w' : World) : Prop := ∃ l t q ev, e = .returned (.tuple #[.string l, .int .i32 t, .int .i32 q, ev]) ∧ Rp.Post K w w' k ev s' ∧ (k = 0 → l = ⟨B.toArray⟩ ∧ t = T ∧ q = N ∧ wrap64 T = T ∧ wrap64 N = N ∧ B.length ≤ 140737488355328)
theorem BytesAt.none0 {A A' : Nat → Prop} {w w' : World} {v : Value} (h : BytesAt A w v []) : BytesAt A' w' v [] := by
 rcases h with h | ⟨h, _⟩
 ·exact .inl h
 ·exact absurd rfl h
set_option maxRecDepth 100000 in
theorem Rp.begunJ2 {St : Type} {a1 a2 a3 a4 a5 : Int} {sv : Value} (K : Rp.Ctx St) {fX : FuncId} (hm : Rp.Meth K.T K.P "ReadStructBegin" fX) {k : Int} {s' : St} (s : St) (w : World) (h : K.Inv s w) (hc : ∀ W, Keep (fun _ => False) w W → Calls Tryz.prog fX #[.pointer (some ⟨K.P, 0, none⟩), ctxV] W (Rp.SbP K W k s')) :
  Calls Tryz.prog 134 #[K.V, .agg (stepJ 2 a1 a2 a3 a4 a5 sv)] w (Rp.StP K w k s' 0 0 0 0 0 []) := by
 obtain ⟨hnam, hna, hnac⟩ := hm
 have hk0 : Keep (fun _ => False) w (((w.alloc (.cells (stepJ 2 a1 a2 a3 a4 a5 sv) 63 (0, 0))).alloc (.cells zGot 145 (0, 0))).alloc (.cells zGot 145 (0, 0))) := (((Keep.refl _ w).alloc _).alloc _).alloc _
 have hR0 : (((w.alloc (.cells (stepJ 2 a1 a2 a3 a4 a5 sv) 63 (0, 0))).alloc (.cells zGot 145 (0, 0))).alloc (.cells zGot 145 (0, 0))).heap[w.heap.size + 1]? = some (.cells zGot 145 (0, 0)) := (Below.heap_alloc _ _ _ (by simp)).trans (heap_alloc_at (by simp) _)
 have hG0 : (((w.alloc (.cells (stepJ 2 a1 a2 a3 a4 a5 sv) 63 (0, 0))).alloc (.cells zGot 145 (0, 0))).alloc (.cells zGot 145 (0, 0))).heap[w.heap.size + 1 + 1]? = some (.cells zGot 145 (0, 0)) := heap_alloc_at (by simp) _
 have hs0 : (((w.alloc (.cells (stepJ 2 a1 a2 a3 a4 a5 sv) 63 (0, 0))).alloc (.cells zGot 145 (0, 0))).alloc (.cells zGot 145 (0, 0))).heap.size = w.heap.size + 3 := by simp
 have HC := hdd hc
 clear hc
 go_enter Tryz.func134, Tryz.ntmps134
 go_wp2_with fail
 obtain ⟨n0, hn⟩ : ∃ n0, w.heap.size = n0 := ⟨_, rfl⟩
 rw [hn] at hR0 hG0 hs0 ⊢
 generalize ((w.alloc (.cells (stepJ 2 a1 a2 a3 a4 a5 sv) 63 (0, 0))).alloc (.cells zGot 145 (0, 0))).alloc (.cells zGot 145 (0, 0)) = w1 at *
 have HN := hdd hn
 have HR := hdd hR0
 have HG := hdd hG0
 have HS := hdd hs0
 have HM := hdd (Rp.M_new h hk0)
 obtain ⟨u0, u1, u2, u3, u4, u5, u6⟩ := got_cells hG0
 obtain ⟨f0, f1, f2, f3, f4, f5, f6⟩ := got_free hG0
 clear hn hR0 hG0 hs0
 go_region_with (first | (go_at_call 37; refine (ctx_at _).mono ?_; rintro e w' ⟨rfl, rfl⟩) | (refine (HC.out w1.drew hk0.drew).mono ?_; rintro e w2 ⟨ev, rfl, hp⟩; have HP := hdd hp; have HG2 := hdd ((hp.keep.block (n0 + 1 + 1) (by simpa using lt_of_heap HG.out) (fun x => by have := HM.out _ x; have := HN.out; omega)).trans HG.out); have HR2 := hdd ((hp.keep.block (n0 + 1) (by simpa using lt_of_heap HR.out) (fun x => by have := HM.out _ x; have := HN.out; omega)).trans HR.out); clear hp))
 all_goals
  clear u0 u1 u2 u3 u4 u5 u6 f0 f1 f2 f3 f4 f5 f6
  go_wp2_with (refine wpList_bytes rfl _ rfl ⟨#[]⟩ rfl ?_)
  intro va vm vc w3 hb hk23
  have HB : Hid (BytesAt (w2.heap.size ≤ ·) w3 (.slice va vm vc) []) := hdd (by first | exact hb (by decide) | exact hb)
  have hG3 := (hk23.block (n0 + 1 + 1) (lt_of_heap HG2.out) (fun x => x)).trans HG2.out
  have hR3 := (hk23.block (n0 + 1) (lt_of_heap HR2.out) (fun x => x)).trans HR2.out
  have HK23 := hdd hk23
  have HR3 := hdd hR3
  obtain ⟨x0, x1, x2, x3, x4, x5, x6⟩ := got_cells hG3
  obtain ⟨y0, y1, y2, y3, y4, y5, y6⟩ := got_free hG3
  obtain ⟨r0, r1, r2, r3, r4, r5, r6⟩ := got_cells hR3
  obtain ⟨z0, z1, z2, z3, z4, z5, z6⟩ := got_free hR3
  clear hb hk23 hG3 hR3
  go_wp2_with fail
  have hn0 := HN.out
  have hs1 := HS.out
  have hR4 : (((w3.setCell ⟨n0 + 1 + 1, 6, none⟩ (.slice va vm vc)).setCell ⟨n0 + 1 + 1, 1, none⟩ (.int .i64 0)).setCell ⟨n0 + 1 + 1, 2, none⟩ (.int .i64 0)).heap[n0 + 1]? = some (.cells zGot 145 (0, 0)) := (heap_set_other (p := ⟨n0 + 1 + 1, 2, none⟩) _ (by simp)).trans ((heap_set_other (p := ⟨n0 + 1 + 1, 1, none⟩) _ (by simp)).trans ((heap_set_other (p := ⟨n0 + 1 + 1, 6, none⟩) _ (by simp)).trans HR3.out))
  have hkN : Keep (fun i => n0 ≤ i ∧ i < n0 + 3) w2 (((w3.setCell ⟨n0 + 1 + 1, 6, none⟩ (.slice va vm vc)).setCell ⟨n0 + 1 + 1, 1, none⟩ (.int .i64 0)).setCell ⟨n0 + 1 + 1, 2, none⟩ (.int .i64 0)) := (((HK23.out.weak (fun _ _ x => x.elim)).set (n0 + 1 + 1) 6 (fun _ => by omega) _).set (n0 + 1 + 1) 1 (fun _ => by omega) _).set (n0 + 1 + 1) 2 (fun _ => by omega) _
  have hkW := got_keep hkN (U := n0 + 1) (fun _ => by omega) 0 0 0 0 0 0 (.slice va vm vc)
  refine ret_cell2 (U := n0 + 1) (T := 145) Tryz.results134 rfl rfl rfl (got_set hR4 _ _ _ _ _ _ _) Tryz.underlying145 igot_size ?_
  exact ⟨0, 0, 0, 0, 0, va, vm, vc, ev, rfl, Rp.through h hk0.drew HP.out hkW (fun i hi => by simp; omega), fun _ => ⟨rfl, rfl, rfl, rfl, rfl, HB.out.none0⟩⟩
set_option maxRecDepth 100000 in
theorem Rp.begunJ4 {St : Type} {a1 a2 a3 a4 a5 : Int} {sv : Value} (K : Rp.Ctx St) {fX : FuncId} (hm : Rp.Meth K.T K.P "ReadFieldBegin" fX) {k T I : Int} {s' : St} (s : St) (w : World) (h : K.Inv s w) (hc : ∀ W, Keep (fun _ => False) w W → Calls Tryz.prog fX #[.pointer (some ⟨K.P, 0, none⟩), ctxV] W (Rp.FldP K W k s' T I)) :
  Calls Tryz.prog 134 #[K.V, .agg (stepJ 4 a1 a2 a3 a4 a5 sv)] w (Rp.StP K w k s' T 0 0 I 0 []) := by
 obtain ⟨hnam, hna, hnac⟩ := hm
 have hk0 : Keep (fun _ => False) w (((w.alloc (.cells (stepJ 4 a1 a2 a3 a4 a5 sv) 63 (0, 0))).alloc (.cells zGot 145 (0, 0))).alloc (.cells zGot 145 (0, 0))) := (((Keep.refl _ w).alloc _).alloc _).alloc _
 have hR0 : (((w.alloc (.cells (stepJ 4 a1 a2 a3 a4 a5 sv) 63 (0, 0))).alloc (.cells zGot 145 (0, 0))).alloc (.cells zGot 145 (0, 0))).heap[w.heap.size + 1]? = some (.cells zGot 145 (0, 0)) := (Below.heap_alloc _ _ _ (by simp)).trans (heap_alloc_at (by simp) _)
 have hG0 : (((w.alloc (.cells (stepJ 4 a1 a2 a3 a4 a5 sv) 63 (0, 0))).alloc (.cells zGot 145 (0, 0))).alloc (.cells zGot 145 (0, 0))).heap[w.heap.size + 1 + 1]? = some (.cells zGot 145 (0, 0)) := heap_alloc_at (by simp) _
 have hs0 : (((w.alloc (.cells (stepJ 4 a1 a2 a3 a4 a5 sv) 63 (0, 0))).alloc (.cells zGot 145 (0, 0))).alloc (.cells zGot 145 (0, 0))).heap.size = w.heap.size + 3 := by simp
 have HC := hdd hc
 clear hc
 go_enter Tryz.func134, Tryz.ntmps134
 go_wp2_with fail
 obtain ⟨n0, hn⟩ : ∃ n0, w.heap.size = n0 := ⟨_, rfl⟩
 rw [hn] at hR0 hG0 hs0 ⊢
 generalize ((w.alloc (.cells (stepJ 4 a1 a2 a3 a4 a5 sv) 63 (0, 0))).alloc (.cells zGot 145 (0, 0))).alloc (.cells zGot 145 (0, 0)) = w1 at *
 have HN := hdd hn
 have HR := hdd hR0
 have HG := hdd hG0
 have HS := hdd hs0
 have HM := hdd (Rp.M_new h hk0)
 obtain ⟨u0, u1, u2, u3, u4, u5, u6⟩ := got_cells hG0
 obtain ⟨f0, f1, f2, f3, f4, f5, f6⟩ := got_free hG0
 clear hn hR0 hG0 hs0
 clear u0 u1 u2 u3 u4 u5 u6 f0 f1 f2 f3 f4 f5 f6
 go_cut [15, 16, 17, 18] from 74 to 85 (fun s15 s16 s17 s18 wx => ∃ t i ev, s15 = .string ⟨#[]⟩ ∧ s16 = .int .u8 t ∧ s17 = .int .i16 i ∧ s18 = ev ∧ Rp.Post K w1.drew wx k ev s' ∧ (k = 0 → t = T ∧ i = I ∧ wrap64 T = T ∧ wrap64 I = I))
 case first =>
  go_region_with (first | (go_at_call 37; refine (ctx_at _).mono ?_; rintro e w' ⟨rfl, rfl⟩) | (refine (HC.out w1.drew hk0.drew).mono ?_; rintro e w2 ⟨t, i, ev, rfl, hp, hv⟩; have HV := hdd hv; have HP := hdd hp; clear hv hp))
  all_goals
   go_wp2_with fail
   go_simp
   go_meet
   exact ⟨_, _, _, rfl, rfl, rfl, rfl, HP.out, HV.out⟩
 case rest =>
 obtain ⟨t, i, ev, rfl, rfl, rfl, he, hp, hv⟩ := hcut
 have he := he.symm
 subst he
 generalize wc = w2 at *
 have HV := hdd hv
 have HP := hdd hp
 have HR2 := hdd ((hp.keep.block (n0 + 1) (by simpa using lt_of_heap HR.out) (fun x => by have := HM.out _ x; have := HN.out; omega)).trans HR.out)
 clear hp hv
 go_wp2_with (refine wpList_bytes rfl _ rfl ⟨#[]⟩ rfl ?_)
 intro va vm vc w3 hb hk23
 have HB : Hid (BytesAt (w2.heap.size ≤ ·) w3 (.slice va vm vc) []) := hdd (by first | exact hb (by decide) | exact hb)
 have hR3 := (hk23.block (n0 + 1) (lt_of_heap HR2.out) (fun x => x)).trans HR2.out
 have HK23 := hdd hk23
 have HR3 := hdd hR3
 obtain ⟨r0, r1, r2, r3, r4, r5, r6⟩ := got_cells hR3
 obtain ⟨z0, z1, z2, z3, z4, z5, z6⟩ := got_free hR3
 clear hb hk23 hR3
 have e64 : ∀ x : Int, IntKind.i64.wrap x = wrap64 x := fun x => by rw [IntKind.wrap_i64, wrap64]
 have E64 := hdd e64
 clear e64
 obtain ⟨t', ht'⟩ : ∃ t', IntKind.i64.wrap t = t' := ⟨_, rfl⟩
 obtain ⟨i', hi'⟩ : ∃ i', IntKind.i64.wrap i = i' := ⟨_, rfl⟩
 go_wp2_with fail
 have hn0 := HN.out
 have hs1 := HS.out
 have hkW := got_keep (M := fun i => n0 ≤ i ∧ i < n0 + 3) (HK23.out.weak (fun _ _ x => x.elim)) (U := n0 + 1) (fun _ => by omega) 0 t' 0 0 i' 0 (.slice va vm vc)
 refine ret_cell2 (U := n0 + 1) (T := 145) Tryz.results134 rfl rfl rfl (got_set HR3.out _ _ _ _ _ _ _) Tryz.underlying145 igot_size ?_
 refine ⟨t', 0, 0, i', 0, va, vm, vc, _, rfl, Rp.through h hk0.drew HP.out hkW (fun i hi => by simp; omega), fun hz => ?_⟩
 obtain ⟨e1, e2, e3, e4⟩ := HV.out hz
 exact ⟨by rw [← ht', E64.out, e1]; exact e3, rfl, rfl, by rw [← hi', E64.out, e2]; exact e4, rfl, HB.out.none0⟩
set_option maxRecDepth 100000 in
theorem Rp.begunJ0 {St : Type} {a1 a2 a3 a4 a5 : Int} {sv : Value} (K : Rp.Ctx St) {fX : FuncId} (hm : Rp.Meth K.T K.P "ReadMessageBegin" fX) {k T N : Int} {B : List UInt8} {s' : St} (s : St) (w : World) (h : K.Inv s w) (hc : ∀ W, Keep (fun _ => False) w W → Calls Tryz.prog fX #[.pointer (some ⟨K.P, 0, none⟩), ctxV] W (Rp.MgP K W k s' T N B)) :
  Calls Tryz.prog 134 #[K.V, .agg (stepJ 0 a1 a2 a3 a4 a5 sv)] w (Rp.StP K w k s' T 0 0 0 N B) := by
 obtain ⟨hnam, hna, hnac⟩ := hm
 have hk0 : Keep (fun _ => False) w (((w.alloc (.cells (stepJ 0 a1 a2 a3 a4 a5 sv) 63 (0, 0))).alloc (.cells zGot 145 (0, 0))).alloc (.cells zGot 145 (0, 0))) := (((Keep.refl _ w).alloc _).alloc _).alloc _
 have hR0 : (((w.alloc (.cells (stepJ 0 a1 a2 a3 a4 a5 sv) 63 (0, 0))).alloc (.cells zGot 145 (0, 0))).alloc (.cells zGot 145 (0, 0))).heap[w.heap.size + 1]? = some (.cells zGot 145 (0, 0)) := (Below.heap_alloc _ _ _ (by simp)).trans (heap_alloc_at (by simp) _)
 have hG0 : (((w.alloc (.cells (stepJ 0 a1 a2 a3 a4 a5 sv) 63 (0, 0))).alloc (.cells zGot 145 (0, 0))).alloc (.cells zGot 145 (0, 0))).heap[w.heap.size + 1 + 1]? = some (.cells zGot 145 (0, 0)) := heap_alloc_at (by simp) _
 have hs0 : (((w.alloc (.cells (stepJ 0 a1 a2 a3 a4 a5 sv) 63 (0, 0))).alloc (.cells zGot 145 (0, 0))).alloc (.cells zGot 145 (0, 0))).heap.size = w.heap.size + 3 := by simp
 have HC := hdd hc
 clear hc
 go_enter Tryz.func134, Tryz.ntmps134
 go_wp2_with fail
 obtain ⟨n0, hn⟩ : ∃ n0, w.heap.size = n0 := ⟨_, rfl⟩
 rw [hn] at hR0 hG0 hs0 ⊢
 generalize ((w.alloc (.cells (stepJ 0 a1 a2 a3 a4 a5 sv) 63 (0, 0))).alloc (.cells zGot 145 (0, 0))).alloc (.cells zGot 145 (0, 0)) = w1 at *
 have HN := hdd hn
 have HR := hdd hR0
 have HG := hdd hG0
 have HS := hdd hs0
 have HM := hdd (Rp.M_new h hk0)
 obtain ⟨u0, u1, u2, u3, u4, u5, u6⟩ := got_cells hG0
 obtain ⟨f0, f1, f2, f3, f4, f5, f6⟩ := got_free hG0
 clear hn hR0 hG0 hs0
 clear u0 u1 u2 u3 u4 u5 u6 f0 f1 f2 f3 f4 f5 f6
 go_cut [10, 11, 12, 13] from 23 to 34 (fun s10 s11 s12 s13 wx => ∃ l t q ev, s10 = .string l ∧ s11 = .int .i32 t ∧ s12 = .int .i32 q ∧ s13 = ev ∧ Rp.Post K w1.drew wx k ev s' ∧ (k = 0 → l = ⟨B.toArray⟩ ∧ t = T ∧ q = N ∧ wrap64 T = T ∧ wrap64 N = N ∧ B.length ≤ 140737488355328))
 case first =>
  go_region_with (first | (go_at_call 37; refine (ctx_at _).mono ?_; rintro e w' ⟨rfl, rfl⟩) | (refine (HC.out w1.drew hk0.drew).mono ?_; rintro e w2 ⟨l, t, q, ev, rfl, hp, hv⟩; have HV := hdd hv; have HP := hdd hp; clear hv hp))
  all_goals
   go_wp2_with fail
   go_simp
   go_meet
   exact ⟨_, _, _, _, rfl, rfl, rfl, rfl, HP.out, HV.out⟩
 case rest =>
 obtain ⟨l, t, q, ev, rfl, rfl, rfl, he, hp, hv⟩ := hcut
 have he := he.symm
 subst he
 generalize wc = w2 at *
 have HV := hdd hv
 have HP := hdd hp
 have HR2 := hdd ((hp.keep.block (n0 + 1) (by simpa using lt_of_heap HR.out) (fun x => by have := HM.out _ x; have := HN.out; omega)).trans HR.out)
 clear hp hv
 go_wp2_with (refine wpList_bytes rfl _ rfl l rfl ?_)
 intro va vm vc w3 hb hk23
 have HB := hdd hb
 have hR3 := (hk23.block (n0 + 1) (lt_of_heap HR2.out) (fun x => x)).trans HR2.out
 have HK23 := hdd hk23
 have HR3 := hdd hR3
 obtain ⟨r0, r1, r2, r3, r4, r5, r6⟩ := got_cells hR3
 obtain ⟨z0, z1, z2, z3, z4, z5, z6⟩ := got_free hR3
 clear hb hk23 hR3
 have e64 : ∀ x : Int, IntKind.i64.wrap x = wrap64 x := fun x => by rw [IntKind.wrap_i64, wrap64]
 have E64 := hdd e64
 clear e64
 obtain ⟨t', ht'⟩ : ∃ t', IntKind.i64.wrap t = t' := ⟨_, rfl⟩
 obtain ⟨q', hq'⟩ : ∃ q', IntKind.i64.wrap q = q' := ⟨_, rfl⟩
 go_wp2_with fail
 have hn0 := HN.out
 have hs1 := HS.out
 have hkW0 := got_keep (M := fun i => n0 + 1 = i) (Keep.refl _ w3) (U := n0 + 1) (fun _ => rfl) 0 t' 0 0 0 q' (.slice va vm vc)
 have hkW := got_keep (M := fun i => n0 ≤ i ∧ i < n0 + 3) (HK23.out.weak (fun _ _ x => x.elim)) (U := n0 + 1) (fun _ => by omega) 0 t' 0 0 0 q' (.slice va vm vc)
 refine ret_cell2 (U := n0 + 1) (T := 145) Tryz.results134 rfl rfl rfl (got_set HR3.out _ _ _ _ _ _ _) Tryz.underlying145 igot_size ?_
 refine ⟨t', 0, 0, 0, q', va, vm, vc, _, rfl, Rp.through h hk0.drew HP.out hkW (fun i hi => by simp; omega), fun hz => ?_⟩
 obtain ⟨e1, e2, e3, e4, e5, e6⟩ := HV.out hz
 refine ⟨by rw [← ht', E64.out, e2]; exact e4, rfl, rfl, rfl, by rw [← hq', E64.out, e3]; exact e5, ?_⟩
 have hsz : l.size ≤ 140737488355328 := by
  rw [e1]
  show B.toArray.size ≤ _
  simpa using e6
 have hb : BytesAt (w2.heap.size ≤ ·) w3 (.slice va vm vc) l.data.toList := HB.out hsz
 have hbl : l.data.toList = B := by rw [e1]
 rw [hbl] at hb
 have hmm := Rp.through_M h hk0.drew HP.out hkW (fun i hi => by simp; omega)
 have hw2 := HP.out.keep.size
 simp at hw2
 exact (BytesAt.keep (A := (w2.heap.size ≤ ·)) hb hkW0 (fun i y e => by have := lt_of_heap HR2.out; omega)).weak (fun i _ y => ⟨by omega, fun x => by have := K.lt HP.out.some i (hmm i x); omega⟩)
set_option maxRecDepth 100000 in
theorem Rp.readJ {St : Type} {a1 a2 a3 a4 a5 : Int} {sv : Value} (K : Rp.Ctx St) (op : Int) (hop : op < 13 ∨ 21 < op) {k : Int} {s' : St} {T KT Z I N : Int} {S : List UInt8} (s : St) (w : World) (h : K.Inv s w)
  (hb : ∀ W, Keep (fun _ => False) w W → Calls Tryz.prog 134 #[K.V, .agg (stepJ op a1 a2 a3 a4 a5 sv)] W (Rp.StP K W k s' T KT Z I N S)) :
  Calls Tryz.prog 91 #[K.V, .agg (stepJ op a1 a2 a3 a4 a5 sv)] w (Rp.StP K w k s' T KT Z I N S) := by
 have n13 : (op == 13) = false := by simp; omega
 have n14 : (op == 14) = false := by simp; omega
 have n15 : (op == 15) = false := by simp; omega
 have n16 : (op == 16) = false := by simp; omega
 have n17 : (op == 17) = false := by simp; omega
 have n18 : (op == 18) = false := by simp; omega
 have n19 : (op == 19) = false := by simp; omega
 have n20 : (op == 20) = false := by simp; omega
 have n21 : (op == 21) = false := by simp; omega
 have hk0 : Keep (fun _ => False) w ((w.alloc (.cells (stepJ op a1 a2 a3 a4 a5 sv) 63 (0, 0))).alloc (.cells zGot 145 (0, 0))) := ((Keep.refl _ w).alloc _).alloc _
 have hU0 : ((w.alloc (.cells (stepJ op a1 a2 a3 a4 a5 sv) 63 (0, 0))).alloc (.cells zGot 145 (0, 0))).heap[w.heap.size + 1]? = some (.cells zGot 145 (0, 0)) := heap_alloc_at (by simp) _
 have HB := hdd hb
 have HOP := hdd hop
 clear hb hop
 go_enter Tryz.func91, Tryz.ntmps91
 go_wp2_with fail
 obtain ⟨U, hU⟩ : ∃ U, w.heap.size + 1 = U := ⟨_, rfl⟩
 rw [hU] at hU0 ⊢
 generalize (w.alloc (.cells (stepJ op a1 a2 a3 a4 a5 sv) 63 (0, 0))).alloc (.cells zGot 145 (0, 0)) = w1 at *
 have HU := hdd hU
 have HM := hdd (Rp.M_new h hk0)
 have HU0 := hdd hU0
 clear hU hU0
 refine (HB.out w1 hk0).mono ?_
 rintro e w2 ⟨t, kt, z, i, n, va, vm, vc, ev, rfl, hp, hv⟩
 have HP := hdd hp
 have HV := hdd hv
 have hb := ((hp.keep.block U (lt_of_heap HU0.out) (fun x => by have := HM.out U x; have := HU.out; omega)).trans HU0.out)
 have HB2 := hdd hb
 obtain ⟨u0, u1, u2, u3, u4, u5, u6⟩ := got_cells hb
 obtain ⟨f0, f1, f2, f3, f4, f5, f6⟩ := got_free hb
 clear hb hp hv
 go_wp2_with fail
 have hu := HU.out
 have hu0 := lt_of_heap HU0.out
 have hkW := got_keep (M := fun i => U = i) (Keep.refl _ w2) (U := U) (fun _ => rfl) 0 t kt z i n (.slice va vm vc)
 have hN : ∀ j, U = j → w.heap.size ≤ j ∧ j < w1.heap.size := fun j e => by omega
 refine ret_cell2 (U := U) (T := 145) Tryz.results91 rfl rfl rfl (got_set HB2.out _ _ _ _ _ _ _) Tryz.underlying145 igot_size ?_
 refine ⟨t, kt, z, i, n, va, vm, vc, ev, rfl, Rp.through h hk0 HP.out hkW hN, fun hz => ?_⟩
 obtain ⟨e1, e2, e3, e4, e5, e6⟩ := HV.out hz
 have hmm := Rp.through_M h hk0 HP.out hkW hN
 exact ⟨e1, e2, e3, e4, e5, (e6.keep hkW (fun j y e => by have := y.1; omega)).weak (fun j _ y => ⟨by have := y.1; omega, fun x => y.2 (hmm j x)⟩)⟩
def Rp.RbP {St : Type} (K : Rp.Ctx St) (w : World) (k : Int) (s' : St) (B : List UInt8) (e : Ending) (w' : World) : Prop :=
 ∃ v ev l, e = .returned (.tuple #[v, ev]) ∧ Rp.Post K w w' k ev s' ∧ (∃ A, BytesAt A w' v l) ∧ (k = 0 → l = B)
set_option maxRecDepth 100000 in
theorem Rp.read20 {St : Type} {a1 a2 a3 a4 a5 : Int} {sv : Value} (K : Rp.Ctx St) {fX : FuncId} (hm : Rp.Meth K.T K.P "ReadBinary" fX) {k : Int} {s' : St} {B : List UInt8} (s : St) (w : World) (h : K.Inv s w)
  (hc : ∀ W, Keep (fun _ => False) w W → Calls Tryz.prog fX #[.pointer (some ⟨K.P, 0, none⟩), ctxV] W (Rp.RbP K W k s' B)) :
  Calls Tryz.prog 91 #[K.V, .agg (stepJ 20 a1 a2 a3 a4 a5 sv)] w (Rp.StP K w k s' 0 0 0 0 0 B) := by
 obtain ⟨hnam, hna, hnac⟩ := hm
 have hk0 : Keep (fun _ => False) w ((w.alloc (.cells (stepJ 20 a1 a2 a3 a4 a5 sv) 63 (0, 0))).alloc (.cells zGot 145 (0, 0))) := ((Keep.refl _ w).alloc _).alloc _
 have hU0 : ((w.alloc (.cells (stepJ 20 a1 a2 a3 a4 a5 sv) 63 (0, 0))).alloc (.cells zGot 145 (0, 0))).heap[w.heap.size + 1]? = some (.cells zGot 145 (0, 0)) := heap_alloc_at (by simp) _
 have HC := hdd hc
 clear hc
 go_enter Tryz.func91, Tryz.ntmps91
 go_wp2_with fail
 obtain ⟨U, hU⟩ : ∃ U, w.heap.size + 1 = U := ⟨_, rfl⟩
 rw [hU] at hU0 ⊢
 generalize (w.alloc (.cells (stepJ 20 a1 a2 a3 a4 a5 sv) 63 (0, 0))).alloc (.cells zGot 145 (0, 0)) = w1 at *
 have HU := hdd hU
 have HU0 := hdd hU0
 have HM := hdd (Rp.M_new h hk0)
 clear hU hU0
 go_region_with (first | (go_at_call 37; refine (ctx_at _).mono ?_; rintro e w' ⟨rfl, rfl⟩) | (refine (HC.out w1.drew hk0.drew).mono ?_; rintro e w2 ⟨v, ev, l, rfl, hp, ⟨A, hbv⟩, hv⟩; have HP := hdd hp; have HV := hdd hv; have HBV := hdd hbv; clear hp hv hbv))
 all_goals
  have HB := hdd ((HP.out.keep.block U (by simpa using lt_of_heap HU0.out) (fun x => by have := HM.out U x; have := HU.out; omega)).trans HU0.out)
  go_wp2_with fail
  refine (owned_any HBV.out).mono ?_
  rintro e w3 ⟨va, vm, vc, rfl, hb3, hk3⟩
  have hb4 := (hk3.block U (lt_of_heap HB.out) (fun x => x)).trans HB.out
  have HB3 := hdd hb3
  have HB4 := hdd hb4
  have HK3 := hdd hk3
  obtain ⟨u0, u1, u2, u3, u4, u5, u6⟩ := got_cells hb4
  obtain ⟨f0, f1, f2, f3, f4, f5, f6⟩ := got_free hb4
  clear hb3 hb4 hk3
  go_wp2_with fail
  have hu := HU.out
  have hu0 := lt_of_heap HU0.out
  have hkW := got_keep (M := fun i => U = i) (HK3.out.weak (fun _ _ x => x.elim)) (U := U) (fun _ => rfl) 0 0 0 0 0 0 (.slice va vm vc)
  have hkW3 := got_keep (M := fun i => U = i) (Keep.refl _ w3) (U := U) (fun _ => rfl) 0 0 0 0 0 0 (.slice va vm vc)
  have hN : ∀ j, U = j → w.heap.size ≤ j ∧ j < w1.drew.heap.size := fun j e => by simp; omega
  refine ret_cell2 (U := U) (T := 145) Tryz.results91 rfl rfl rfl (got_set HB4.out _ _ _ _ _ _ _) Tryz.underlying145 igot_size ?_
  refine ⟨0, 0, 0, 0, 0, va, vm, vc, ev, rfl, Rp.through h hk0.drew HP.out hkW hN, fun hz => ⟨rfl, rfl, rfl, rfl, rfl, ?_⟩⟩
  have hmm := Rp.through_M h hk0.drew HP.out hkW hN
  have hw2 := HP.out.keep.size
  simp at hw2
  have hub := lt_of_heap HB.out
  rw [← HV.out hz]
  exact (HB3.out.keep hkW3 (fun j y e => by omega)).weak (fun j _ y => ⟨by omega, fun x => by have := K.lt HP.out.some j (hmm j x); omega⟩)
theorem wrap64_i32 {x : Int} (h : IntKind.i32.wrap x = x) : wrap64 x = x := by
 rw [IntKind.wrap_i32] at h
 simp only [wrap64]
 omega
theorem wrap64_i64 {x : Int} (h : IntKind.i64.wrap x = x) : wrap64 x = x := by
 rw [IntKind.wrap_i64] at h
 simp only [wrap64]
 exact h
theorem wrap64_bd {x a b : Int} (h : a ≤ x ∧ x ≤ b) (ha : -9223372036854775808 ≤ a) (hb : b ≤ 9223372036854775807) : wrap64 x = x := by
 simp only [wrap64]
 omega
structure Rp.Ext {St : Type} (K : Rp.Ctx St) (gK : St → Int) (gS : St → St) (gT gN : St → Int) (gB : St → List UInt8) (fb fe fy fk : FuncId) : Prop where
 mb : Rp.Meth K.T K.P "ReadMessageBegin" fb
 me : Rp.Meth K.T K.P "ReadMessageEnd" fe
 my : Rp.Meth K.T K.P "ReadBinary" fy
 mq : Rp.Meth K.T K.P "Skip" fk
 msg : ∀ {s : St} {w : World}, K.Inv s w → Calls Tryz.prog fb #[.pointer (some ⟨K.P, 0, none⟩), ctxV] w (Rp.MgP K w (gK s) (gS s) (gT s) (gN s) (gB s))
 mge : ∀ {s : St} {w : World}, K.Inv s w → Calls Tryz.prog fe #[.pointer (some ⟨K.P, 0, none⟩), ctxV] w (Rp.EndP K w 0 s)
 byt : ∀ {s : St} {w : World}, K.Inv s w → Calls Tryz.prog fy #[.pointer (some ⟨K.P, 0, none⟩), ctxV] w (Rp.RbP K w (K.pr.scK 11 s) (K.pr.scS 11 s) (K.pr.scB 11 s))
 skp : ∀ {s : St} {w : World} (t : Int), K.Inv s w → K.pr.Room s → Calls Tryz.prog fk #[.pointer (some ⟨K.P, 0, none⟩), ctxV, .int .u8 t] w (Rp.EndP K w (skp K.pr 64 t s).1 (skp K.pr 64 t s).2)
 sb : ∀ {s : St} {w : World}, K.Inv s w → K.pr.dep s < 1099511627776 → Calls Tryz.prog K.fSb #[.pointer (some ⟨K.P, 0, none⟩), ctxV] w (Rp.SbP K w 0 (K.pr.sbS s))
 se : ∀ {s : St} {w : World}, K.Inv s w → ¬ K.pr.one ≤ K.pr.dep s → Calls Tryz.prog K.fSe #[.pointer (some ⟨K.P, 0, none⟩), ctxV] w (Rp.EndP K w 11 s)
 f : ∀ {s : St} {w : World}, K.Inv s w → Calls Tryz.prog K.fFb #[.pointer (some ⟨K.P, 0, none⟩), ctxV] w (Rp.FldP K w (K.pr.fK s) (K.pr.fS s) (K.pr.fT s) (K.pr.fI s))
theorem typW (t : Int) (w : World) : Calls Tryz.prog 67 #[.int .i64 t] w fun e w' => e = .returned (.int .u8 (IntKind.u8.wrap t)) ∧ w = w' := by
 go_enter Tryz.func67, Tryz.ntmps67
 go_wp2_with fail
 go_ret
 exact ⟨rfl, rfl⟩
set_option maxRecDepth 100000 in
theorem Rp.begunJ22 {St : Type} {a1 a2 a3 a4 a5 : Int} {sv : Value} (K : Rp.Ctx St) {fX : FuncId} (hm : Rp.Meth K.T K.P "Skip" fX) {k : Int} {s' : St} (s : St) (w : World) (h : K.Inv s w) (hc : ∀ W, Keep (fun _ => False) w W → Calls Tryz.prog fX #[.pointer (some ⟨K.P, 0, none⟩), ctxV, .int .u8 (IntKind.u8.wrap a1)] W (Rp.EndP K W k s')) :
  Calls Tryz.prog 134 #[K.V, .agg (stepJ 22 a1 a2 a3 a4 a5 sv)] w (Rp.StP K w k s' 0 0 0 0 0 []) := by
 obtain ⟨hnam, hna, hnac⟩ := hm
 have hk0 : Keep (fun _ => False) w (((w.alloc (.cells (stepJ 22 a1 a2 a3 a4 a5 sv) 63 (0, 0))).alloc (.cells zGot 145 (0, 0))).alloc (.cells zGot 145 (0, 0))) := (((Keep.refl _ w).alloc _).alloc _).alloc _
 have hR0 : (((w.alloc (.cells (stepJ 22 a1 a2 a3 a4 a5 sv) 63 (0, 0))).alloc (.cells zGot 145 (0, 0))).alloc (.cells zGot 145 (0, 0))).heap[w.heap.size + 1]? = some (.cells zGot 145 (0, 0)) := (Below.heap_alloc _ _ _ (by simp)).trans (heap_alloc_at (by simp) _)
 have hT0 : (((w.alloc (.cells (stepJ 22 a1 a2 a3 a4 a5 sv) 63 (0, 0))).alloc (.cells zGot 145 (0, 0))).alloc (.cells zGot 145 (0, 0))).cell? ⟨w.heap.size, 1, none⟩ = some (.int .i64 a1) := by
  have hq : (((w.alloc (.cells (stepJ 22 a1 a2 a3 a4 a5 sv) 63 (0, 0))).alloc (.cells zGot 145 (0, 0))).alloc (.cells zGot 145 (0, 0))).heap[w.heap.size]? = some (.cells (stepJ 22 a1 a2 a3 a4 a5 sv) 63 (0, 0)) := (Below.heap_alloc _ _ _ (by simp; omega)).trans ((Below.heap_alloc _ _ _ (by simp)).trans (heap_alloc_at rfl _))
  simp [cellAt hq 1, stepJ]
 have hG0 : (((w.alloc (.cells (stepJ 22 a1 a2 a3 a4 a5 sv) 63 (0, 0))).alloc (.cells zGot 145 (0, 0))).alloc (.cells zGot 145 (0, 0))).heap[w.heap.size + 1 + 1]? = some (.cells zGot 145 (0, 0)) := heap_alloc_at (by simp) _
 have hs0 : (((w.alloc (.cells (stepJ 22 a1 a2 a3 a4 a5 sv) 63 (0, 0))).alloc (.cells zGot 145 (0, 0))).alloc (.cells zGot 145 (0, 0))).heap.size = w.heap.size + 3 := by simp
 have HC := hdd hc
 clear hc
 go_enter Tryz.func134, Tryz.ntmps134
 go_wp2_with fail
 obtain ⟨n0, hn⟩ : ∃ n0, w.heap.size = n0 := ⟨_, rfl⟩
 rw [hn] at hR0 hG0 hs0 hT0 ⊢
 generalize ((w.alloc (.cells (stepJ 22 a1 a2 a3 a4 a5 sv) 63 (0, 0))).alloc (.cells zGot 145 (0, 0))).alloc (.cells zGot 145 (0, 0)) = w1 at *
 have HN := hdd hn
 have HR := hdd hR0
 have HG := hdd hG0
 have HS := hdd hs0
 have HM := hdd (Rp.M_new h hk0)
 obtain ⟨u0, u1, u2, u3, u4, u5, u6⟩ := got_cells hG0
 obtain ⟨f0, f1, f2, f3, f4, f5, f6⟩ := got_free hG0
 clear hn hR0 hG0 hs0
 go_region_with (first | (go_at_call 37; refine (ctx_at _).mono ?_; rintro e w' ⟨rfl, rfl⟩) | (go_at_call 67; refine (typW _ _).mono ?_; rintro e w' ⟨rfl, rfl⟩) | (refine (HC.out w1.drew hk0.drew).mono ?_; rintro e w2 ⟨ev, rfl, hp⟩; have HP := hdd hp; have HG2 := hdd ((hp.keep.block (n0 + 1 + 1) (by simpa using lt_of_heap HG.out) (fun x => by have := HM.out _ x; have := HN.out; omega)).trans HG.out); clear hp; obtain ⟨x0, x1, x2, x3, x4, x5, x6⟩ := got_cells HG2.out; obtain ⟨y0, y1, y2, y3, y4, y5, y6⟩ := got_free HG2.out))
 all_goals
  have hG3 := HG2.out
  have hR3 : w2.heap[n0 + 1]? = some (.cells zGot 145 (0, 0)) := ((HP.out.keep.block (n0 + 1) (by simpa using lt_of_heap HR.out) (fun x => by have := HM.out _ x; have := HN.out; omega)).trans HR.out)
  clear x0 x1 x2 x3 x4 x5 x6 y0 y1 y2 y3 y4 y5 y6 u0 u1 u2 u3 u4 u5 u6 f0 f1 f2 f3 f4 f5 f6
  obtain ⟨w3, hw3⟩ : ∃ w3, w2 = w3 := ⟨_, rfl⟩
  rw [hw3] at hG3 hR3 ⊢
  have hk3 : Keep (fun i => n0 ≤ i ∧ i < n0 + 3) w2 w3 := hw3 ▸ Keep.refl _ w2
  clear hw3
  have hG4 : w3.heap[n0 + 1 + 1]? = some (.cells (gotA 0 0 0 0 0 0 nilB) 145 (0, 0)) := hG3
  obtain ⟨x0, x1, x2, x3, x4, x5, x6⟩ := got_cells hG4
  obtain ⟨y0, y1, y2, y3, y4, y5, y6⟩ := got_free hG4
  obtain ⟨r0, r1, r2, r3, r4, r5, r6⟩ := got_cells hR3
  obtain ⟨z0, z1, z2, z3, z4, z5, z6⟩ := got_free hR3
  have HG4 := hdd hG4
  have HR3 := hdd hR3
  clear hG3 hG4 hR3
  go_wp2_with fail
  have hn0 := HN.out
  have hs1 := HS.out
  have hR4 : ((w3.setCell ⟨n0 + 1 + 1, 1, none⟩ (.int .i64 0)).setCell ⟨n0 + 1 + 1, 2, none⟩ (.int .i64 0)).heap[n0 + 1]? = some (.cells zGot 145 (0, 0)) := (heap_set_other (p := ⟨n0 + 1 + 1, 2, none⟩) _ (by simp)).trans ((heap_set_other (p := ⟨n0 + 1 + 1, 1, none⟩) _ (by simp)).trans HR3.out)
  have hkN : Keep (fun i => n0 ≤ i ∧ i < n0 + 3) w2 ((w3.setCell ⟨n0 + 1 + 1, 1, none⟩ (.int .i64 0)).setCell ⟨n0 + 1 + 1, 2, none⟩ (.int .i64 0)) := (hk3.set (n0 + 1 + 1) 1 (fun _ => by omega) _).set (n0 + 1 + 1) 2 (fun _ => by omega) _
  have hkW := got_keep hkN (U := n0 + 1) (fun _ => by omega) 0 0 0 0 0 0 nilB
  refine ret_cell2 (U := n0 + 1) (T := 145) Tryz.results134 rfl rfl rfl (got_set hR4 _ _ _ _ _ _ _) Tryz.underlying145 igot_size ?_
  exact ⟨0, 0, 0, 0, 0, none, 0, 0, ev, rfl, Rp.through h hk0.drew HP.out hkW (fun i hi => by simp; omega), fun _ => ⟨rfl, rfl, rfl, rfl, rfl, .inl ⟨rfl, _, _, rfl⟩⟩⟩
set_option maxRecDepth 100000 in
theorem Rp.begunJ_ {St : Type} {op : Int} {a1 a2 a3 a4 a5 : Int} {sv : Value} (K : Rp.Ctx St) (hop : op < 0 ∨ 12 < op ∧ op ≠ 22 ∨ op = 6) (s : St) (w : World) (h : K.Inv s w) :
  Calls Tryz.prog 134 #[K.V, .agg (stepJ op a1 a2 a3 a4 a5 sv)] w (Rp.StP K w 0 s 0 0 0 0 0 []) := by
 have b0 : (op == 0) = false := by simp; omega
 have b1 : (op == 1) = false := by simp; omega
 have b2 : (op == 2) = false := by simp; omega
 have b3 : (op == 3) = false := by simp; omega
 have b4 : (op == 4) = false := by simp; omega
 have b5 : (op == 5) = false := by simp; omega
 have b7 : (op == 7) = false := by simp; omega
 have b8 : (op == 8) = false := by simp; omega
 have b9 : (op == 9) = false := by simp; omega
 have b10 : (op == 10) = false := by simp; omega
 have b11 : (op == 11) = false := by simp; omega
 have b12 : (op == 12) = false := by simp; omega
 have b22 : (op == 22) = false := by simp; omega
 have hk0 : Keep (fun _ => False) w (((w.alloc (.cells (stepJ op a1 a2 a3 a4 a5 sv) 63 (0, 0))).alloc (.cells zGot 145 (0, 0))).alloc (.cells zGot 145 (0, 0))) := (((Keep.refl _ w).alloc _).alloc _).alloc _
 have hR0 : (((w.alloc (.cells (stepJ op a1 a2 a3 a4 a5 sv) 63 (0, 0))).alloc (.cells zGot 145 (0, 0))).alloc (.cells zGot 145 (0, 0))).heap[w.heap.size + 1]? = some (.cells zGot 145 (0, 0)) := (Below.heap_alloc _ _ _ (by simp)).trans (heap_alloc_at (by simp) _)
 have hT0 : True := trivial
 have hG0 : (((w.alloc (.cells (stepJ op a1 a2 a3 a4 a5 sv) 63 (0, 0))).alloc (.cells zGot 145 (0, 0))).alloc (.cells zGot 145 (0, 0))).heap[w.heap.size + 1 + 1]? = some (.cells zGot 145 (0, 0)) := heap_alloc_at (by simp) _
 have hs0 : (((w.alloc (.cells (stepJ op a1 a2 a3 a4 a5 sv) 63 (0, 0))).alloc (.cells zGot 145 (0, 0))).alloc (.cells zGot 145 (0, 0))).heap.size = w.heap.size + 3 := by simp
 go_enter Tryz.func134, Tryz.ntmps134
 go_wp2_with fail
 obtain ⟨n0, hn⟩ : ∃ n0, w.heap.size = n0 := ⟨_, rfl⟩
 rw [hn] at hR0 hG0 hs0 ⊢
 generalize ((w.alloc (.cells (stepJ op a1 a2 a3 a4 a5 sv) 63 (0, 0))).alloc (.cells zGot 145 (0, 0))).alloc (.cells zGot 145 (0, 0)) = w1 at *
 have HN := hdd hn
 have HR := hdd hR0
 have HG := hdd hG0
 have HS := hdd hs0
 have HM := hdd (Rp.M_new h hk0)
 obtain ⟨u0, u1, u2, u3, u4, u5, u6⟩ := got_cells hG0
 obtain ⟨f0, f1, f2, f3, f4, f5, f6⟩ := got_free hG0
 clear hn hR0 hG0 hs0
 clear u0 u1 u2 u3 u4 u5 u6 f0 f1 f2 f3 f4 f5 f6
 have HK0 := hdd hk0
 have hG4 : w1.heap[n0 + 1 + 1]? = some (.cells (gotA 0 0 0 0 0 0 nilB) 145 (0, 0)) := HG.out
 obtain ⟨x0, x1, x2, x3, x4, x5, x6⟩ := got_cells hG4
 obtain ⟨y0, y1, y2, y3, y4, y5, y6⟩ := got_free hG4
 obtain ⟨r0, r1, r2, r3, r4, r5, r6⟩ := got_cells HR.out
 obtain ⟨z0, z1, z2, z3, z4, z5, z6⟩ := got_free HR.out
 have HT0 := hdd hT0
 have HG4 := hdd hG4
 clear hG4 hT0
 go_wp2_with fail
 refine ret_cell2 (U := n0 + 1) (T := 145) Tryz.results134 rfl rfl rfl (cs := gotA 0 0 0 0 0 0 nilB) HR.out Tryz.underlying145 igot_size ?_
 exact ⟨0, 0, 0, 0, 0, none, 0, 0, .nilIface, rfl, Rp.Post.onto (Rp.kept h HK0.out) (Rp.nothing (h.fresh HK0.out)), fun _ => ⟨rfl, rfl, rfl, rfl, rfl, .inl ⟨rfl, _, _, rfl⟩⟩⟩
end Go.Proofs.YtjekbomlpcdojaaGreatDoor
