/- Part 33 of the proof: ReadCmp, Get1Cmp, GetScCmp, FrmCmp. -/
import Derived.Test.YtnccjcbelcbgoaaGreatDoorA32
import Derived.Test.YtnccjcbelcbgoaaGreatDoorA24
import Derived.Test.YtnccjcbelcbgoaaGreatDoorA16
import Derived.Test.YtnccjcbelcbgoaaGreatDoorA15
import Derived.Test.YtnccjcbelcbgoaaGreatDoorA17
import Derived.Test.YtnccjcbelcbgoaaGreatDoorA30
import Derived.Deep.RegionWith
import Derived.Maps.AppendAt
set_option linter.unusedVariables false
set_option linter.unusedSimpArgs false
set_option linter.unusedSectionVars false
/- The thin package: one call of a protocol that reads a scalar. -/
namespace Go.Proofs.YtnccjcbelcbgoaaGreatDoor
open Go Go.RowKit

/-- What reading a scalar tells: a number, some bytes, an error. -/
def Cmp.ReadP (K : Cmp.Ctx) (w : World) (k : Int) (s' : Cmp.St) (N : Int) (S : List UInt8) (e : Ending) (w' : World) : Prop :=
  ∃ n v ev, e = .returned (.tuple #[gotV 0 0 0 0 0 n v, ev]) ∧ Cmp.Post K w w' k ev s' ∧ (∃ a m c, v = .slice a m c) ∧ (k = 0 → n = N ∧ BytesAt (fun i => w.heap.size ≤ i ∧ ¬ Cmp.M K w' i) w' v S)

theorem Cmp.na_ReadBool (K : Cmp.Ctx) (w : World) : (nilAhead 491 106 (.pointer (some ⟨K.P, 0, none⟩)) "ReadBool").run Tryz.prog w = .ok (some false) w := by kernel_rfl

set_option maxRecDepth 100000 in
set_option maxHeartbeats 4000000 in
theorem Cmp.read13 (K : Cmp.Ctx) (s : Cmp.St) (w : World) (h : Cmp.Inv K s w) :
    Calls Tryz.prog 49 #[Cmp.V K, .agg (stepI 13)] w (Cmp.ReadP K w ((Cmp.pr K).scK 2 s) ((Cmp.pr K).scS 2 s) ((Cmp.pr K).scN 2 s) ((Cmp.pr K).scB 2 s)) := by
  have hna := Cmp.na_ReadBool K
  go_enter Tryz.func49, Tryz.ntmps49
  go_wp2_with fail
  have hk0 : Keep (fun _ => False) w ((w.alloc (.cells (stepI 13) 151 (0, 0))).alloc (.cells zGot 148 (0, 0))) := ((Keep.refl _ w).alloc _).alloc _
  have hU0 : ((w.alloc (.cells (stepI 13) 151 (0, 0))).alloc (.cells zGot 148 (0, 0))).heap[w.heap.size + 1]? = some (.cells zGot 148 (0, 0)) := heap_alloc_at (by simp) _
  obtain ⟨U, hU⟩ : ∃ U, w.heap.size + 1 = U := ⟨_, rfl⟩
  rw [hU] at hU0 ⊢
  generalize (w.alloc (.cells (stepI 13) 151 (0, 0))).alloc (.cells zGot 148 (0, 0)) = w1 at *
  have HU := Lib.hid hU
  have HU0 := Lib.hid hU0
  have hM := Cmp.M_new h hk0
  have HM := Lib.hid hM
  clear hU hU0 hM
  go_region_with (first | (go_at_call 21; refine (ctx_at _).mono ?_; rintro e w' ⟨rfl, rfl⟩) | (go_at_call 155; refine (Cmp.readBool (w := w1.drew) (h.fresh hk0.drew)).mono ?_; rintro e w2 ⟨v, ev, rfl, hp, hv⟩; have HP := Lib.hid hp; have HV := Lib.hid hv; clear hp hv))
  all_goals
    have hb := ((HP.out.keep.block U (by simpa using lt_of_heap HU0.out) (fun x => by have := HM.out U x; have := HU.out; omega)).trans HU0.out)
    have HB := Lib.hid hb
    obtain ⟨u0, u1, u2, u3, u4, u5, u6⟩ := got_cells hb
    obtain ⟨f0, f1, f2, f3, f4, f5, f6⟩ := got_free hb
    clear hb
    obtain ⟨n, hn⟩ : ∃ n : Int, n = if v = true then 1 else 0 := ⟨_, rfl⟩
    have HN := Lib.hid hn
    clear hn
    cases v
    · have hn0 : n = 0 := by simpa using HN.out
      subst hn0
      go_wp2_with fail
      have hk2 : Keep (fun i => U = i) w2 (gotW w2 U 0 0 0 0 0 0 nilB) := got_keep (Keep.refl _ w2) (fun _ => rfl) _ _ _ _ _ _ _
      refine ret_cell2 (U := U) (T := 148) Tryz.results49 rfl rfl rfl (got_set HB.out _ _ _ _ _ _ _) Tryz.underlying148 igot_size ?_
      refine ⟨0, nilB, ev, rfl, ?_, ⟨_, _, _, rfl⟩, fun hk => ⟨by simpa using HV.out hk, .inl ⟨Cmp.b2 K s, _, _, rfl⟩⟩⟩
      exact Cmp.through h hk0.drew HP.out hk2 (fun i hi => by have := HU.out; have := lt_of_heap HU0.out; simp; omega)
    · have hn1 : n = 1 := by simpa using HN.out
      subst hn1
      go_wp2_with fail
      have hk2 : Keep (fun i => U = i) w2 (gotW w2 U 0 0 0 0 0 1 nilB) := got_keep (Keep.refl _ w2) (fun _ => rfl) _ _ _ _ _ _ _
      refine ret_cell2 (U := U) (T := 148) Tryz.results49 rfl rfl rfl (got_set HB.out _ _ _ _ _ _ _) Tryz.underlying148 igot_size ?_
      refine ⟨1, nilB, ev, rfl, ?_, ⟨_, _, _, rfl⟩, fun hk => ⟨by simpa using HV.out hk, .inl ⟨Cmp.b2 K s, _, _, rfl⟩⟩⟩
      exact Cmp.through h hk0.drew HP.out hk2 (fun i hi => by have := HU.out; have := lt_of_heap HU0.out; simp; omega)

theorem Cmp.na_ReadByte (K : Cmp.Ctx) (w : World) : (nilAhead 491 106 (.pointer (some ⟨K.P, 0, none⟩)) "ReadByte").run Tryz.prog w = .ok (some false) w := by kernel_rfl

set_option maxRecDepth 100000 in
set_option maxHeartbeats 4000000 in
theorem Cmp.read14 (K : Cmp.Ctx) (s : Cmp.St) (w : World) (h : Cmp.Inv K s w) :
    Calls Tryz.prog 49 #[Cmp.V K, .agg (stepI 14)] w (Cmp.ReadP K w ((Cmp.pr K).scK 3 s) ((Cmp.pr K).scS 3 s) ((Cmp.pr K).scN 3 s) ((Cmp.pr K).scB 3 s)) := by
  have hna := Cmp.na_ReadByte K
  go_enter Tryz.func49, Tryz.ntmps49
  go_wp2_with fail
  have hk0 : Keep (fun _ => False) w ((w.alloc (.cells (stepI 14) 151 (0, 0))).alloc (.cells zGot 148 (0, 0))) := ((Keep.refl _ w).alloc _).alloc _
  have hU0 : ((w.alloc (.cells (stepI 14) 151 (0, 0))).alloc (.cells zGot 148 (0, 0))).heap[w.heap.size + 1]? = some (.cells zGot 148 (0, 0)) := heap_alloc_at (by simp) _
  obtain ⟨U, hU⟩ : ∃ U, w.heap.size + 1 = U := ⟨_, rfl⟩
  rw [hU] at hU0 ⊢
  generalize (w.alloc (.cells (stepI 14) 151 (0, 0))).alloc (.cells zGot 148 (0, 0)) = w1 at *
  have HU := Lib.hid hU
  have HU0 := Lib.hid hU0
  have hM := Cmp.M_new h hk0
  have HM := Lib.hid hM
  clear hU hU0 hM
  go_region_with (first | (go_at_call 21; refine (ctx_at _).mono ?_; rintro e w' ⟨rfl, rfl⟩) | (go_at_call 156; refine (Cmp.readByte (w := w1.drew) (h.fresh hk0.drew)).mono ?_; rintro e w2 ⟨n, ev, rfl, hp, hv, b1, b2⟩; have HP := Lib.hid hp; have HV := Lib.hid hv; clear hp hv))
  all_goals
    have hb := ((HP.out.keep.block U (by simpa using lt_of_heap HU0.out) (fun x => by have := HM.out U x; have := HU.out; omega)).trans HU0.out)
    have HB := Lib.hid hb
    obtain ⟨u0, u1, u2, u3, u4, u5, u6⟩ := got_cells hb
    obtain ⟨f0, f1, f2, f3, f4, f5, f6⟩ := got_free hb
    clear hb
    go_wp2_with fail
    have hk2 : Keep (fun i => U = i) w2 (gotW w2 U 0 0 0 0 0 n nilB) := got_keep (Keep.refl _ w2) (fun _ => rfl) _ _ _ _ _ _ _
    refine ret_cell2 (U := U) (T := 148) Tryz.results49 rfl rfl rfl (got_set HB.out _ _ _ _ _ _ _) Tryz.underlying148 igot_size ?_
    refine ⟨n, nilB, ev, rfl, ?_, ⟨_, _, _, rfl⟩, fun hk => ⟨HV.out hk, .inl ⟨Cmp.b3 K s, _, _, rfl⟩⟩⟩
    exact Cmp.through h hk0.drew HP.out hk2 (fun i hi => by have := HU.out; have := lt_of_heap HU0.out; simp; omega)

theorem Cmp.na_ReadI16 (K : Cmp.Ctx) (w : World) : (nilAhead 491 106 (.pointer (some ⟨K.P, 0, none⟩)) "ReadI16").run Tryz.prog w = .ok (some false) w := by kernel_rfl

set_option maxRecDepth 100000 in
set_option maxHeartbeats 4000000 in
theorem Cmp.read15 (K : Cmp.Ctx) (s : Cmp.St) (w : World) (h : Cmp.Inv K s w) :
    Calls Tryz.prog 49 #[Cmp.V K, .agg (stepI 15)] w (Cmp.ReadP K w ((Cmp.pr K).scK 6 s) ((Cmp.pr K).scS 6 s) ((Cmp.pr K).scN 6 s) ((Cmp.pr K).scB 6 s)) := by
  have hna := Cmp.na_ReadI16 K
  go_enter Tryz.func49, Tryz.ntmps49
  go_wp2_with fail
  have hk0 : Keep (fun _ => False) w ((w.alloc (.cells (stepI 15) 151 (0, 0))).alloc (.cells zGot 148 (0, 0))) := ((Keep.refl _ w).alloc _).alloc _
  have hU0 : ((w.alloc (.cells (stepI 15) 151 (0, 0))).alloc (.cells zGot 148 (0, 0))).heap[w.heap.size + 1]? = some (.cells zGot 148 (0, 0)) := heap_alloc_at (by simp) _
  obtain ⟨U, hU⟩ : ∃ U, w.heap.size + 1 = U := ⟨_, rfl⟩
  rw [hU] at hU0 ⊢
  generalize (w.alloc (.cells (stepI 15) 151 (0, 0))).alloc (.cells zGot 148 (0, 0)) = w1 at *
  have HU := Lib.hid hU
  have HU0 := Lib.hid hU0
  have hM := Cmp.M_new h hk0
  have HM := Lib.hid hM
  clear hU hU0 hM
  go_region_with (first | (go_at_call 21; refine (ctx_at _).mono ?_; rintro e w' ⟨rfl, rfl⟩) | (go_at_call 160; refine (Cmp.readI16 (w := w1.drew) (h.fresh hk0.drew)).mono ?_; rintro e w2 ⟨n, ev, rfl, hp, hv, b1, b2⟩; have HP := Lib.hid hp; have HV := Lib.hid hv; clear hp hv))
  all_goals
    have hb := ((HP.out.keep.block U (by simpa using lt_of_heap HU0.out) (fun x => by have := HM.out U x; have := HU.out; omega)).trans HU0.out)
    have HB := Lib.hid hb
    obtain ⟨u0, u1, u2, u3, u4, u5, u6⟩ := got_cells hb
    obtain ⟨f0, f1, f2, f3, f4, f5, f6⟩ := got_free hb
    clear hb
    go_wp2_with fail
    have hk2 : Keep (fun i => U = i) w2 (gotW w2 U 0 0 0 0 0 n nilB) := got_keep (Keep.refl _ w2) (fun _ => rfl) _ _ _ _ _ _ _
    refine ret_cell2 (U := U) (T := 148) Tryz.results49 rfl rfl rfl (got_set HB.out _ _ _ _ _ _ _) Tryz.underlying148 igot_size ?_
    refine ⟨n, nilB, ev, rfl, ?_, ⟨_, _, _, rfl⟩, fun hk => ⟨HV.out hk, .inl ⟨Cmp.b6 K s, _, _, rfl⟩⟩⟩
    exact Cmp.through h hk0.drew HP.out hk2 (fun i hi => by have := HU.out; have := lt_of_heap HU0.out; simp; omega)

theorem Cmp.na_ReadI32 (K : Cmp.Ctx) (w : World) : (nilAhead 491 106 (.pointer (some ⟨K.P, 0, none⟩)) "ReadI32").run Tryz.prog w = .ok (some false) w := by kernel_rfl

set_option maxRecDepth 100000 in
set_option maxHeartbeats 4000000 in
theorem Cmp.read16 (K : Cmp.Ctx) (s : Cmp.St) (w : World) (h : Cmp.Inv K s w) :
    Calls Tryz.prog 49 #[Cmp.V K, .agg (stepI 16)] w (Cmp.ReadP K w ((Cmp.pr K).scK 8 s) ((Cmp.pr K).scS 8 s) ((Cmp.pr K).scN 8 s) ((Cmp.pr K).scB 8 s)) := by
  have hna := Cmp.na_ReadI32 K
  go_enter Tryz.func49, Tryz.ntmps49
  go_wp2_with fail
  have hk0 : Keep (fun _ => False) w ((w.alloc (.cells (stepI 16) 151 (0, 0))).alloc (.cells zGot 148 (0, 0))) := ((Keep.refl _ w).alloc _).alloc _
  have hU0 : ((w.alloc (.cells (stepI 16) 151 (0, 0))).alloc (.cells zGot 148 (0, 0))).heap[w.heap.size + 1]? = some (.cells zGot 148 (0, 0)) := heap_alloc_at (by simp) _
  obtain ⟨U, hU⟩ : ∃ U, w.heap.size + 1 = U := ⟨_, rfl⟩
  rw [hU] at hU0 ⊢
  generalize (w.alloc (.cells (stepI 16) 151 (0, 0))).alloc (.cells zGot 148 (0, 0)) = w1 at *
  have HU := Lib.hid hU
  have HU0 := Lib.hid hU0
  have hM := Cmp.M_new h hk0
  have HM := Lib.hid hM
  clear hU hU0 hM
  go_region_with (first | (go_at_call 21; refine (ctx_at _).mono ?_; rintro e w' ⟨rfl, rfl⟩) | (go_at_call 161; refine (Cmp.readI32 (w := w1.drew) (h.fresh hk0.drew)).mono ?_; rintro e w2 ⟨n, ev, rfl, hp, hv, b1, b2⟩; have HP := Lib.hid hp; have HV := Lib.hid hv; clear hp hv))
  all_goals
    have hb := ((HP.out.keep.block U (by simpa using lt_of_heap HU0.out) (fun x => by have := HM.out U x; have := HU.out; omega)).trans HU0.out)
    have HB := Lib.hid hb
    obtain ⟨u0, u1, u2, u3, u4, u5, u6⟩ := got_cells hb
    obtain ⟨f0, f1, f2, f3, f4, f5, f6⟩ := got_free hb
    clear hb
    go_wp2_with fail
    have hk2 : Keep (fun i => U = i) w2 (gotW w2 U 0 0 0 0 0 n nilB) := got_keep (Keep.refl _ w2) (fun _ => rfl) _ _ _ _ _ _ _
    refine ret_cell2 (U := U) (T := 148) Tryz.results49 rfl rfl rfl (got_set HB.out _ _ _ _ _ _ _) Tryz.underlying148 igot_size ?_
    refine ⟨n, nilB, ev, rfl, ?_, ⟨_, _, _, rfl⟩, fun hk => ⟨HV.out hk, .inl ⟨Cmp.b8 K s, _, _, rfl⟩⟩⟩
    exact Cmp.through h hk0.drew HP.out hk2 (fun i hi => by have := HU.out; have := lt_of_heap HU0.out; simp; omega)

theorem Cmp.na_ReadI64 (K : Cmp.Ctx) (w : World) : (nilAhead 491 106 (.pointer (some ⟨K.P, 0, none⟩)) "ReadI64").run Tryz.prog w = .ok (some false) w := by kernel_rfl

set_option maxRecDepth 100000 in
set_option maxHeartbeats 4000000 in
theorem Cmp.read17 (K : Cmp.Ctx) (s : Cmp.St) (w : World) (h : Cmp.Inv K s w) :
    Calls Tryz.prog 49 #[Cmp.V K, .agg (stepI 17)] w (Cmp.ReadP K w ((Cmp.pr K).scK 10 s) ((Cmp.pr K).scS 10 s) ((Cmp.pr K).scN 10 s) ((Cmp.pr K).scB 10 s)) := by
  have hna := Cmp.na_ReadI64 K
  go_enter Tryz.func49, Tryz.ntmps49
  go_wp2_with fail
  have hk0 : Keep (fun _ => False) w ((w.alloc (.cells (stepI 17) 151 (0, 0))).alloc (.cells zGot 148 (0, 0))) := ((Keep.refl _ w).alloc _).alloc _
  have hU0 : ((w.alloc (.cells (stepI 17) 151 (0, 0))).alloc (.cells zGot 148 (0, 0))).heap[w.heap.size + 1]? = some (.cells zGot 148 (0, 0)) := heap_alloc_at (by simp) _
  obtain ⟨U, hU⟩ : ∃ U, w.heap.size + 1 = U := ⟨_, rfl⟩
  rw [hU] at hU0 ⊢
  generalize (w.alloc (.cells (stepI 17) 151 (0, 0))).alloc (.cells zGot 148 (0, 0)) = w1 at *
  have HU := Lib.hid hU
  have HU0 := Lib.hid hU0
  have hM := Cmp.M_new h hk0
  have HM := Lib.hid hM
  clear hU hU0 hM
  go_region_with (first | (go_at_call 21; refine (ctx_at _).mono ?_; rintro e w' ⟨rfl, rfl⟩) | (go_at_call 162; refine (Cmp.readI64 (w := w1.drew) (h.fresh hk0.drew)).mono ?_; rintro e w2 ⟨n, ev, rfl, hp, hv, b1, b2⟩; have HP := Lib.hid hp; have HV := Lib.hid hv; clear hp hv))
  all_goals
    have hb := ((HP.out.keep.block U (by simpa using lt_of_heap HU0.out) (fun x => by have := HM.out U x; have := HU.out; omega)).trans HU0.out)
    have HB := Lib.hid hb
    obtain ⟨u0, u1, u2, u3, u4, u5, u6⟩ := got_cells hb
    obtain ⟨f0, f1, f2, f3, f4, f5, f6⟩ := got_free hb
    clear hb
    go_wp2_with fail
    have hk2 : Keep (fun i => U = i) w2 (gotW w2 U 0 0 0 0 0 n nilB) := got_keep (Keep.refl _ w2) (fun _ => rfl) _ _ _ _ _ _ _
    refine ret_cell2 (U := U) (T := 148) Tryz.results49 rfl rfl rfl (got_set HB.out _ _ _ _ _ _ _) Tryz.underlying148 igot_size ?_
    refine ⟨n, nilB, ev, rfl, ?_, ⟨_, _, _, rfl⟩, fun hk => ⟨HV.out hk, .inl ⟨Cmp.b10 K s, _, _, rfl⟩⟩⟩
    exact Cmp.through h hk0.drew HP.out hk2 (fun i hi => by have := HU.out; have := lt_of_heap HU0.out; simp; omega)

theorem Cmp.na_ReadDouble (K : Cmp.Ctx) (w : World) : (nilAhead 491 106 (.pointer (some ⟨K.P, 0, none⟩)) "ReadDouble").run Tryz.prog w = .ok (some false) w := by kernel_rfl

set_option maxRecDepth 100000 in
set_option maxHeartbeats 4000000 in
theorem Cmp.read18 (K : Cmp.Ctx) (s : Cmp.St) (w : World) (h : Cmp.Inv K s w) :
    Calls Tryz.prog 49 #[Cmp.V K, .agg (stepI 18)] w (Cmp.ReadP K w ((Cmp.pr K).scK 4 s) ((Cmp.pr K).scS 4 s) ((Cmp.pr K).scN 4 s) ((Cmp.pr K).scB 4 s)) := by
  have hna := Cmp.na_ReadDouble K
  go_enter Tryz.func49, Tryz.ntmps49
  go_wp2_with fail
  have hk0 : Keep (fun _ => False) w ((w.alloc (.cells (stepI 18) 151 (0, 0))).alloc (.cells zGot 148 (0, 0))) := ((Keep.refl _ w).alloc _).alloc _
  have hU0 : ((w.alloc (.cells (stepI 18) 151 (0, 0))).alloc (.cells zGot 148 (0, 0))).heap[w.heap.size + 1]? = some (.cells zGot 148 (0, 0)) := heap_alloc_at (by simp) _
  obtain ⟨U, hU⟩ : ∃ U, w.heap.size + 1 = U := ⟨_, rfl⟩
  rw [hU] at hU0 ⊢
  generalize (w.alloc (.cells (stepI 18) 151 (0, 0))).alloc (.cells zGot 148 (0, 0)) = w1 at *
  have HU := Lib.hid hU
  have HU0 := Lib.hid hU0
  have hM := Cmp.M_new h hk0
  have HM := Lib.hid hM
  clear hU hU0 hM
  go_region_with (first | (go_at_call 21; refine (ctx_at _).mono ?_; rintro e w' ⟨rfl, rfl⟩) | (go_at_call 157; refine (Cmp.readDouble (w := w1.drew) (h.fresh hk0.drew)).mono ?_; rintro e w2 ⟨n, ev, rfl, hp, hb0, hv⟩; have HP := Lib.hid hp; have HV := Lib.hid hv; clear hp hv))
  all_goals
    have hb := ((HP.out.keep.block U (by simpa using lt_of_heap HU0.out) (fun x => by have := HM.out U x; have := HU.out; omega)).trans HU0.out)
    have HB := Lib.hid hb
    obtain ⟨u0, u1, u2, u3, u4, u5, u6⟩ := got_cells hb
    obtain ⟨f0, f1, f2, f3, f4, f5, f6⟩ := got_free hb
    clear hb
    have hfb := tobits
    go_wp2_with fail
    have hk2 : Keep (fun i => U = i) w2 (gotW w2 U 0 0 0 0 0 (wrap64 n) nilB) := got_keep (Keep.refl _ w2) (fun _ => rfl) _ _ _ _ _ _ _
    refine ret_cell2 (U := U) (T := 148) Tryz.results49 rfl rfl rfl (got_set HB.out _ _ _ _ _ _ _) Tryz.underlying148 igot_size ?_
    refine ⟨wrap64 n, nilB, ev, rfl, ?_, ⟨_, _, _, rfl⟩, fun hk => ⟨HV.out hk, .inl ⟨Cmp.b4 K s, _, _, rfl⟩⟩⟩
    exact Cmp.through h hk0.drew HP.out hk2 (fun i hi => by have := HU.out; have := lt_of_heap HU0.out; simp; omega)

theorem Cmp.na_ReadString (K : Cmp.Ctx) (w : World) : (nilAhead 491 106 (.pointer (some ⟨K.P, 0, none⟩)) "ReadString").run Tryz.prog w = .ok (some false) w := by kernel_rfl

set_option maxRecDepth 100000 in
set_option maxHeartbeats 4000000 in
theorem Cmp.read19 (K : Cmp.Ctx) (s : Cmp.St) (w : World) (h : Cmp.Inv K s w) :
    Calls Tryz.prog 49 #[Cmp.V K, .agg (stepI 19)] w (Cmp.ReadP K w ((Cmp.pr K).scK 11 s) ((Cmp.pr K).scS 11 s) ((Cmp.pr K).scN 11 s) ((Cmp.pr K).scB 11 s)) := by
  have hna := Cmp.na_ReadString K
  go_enter Tryz.func49, Tryz.ntmps49
  go_wp2_with fail
  have hk0 : Keep (fun _ => False) w ((w.alloc (.cells (stepI 19) 151 (0, 0))).alloc (.cells zGot 148 (0, 0))) := ((Keep.refl _ w).alloc _).alloc _
  have hU0 : ((w.alloc (.cells (stepI 19) 151 (0, 0))).alloc (.cells zGot 148 (0, 0))).heap[w.heap.size + 1]? = some (.cells zGot 148 (0, 0)) := heap_alloc_at (by simp) _
  obtain ⟨U, hU⟩ : ∃ U, w.heap.size + 1 = U := ⟨_, rfl⟩
  rw [hU] at hU0 ⊢
  generalize (w.alloc (.cells (stepI 19) 151 (0, 0))).alloc (.cells zGot 148 (0, 0)) = w1 at *
  have HU := Lib.hid hU
  have HU0 := Lib.hid hU0
  have hM := Cmp.M_new h hk0
  have HM := Lib.hid hM
  clear hU hU0 hM
  go_region_with (first | (go_at_call 21; refine (ctx_at _).mono ?_; rintro e w' ⟨rfl, rfl⟩) | (go_at_call 171; refine (Cmp.readString (w := w1.drew) (h.fresh hk0.drew)).mono ?_; rintro e w2 ⟨l, ev, rfl, hp, hv⟩; have HP := Lib.hid hp; have HV := Lib.hid hv; clear hp hv))
  all_goals
    have hb := ((HP.out.keep.block U (by simpa using lt_of_heap HU0.out) (fun x => by have := HM.out U x; have := HU.out; omega)).trans HU0.out)
    have HB := Lib.hid hb
    have HB2 := Lib.hid hb
    clear hb
    go_wp2_with (refine wpList_bytes rfl (.tmp 128) rfl l rfl ?_)
    intro va vm vc w3 hbs hk3
    have hb3 := (hk3.block U (lt_of_heap HB2.out) id).trans HB2.out
    have HBS := Lib.hid hbs
    have HB3 := Lib.hid hb3
    obtain ⟨u0, u1, u2, u3, u4, u5, u6⟩ := got_cells hb3
    obtain ⟨f0, f1, f2, f3, f4, f5, f6⟩ := got_free hb3
    clear hb3 hbs
    go_wp2_with fail
    have hk2 : Keep (fun i => U = i) w2 (gotW w3 U 0 0 0 0 0 0 (.slice va vm vc)) := got_keep (hk3.weak (fun _ _ x => x.elim)) (fun _ => rfl) _ _ _ _ _ _ _
    refine ret_cell2 (U := U) (T := 148) Tryz.results49 rfl rfl rfl (got_set HB3.out _ _ _ _ _ _ _) Tryz.underlying148 igot_size ?_
    refine ⟨0, .slice va vm vc, ev, rfl, ?_, ⟨_, _, _, rfl⟩, fun hk => ⟨(Cmp.n11 K s).symm, ?_⟩⟩
    · exact Cmp.through h hk0.drew HP.out hk2 (fun i hi => by have := HU.out; have := lt_of_heap HU0.out; simp; omega)
    · have hl := HV.out hk
      have hbl := Cmp.b_le h 11
      have h9 : BytesAt (w2.heap.size ≤ ·) w3 (.slice va vm vc) ((Cmp.pr K).scB 11 s) := by
        have h8 := HBS.out (by rw [hl]; exact hbl)
        rw [hl] at h8
        exact h8
      have hk4 : Keep (fun i => U = i) w3 (gotW w3 U 0 0 0 0 0 0 (.slice va vm vc)) := got_keep (Keep.refl _ w3) (fun _ => rfl) _ _ _ _ _ _ _
      have hs2 := HP.out.keep.size
      have hU2 := lt_of_heap HU0.out
      have hUu := HU.out
      exact (h9.keep hk4 (fun i hi e => by simp at hs2; omega)).weak (fun i _ hi => ⟨by simp at hs2; omega, fun x => by have := HP.out.some.lt i (Cmp.through_M h hk0.drew HP.out hk2 (fun i hi => by have := HU.out; have := lt_of_heap HU0.out; simp; omega) i x); omega⟩)

end Go.Proofs.YtnccjcbelcbgoaaGreatDoor

/- The thin package: get of a number of 32 bits. -/
namespace Go.Proofs.YtnccjcbelcbgoaaGreatDoor
open Go Go.RowKit

set_option maxRecDepth 100000 in
set_option maxHeartbeats 4000000 in
theorem Cmp.get8 (K : Cmp.Ctx) (deep : Int) (hd : 0 < deep) (s : Cmp.St) (w : World) (h : Cmp.Inv K s w) :
    Calls Tryz.prog 31 #[Cmp.V K, .int .u8 8, .int .i64 deep] w fun e w' => ∃ n v ev, e = .returned (.tuple #[.agg (valC 8 n v 0 0 (.slice none 0 0) (.slice none 0 0)), ev]) ∧ Cmp.Post K w w' ((Cmp.pr K).scK 8 s) ev ((Cmp.pr K).scS 8 s) ∧ ((Cmp.pr K).scK 8 s = 0 → n = (Cmp.pr K).scN 8 s ∧ BytesAt (fun i => w.heap.size ≤ i ∧ ¬ Cmp.M K w' i) w' v ((Cmp.pr K).scB 8 s)) := by
  go_enter Tryz.func31, Tryz.ntmps31
  go_wp2_with fail
  obtain ⟨hk0, hR, hV, hG, hs⟩ := getW_facts w 8
  obtain ⟨n0, hn⟩ : ∃ n0, w.heap.size = n0 := ⟨_, rfl⟩
  rw [hn] at hR hV hG hs ⊢
  unfold getW at hk0 hR hV hG hs
  generalize ((w.alloc (.cells zVal 38 (0, 0))).alloc (.cells (valC 8 0 nilB 0 0 (.slice none 0 0) (.slice none 0 0)) 38 (0, 0))).alloc (.cells zGot 148 (0, 0)) = w1 at *
  have HN := Lib.hid hn
  have HR := Lib.hid hR
  have HV := Lib.hid hV
  have HG := Lib.hid hG
  have HS := Lib.hid hs
  have HM := Lib.hid (Cmp.M_new h hk0)
  clear hn hR hV hG hs
  refine (Cmp.read16 K s w1 (h.fresh hk0)).mono ?_
  rintro e w2 ⟨n, v, ev, rfl, hp, ⟨va, vm, vc, rfl⟩, hres⟩
  have hnew : ∀ i, n0 ≤ i → ¬ Cmp.M K w1 i := fun i hi x => by have := HM.out i x; have := HN.out; omega
  have hR2 := (hp.keep.block n0 (lt_of_heap HR.out) (hnew _ (by omega))).trans HR.out
  have hV2 := (hp.keep.block (n0 + 1) (lt_of_heap HV.out) (hnew _ (by omega))).trans HV.out
  have hG2 := (hp.keep.block (n0 + 1 + 1) (lt_of_heap HG.out) (hnew _ (by omega))).trans HG.out
  have HP := Lib.hid hp
  have HRES := Lib.hid hres
  have HR2 := Lib.hid hR2
  have HV2 := Lib.hid hV2
  have HG2 := Lib.hid hG2
  obtain ⟨u0, u1, u2, u3, u4, u5, u6⟩ := got_cells hG2
  obtain ⟨f0, f1, f2, f3, f4, f5, f6⟩ := got_free hG2
  clear hp hres hR2 hV2 hG2 hnew
  go_wp2_with fail
  have hG3 := got_set HG2.out 0 0 0 0 0 n (.slice va vm vc)
  have hk3 : Keep (fun i => n0 + 1 + 1 = i) w2 (gotW w2 (n0 + 1 + 1) 0 0 0 0 0 n (.slice va vm vc)) := got_keep (Keep.refl _ w2) (fun _ => rfl) _ _ _ _ _ _ _
  clear u0 u1 u2 u3 u4 u5 u6 f0 f1 f2 f3 f4 f5 f6
  obtain ⟨w3, hw3⟩ : ∃ w3, gotW w2 (n0 + 1 + 1) 0 0 0 0 0 n (.slice va vm vc) = w3 := ⟨_, rfl⟩
  rw [hw3] at hG3 hk3
  unfold gotW at hw3
  rw [hw3]
  clear hw3
  have hV3 := (hk3.block (n0 + 1) (lt_of_heap HV2.out) (by omega)).trans HV2.out
  have hR3 := (hk3.block n0 (lt_of_heap HR2.out) (by omega)).trans HR2.out
  obtain ⟨u0, u1, u2, u3, u4, u5, u6⟩ := got_cells hG3
  obtain ⟨x0, x1, x2, x3, x4, x5, x6⟩ := got_cells hV3
  obtain ⟨y0, y1, y2, y3, y4, y5, y6⟩ := got_free hV3
  obtain ⟨r0, r1, r2, r3, r4, r5, r6⟩ := got_cells hR3
  obtain ⟨z0, z1, z2, z3, z4, z5, z6⟩ := got_free hR3
  have HV3 := Lib.hid hV3
  have HR3 := Lib.hid hR3
  clear hV3 hR3 hG3
  go_region
  all_goals
    go_wp2_with fail
    have hn0 := HN.out
    have hs1 := HS.out
    have hR4 : ((w3.setCell ⟨n0 + 1, 1, none⟩ (.int .i64 n)).setCell ⟨n0 + 1, 2, none⟩ (.slice va vm vc)).heap[n0]? = some (.cells zVal 38 (0, 0)) := (heap_set_other (p := ⟨n0 + 1, 2, none⟩) _ (by simp)).trans ((heap_set_other (p := ⟨n0 + 1, 1, none⟩) _ (by simp)).trans HR3.out)
    have hkN : Keep (fun i => n0 ≤ i ∧ i < n0 + 3) w2 w3 := hk3.weak (fun i _ e => by omega)
    have hkW := (((((((((hkN.set (n0 + 1) 1 (fun _ => by omega) (.int .i64 n)).set (n0 + 1) 2 (fun _ => by omega) (.slice va vm vc)).set n0 0 (fun _ => by omega) (.int .i64 8)).set n0 1 (fun _ => by omega) (.int .i64 n)).set n0 2 (fun _ => by omega) (.slice va vm vc)).set n0 3 (fun _ => by omega) (.int .i64 0)).set n0 4 (fun _ => by omega) (.int .i64 0)).set n0 5 (fun _ => by omega) (.slice none 0 0)).set n0 6 (fun _ => by omega) (.slice none 0 0)).drew
    have hR5 := val_set hR4 (.int .i64 8) (.int .i64 n) (.slice va vm vc) (.int .i64 0) (.int .i64 0) (.slice none 0 0) (.slice none 0 0)
    generalize ((((((((w3.setCell ⟨n0 + 1, 1, none⟩ (.int .i64 n)).setCell ⟨n0 + 1, 2, none⟩ (.slice va vm vc)).setCell ⟨n0, 0, none⟩ (.int .i64 8)).setCell ⟨n0, 1, none⟩ (.int .i64 n)).setCell ⟨n0, 2, none⟩ (.slice va vm vc)).setCell ⟨n0, 3, none⟩ (.int .i64 0)).setCell ⟨n0, 4, none⟩ (.int .i64 0)).setCell ⟨n0, 5, none⟩ (.slice none 0 0)).setCell ⟨n0, 6, none⟩ (.slice none 0 0) = w4 at *
    have hR6 : w4.drew.heap[n0]? = some (.cells #[.int .i64 8, .int .i64 n, .slice va vm vc, .int .i64 0, .int .i64 0, .slice none 0 0, .slice none 0 0] 38 (0, 0)) := hR5
    refine ret_cell2 (U := n0) (T := 38) Tryz.results31 rfl rfl rfl hR6 Tryz.underlying38 ival_size ?_
    refine ⟨n, _, ev, rfl, Cmp.through h hk0 HP.out hkW (fun i hi => by omega), fun hz => ⟨(HRES.out hz).1, ?_⟩⟩
    exact ((HRES.out hz).2.keep hkW (fun i hi e => by have := hi.1; omega)).weak (fun i _ hi => ⟨by have := hi.1; omega, fun x => hi.2 (Cmp.through_M h hk0 HP.out hkW (fun i hi => by omega) i x)⟩)

end Go.Proofs.YtnccjcbelcbgoaaGreatDoor

/- The thin package: get of a scalar. -/
namespace Go.Proofs.YtnccjcbelcbgoaaGreatDoor
open Go Go.RowKit

/-- What get brings about: a value's seven cells, an error; the value where there is none. -/
def Cmp.GetP (K : Cmp.Ctx) (d : Nat) (w : World) (r : Int × Cmp.St × _root_.Go.Proofs.YtnccjcbelcbgoaaGreatDoor.V) (e : Ending) (w' : World) : Prop :=
  ∃ T N Sa Sm Sc KT E Ia Im Ic La Lm Lc ev, e = .returned (.tuple #[.agg (valC T N (.slice Sa Sm Sc) KT E (.slice Ia Im Ic) (.slice La Lm Lc)), ev]) ∧ Cmp.Post K w w' r.1 ev r.2.1 ∧
    (r.1 = 0 → ValAt d (fun i => w.heap.size ≤ i ∧ ¬ Cmp.M K w' i) w' (valC T N (.slice Sa Sm Sc) KT E (.slice Ia Im Ic) (.slice La Lm Lc)).toList r.2.2)

set_option maxRecDepth 100000 in
set_option maxHeartbeats 4000000 in
theorem Cmp.gets2 (K : Cmp.Ctx) (deep : Int) (hd : 0 < deep) (s : Cmp.St) (w : World) (h : Cmp.Inv K s w) :
    Calls Tryz.prog 31 #[Cmp.V K, .int .u8 2, .int .i64 deep] w (Cmp.GetP K 1 w ((Cmp.pr K).scK 2 s, (Cmp.pr K).scS 2 s, .mk 2 ((Cmp.pr K).scN 2 s) ((Cmp.pr K).scB 2 s) 0 0 [] [])) := by
  go_enter Tryz.func31, Tryz.ntmps31
  go_wp2_with fail
  obtain ⟨hk0, hR, hV, hG, hs⟩ := getW_facts w 2
  obtain ⟨n0, hn⟩ : ∃ n0, w.heap.size = n0 := ⟨_, rfl⟩
  rw [hn] at hR hV hG hs ⊢
  unfold getW at hk0 hR hV hG hs
  generalize ((w.alloc (.cells zVal 38 (0, 0))).alloc (.cells (valC 2 0 nilB 0 0 (.slice none 0 0) (.slice none 0 0)) 38 (0, 0))).alloc (.cells zGot 148 (0, 0)) = w1 at *
  have HN := Lib.hid hn
  have HR := Lib.hid hR
  have HV := Lib.hid hV
  have HG := Lib.hid hG
  have HS := Lib.hid hs
  have HM := Lib.hid (Cmp.M_new h hk0)
  clear hn hR hV hG hs
  refine (Cmp.read13 K s w1 (h.fresh hk0)).mono ?_
  rintro e w2 ⟨n, v, ev, rfl, hp, ⟨va, vm, vc, rfl⟩, hres⟩
  have hnew : ∀ i, n0 ≤ i → ¬ Cmp.M K w1 i := fun i hi x => by have := HM.out i x; have := HN.out; omega
  have hR2 := (hp.keep.block n0 (lt_of_heap HR.out) (hnew _ (by omega))).trans HR.out
  have hV2 := (hp.keep.block (n0 + 1) (lt_of_heap HV.out) (hnew _ (by omega))).trans HV.out
  have hG2 := (hp.keep.block (n0 + 1 + 1) (lt_of_heap HG.out) (hnew _ (by omega))).trans HG.out
  have HP := Lib.hid hp
  have HRES := Lib.hid hres
  have HR2 := Lib.hid hR2
  have HV2 := Lib.hid hV2
  have HG2 := Lib.hid hG2
  obtain ⟨u0, u1, u2, u3, u4, u5, u6⟩ := got_cells hG2
  obtain ⟨f0, f1, f2, f3, f4, f5, f6⟩ := got_free hG2
  clear hp hres hR2 hV2 hG2 hnew
  go_wp2_with fail
  have hG3 := got_set HG2.out 0 0 0 0 0 n (.slice va vm vc)
  have hk3 : Keep (fun i => n0 + 1 + 1 = i) w2 (gotW w2 (n0 + 1 + 1) 0 0 0 0 0 n (.slice va vm vc)) := got_keep (Keep.refl _ w2) (fun _ => rfl) _ _ _ _ _ _ _
  clear u0 u1 u2 u3 u4 u5 u6 f0 f1 f2 f3 f4 f5 f6
  obtain ⟨w3, hw3⟩ : ∃ w3, gotW w2 (n0 + 1 + 1) 0 0 0 0 0 n (.slice va vm vc) = w3 := ⟨_, rfl⟩
  rw [hw3] at hG3 hk3
  unfold gotW at hw3
  rw [hw3]
  clear hw3
  have hV3 := (hk3.block (n0 + 1) (lt_of_heap HV2.out) (by omega)).trans HV2.out
  have hR3 := (hk3.block n0 (lt_of_heap HR2.out) (by omega)).trans HR2.out
  obtain ⟨u0, u1, u2, u3, u4, u5, u6⟩ := got_cells hG3
  obtain ⟨x0, x1, x2, x3, x4, x5, x6⟩ := got_cells hV3
  obtain ⟨y0, y1, y2, y3, y4, y5, y6⟩ := got_free hV3
  obtain ⟨r0, r1, r2, r3, r4, r5, r6⟩ := got_cells hR3
  obtain ⟨z0, z1, z2, z3, z4, z5, z6⟩ := got_free hR3
  have HV3 := Lib.hid hV3
  have HR3 := Lib.hid hR3
  clear hV3 hR3 hG3
  go_region
  all_goals
    go_wp2_with fail
    have hn0 := HN.out
    have hs1 := HS.out
    have hR4 : ((w3.setCell ⟨n0 + 1, 1, none⟩ (.int .i64 n)).setCell ⟨n0 + 1, 2, none⟩ (.slice va vm vc)).heap[n0]? = some (.cells zVal 38 (0, 0)) := (heap_set_other (p := ⟨n0 + 1, 2, none⟩) _ (by simp)).trans ((heap_set_other (p := ⟨n0 + 1, 1, none⟩) _ (by simp)).trans HR3.out)
    have hkN : Keep (fun i => n0 ≤ i ∧ i < n0 + 3) w2 w3 := hk3.weak (fun i _ e => by omega)
    have hkW := (((((((((hkN.set (n0 + 1) 1 (fun _ => by omega) (.int .i64 n)).set (n0 + 1) 2 (fun _ => by omega) (.slice va vm vc)).set n0 0 (fun _ => by omega) (.int .i64 2)).set n0 1 (fun _ => by omega) (.int .i64 n)).set n0 2 (fun _ => by omega) (.slice va vm vc)).set n0 3 (fun _ => by omega) (.int .i64 0)).set n0 4 (fun _ => by omega) (.int .i64 0)).set n0 5 (fun _ => by omega) (.slice none 0 0)).set n0 6 (fun _ => by omega) (.slice none 0 0)).drew
    have hR5 := val_set hR4 (.int .i64 2) (.int .i64 n) (.slice va vm vc) (.int .i64 0) (.int .i64 0) (.slice none 0 0) (.slice none 0 0)
    generalize ((((((((w3.setCell ⟨n0 + 1, 1, none⟩ (.int .i64 n)).setCell ⟨n0 + 1, 2, none⟩ (.slice va vm vc)).setCell ⟨n0, 0, none⟩ (.int .i64 2)).setCell ⟨n0, 1, none⟩ (.int .i64 n)).setCell ⟨n0, 2, none⟩ (.slice va vm vc)).setCell ⟨n0, 3, none⟩ (.int .i64 0)).setCell ⟨n0, 4, none⟩ (.int .i64 0)).setCell ⟨n0, 5, none⟩ (.slice none 0 0)).setCell ⟨n0, 6, none⟩ (.slice none 0 0) = w4 at *
    have hR6 : w4.drew.heap[n0]? = some (.cells #[.int .i64 2, .int .i64 n, .slice va vm vc, .int .i64 0, .int .i64 0, .slice none 0 0, .slice none 0 0] 38 (0, 0)) := hR5
    refine ret_cell2 (U := n0) (T := 38) Tryz.results31 rfl rfl rfl hR6 Tryz.underlying38 ival_size ?_
    refine ⟨_, n, va, vm, vc, 0, 0, none, 0, 0, none, 0, 0, ev, rfl, Cmp.through h hk0 HP.out hkW (fun i hi => by omega), fun hz => ?_⟩
    obtain ⟨e1, e2⟩ := HRES.out hz
    subst e1
    exact ⟨_, _, _, rfl, (e2.keep hkW (fun i hi e => by have := hi.1; omega)).weak (fun i _ hi => ⟨by have := hi.1; omega, fun x => hi.2 (Cmp.through_M h hk0 HP.out hkW (fun i hi => by omega) i x)⟩), .inl ⟨rfl, _, _, rfl⟩, .inl ⟨rfl, _, _, rfl⟩⟩

set_option maxRecDepth 100000 in
set_option maxHeartbeats 4000000 in
theorem Cmp.gets3 (K : Cmp.Ctx) (deep : Int) (hd : 0 < deep) (s : Cmp.St) (w : World) (h : Cmp.Inv K s w) :
    Calls Tryz.prog 31 #[Cmp.V K, .int .u8 3, .int .i64 deep] w (Cmp.GetP K 1 w ((Cmp.pr K).scK 3 s, (Cmp.pr K).scS 3 s, .mk 3 ((Cmp.pr K).scN 3 s) ((Cmp.pr K).scB 3 s) 0 0 [] [])) := by
  go_enter Tryz.func31, Tryz.ntmps31
  go_wp2_with fail
  obtain ⟨hk0, hR, hV, hG, hs⟩ := getW_facts w 3
  obtain ⟨n0, hn⟩ : ∃ n0, w.heap.size = n0 := ⟨_, rfl⟩
  rw [hn] at hR hV hG hs ⊢
  unfold getW at hk0 hR hV hG hs
  generalize ((w.alloc (.cells zVal 38 (0, 0))).alloc (.cells (valC 3 0 nilB 0 0 (.slice none 0 0) (.slice none 0 0)) 38 (0, 0))).alloc (.cells zGot 148 (0, 0)) = w1 at *
  have HN := Lib.hid hn
  have HR := Lib.hid hR
  have HV := Lib.hid hV
  have HG := Lib.hid hG
  have HS := Lib.hid hs
  have HM := Lib.hid (Cmp.M_new h hk0)
  clear hn hR hV hG hs
  refine (Cmp.read14 K s w1 (h.fresh hk0)).mono ?_
  rintro e w2 ⟨n, v, ev, rfl, hp, ⟨va, vm, vc, rfl⟩, hres⟩
  have hnew : ∀ i, n0 ≤ i → ¬ Cmp.M K w1 i := fun i hi x => by have := HM.out i x; have := HN.out; omega
  have hR2 := (hp.keep.block n0 (lt_of_heap HR.out) (hnew _ (by omega))).trans HR.out
  have hV2 := (hp.keep.block (n0 + 1) (lt_of_heap HV.out) (hnew _ (by omega))).trans HV.out
  have hG2 := (hp.keep.block (n0 + 1 + 1) (lt_of_heap HG.out) (hnew _ (by omega))).trans HG.out
  have HP := Lib.hid hp
  have HRES := Lib.hid hres
  have HR2 := Lib.hid hR2
  have HV2 := Lib.hid hV2
  have HG2 := Lib.hid hG2
  obtain ⟨u0, u1, u2, u3, u4, u5, u6⟩ := got_cells hG2
  obtain ⟨f0, f1, f2, f3, f4, f5, f6⟩ := got_free hG2
  clear hp hres hR2 hV2 hG2 hnew
  go_wp2_with fail
  have hG3 := got_set HG2.out 0 0 0 0 0 n (.slice va vm vc)
  have hk3 : Keep (fun i => n0 + 1 + 1 = i) w2 (gotW w2 (n0 + 1 + 1) 0 0 0 0 0 n (.slice va vm vc)) := got_keep (Keep.refl _ w2) (fun _ => rfl) _ _ _ _ _ _ _
  clear u0 u1 u2 u3 u4 u5 u6 f0 f1 f2 f3 f4 f5 f6
  obtain ⟨w3, hw3⟩ : ∃ w3, gotW w2 (n0 + 1 + 1) 0 0 0 0 0 n (.slice va vm vc) = w3 := ⟨_, rfl⟩
  rw [hw3] at hG3 hk3
  unfold gotW at hw3
  rw [hw3]
  clear hw3
  have hV3 := (hk3.block (n0 + 1) (lt_of_heap HV2.out) (by omega)).trans HV2.out
  have hR3 := (hk3.block n0 (lt_of_heap HR2.out) (by omega)).trans HR2.out
  obtain ⟨u0, u1, u2, u3, u4, u5, u6⟩ := got_cells hG3
  obtain ⟨x0, x1, x2, x3, x4, x5, x6⟩ := got_cells hV3
  obtain ⟨y0, y1, y2, y3, y4, y5, y6⟩ := got_free hV3
  obtain ⟨r0, r1, r2, r3, r4, r5, r6⟩ := got_cells hR3
  obtain ⟨z0, z1, z2, z3, z4, z5, z6⟩ := got_free hR3
  have HV3 := Lib.hid hV3
  have HR3 := Lib.hid hR3
  clear hV3 hR3 hG3
  go_region
  all_goals
    go_wp2_with fail
    have hn0 := HN.out
    have hs1 := HS.out
    have hR4 : ((w3.setCell ⟨n0 + 1, 1, none⟩ (.int .i64 n)).setCell ⟨n0 + 1, 2, none⟩ (.slice va vm vc)).heap[n0]? = some (.cells zVal 38 (0, 0)) := (heap_set_other (p := ⟨n0 + 1, 2, none⟩) _ (by simp)).trans ((heap_set_other (p := ⟨n0 + 1, 1, none⟩) _ (by simp)).trans HR3.out)
    have hkN : Keep (fun i => n0 ≤ i ∧ i < n0 + 3) w2 w3 := hk3.weak (fun i _ e => by omega)
    have hkW := (((((((((hkN.set (n0 + 1) 1 (fun _ => by omega) (.int .i64 n)).set (n0 + 1) 2 (fun _ => by omega) (.slice va vm vc)).set n0 0 (fun _ => by omega) (.int .i64 3)).set n0 1 (fun _ => by omega) (.int .i64 n)).set n0 2 (fun _ => by omega) (.slice va vm vc)).set n0 3 (fun _ => by omega) (.int .i64 0)).set n0 4 (fun _ => by omega) (.int .i64 0)).set n0 5 (fun _ => by omega) (.slice none 0 0)).set n0 6 (fun _ => by omega) (.slice none 0 0)).drew
    have hR5 := val_set hR4 (.int .i64 3) (.int .i64 n) (.slice va vm vc) (.int .i64 0) (.int .i64 0) (.slice none 0 0) (.slice none 0 0)
    generalize ((((((((w3.setCell ⟨n0 + 1, 1, none⟩ (.int .i64 n)).setCell ⟨n0 + 1, 2, none⟩ (.slice va vm vc)).setCell ⟨n0, 0, none⟩ (.int .i64 3)).setCell ⟨n0, 1, none⟩ (.int .i64 n)).setCell ⟨n0, 2, none⟩ (.slice va vm vc)).setCell ⟨n0, 3, none⟩ (.int .i64 0)).setCell ⟨n0, 4, none⟩ (.int .i64 0)).setCell ⟨n0, 5, none⟩ (.slice none 0 0)).setCell ⟨n0, 6, none⟩ (.slice none 0 0) = w4 at *
    have hR6 : w4.drew.heap[n0]? = some (.cells #[.int .i64 3, .int .i64 n, .slice va vm vc, .int .i64 0, .int .i64 0, .slice none 0 0, .slice none 0 0] 38 (0, 0)) := hR5
    refine ret_cell2 (U := n0) (T := 38) Tryz.results31 rfl rfl rfl hR6 Tryz.underlying38 ival_size ?_
    refine ⟨_, n, va, vm, vc, 0, 0, none, 0, 0, none, 0, 0, ev, rfl, Cmp.through h hk0 HP.out hkW (fun i hi => by omega), fun hz => ?_⟩
    obtain ⟨e1, e2⟩ := HRES.out hz
    subst e1
    exact ⟨_, _, _, rfl, (e2.keep hkW (fun i hi e => by have := hi.1; omega)).weak (fun i _ hi => ⟨by have := hi.1; omega, fun x => hi.2 (Cmp.through_M h hk0 HP.out hkW (fun i hi => by omega) i x)⟩), .inl ⟨rfl, _, _, rfl⟩, .inl ⟨rfl, _, _, rfl⟩⟩

set_option maxRecDepth 100000 in
set_option maxHeartbeats 4000000 in
theorem Cmp.gets4 (K : Cmp.Ctx) (deep : Int) (hd : 0 < deep) (s : Cmp.St) (w : World) (h : Cmp.Inv K s w) :
    Calls Tryz.prog 31 #[Cmp.V K, .int .u8 4, .int .i64 deep] w (Cmp.GetP K 1 w ((Cmp.pr K).scK 4 s, (Cmp.pr K).scS 4 s, .mk 4 ((Cmp.pr K).scN 4 s) ((Cmp.pr K).scB 4 s) 0 0 [] [])) := by
  go_enter Tryz.func31, Tryz.ntmps31
  go_wp2_with fail
  obtain ⟨hk0, hR, hV, hG, hs⟩ := getW_facts w 4
  obtain ⟨n0, hn⟩ : ∃ n0, w.heap.size = n0 := ⟨_, rfl⟩
  rw [hn] at hR hV hG hs ⊢
  unfold getW at hk0 hR hV hG hs
  generalize ((w.alloc (.cells zVal 38 (0, 0))).alloc (.cells (valC 4 0 nilB 0 0 (.slice none 0 0) (.slice none 0 0)) 38 (0, 0))).alloc (.cells zGot 148 (0, 0)) = w1 at *
  have HN := Lib.hid hn
  have HR := Lib.hid hR
  have HV := Lib.hid hV
  have HG := Lib.hid hG
  have HS := Lib.hid hs
  have HM := Lib.hid (Cmp.M_new h hk0)
  clear hn hR hV hG hs
  refine (Cmp.read18 K s w1 (h.fresh hk0)).mono ?_
  rintro e w2 ⟨n, v, ev, rfl, hp, ⟨va, vm, vc, rfl⟩, hres⟩
  have hnew : ∀ i, n0 ≤ i → ¬ Cmp.M K w1 i := fun i hi x => by have := HM.out i x; have := HN.out; omega
  have hR2 := (hp.keep.block n0 (lt_of_heap HR.out) (hnew _ (by omega))).trans HR.out
  have hV2 := (hp.keep.block (n0 + 1) (lt_of_heap HV.out) (hnew _ (by omega))).trans HV.out
  have hG2 := (hp.keep.block (n0 + 1 + 1) (lt_of_heap HG.out) (hnew _ (by omega))).trans HG.out
  have HP := Lib.hid hp
  have HRES := Lib.hid hres
  have HR2 := Lib.hid hR2
  have HV2 := Lib.hid hV2
  have HG2 := Lib.hid hG2
  obtain ⟨u0, u1, u2, u3, u4, u5, u6⟩ := got_cells hG2
  obtain ⟨f0, f1, f2, f3, f4, f5, f6⟩ := got_free hG2
  clear hp hres hR2 hV2 hG2 hnew
  go_wp2_with fail
  have hG3 := got_set HG2.out 0 0 0 0 0 n (.slice va vm vc)
  have hk3 : Keep (fun i => n0 + 1 + 1 = i) w2 (gotW w2 (n0 + 1 + 1) 0 0 0 0 0 n (.slice va vm vc)) := got_keep (Keep.refl _ w2) (fun _ => rfl) _ _ _ _ _ _ _
  clear u0 u1 u2 u3 u4 u5 u6 f0 f1 f2 f3 f4 f5 f6
  obtain ⟨w3, hw3⟩ : ∃ w3, gotW w2 (n0 + 1 + 1) 0 0 0 0 0 n (.slice va vm vc) = w3 := ⟨_, rfl⟩
  rw [hw3] at hG3 hk3
  unfold gotW at hw3
  rw [hw3]
  clear hw3
  have hV3 := (hk3.block (n0 + 1) (lt_of_heap HV2.out) (by omega)).trans HV2.out
  have hR3 := (hk3.block n0 (lt_of_heap HR2.out) (by omega)).trans HR2.out
  obtain ⟨u0, u1, u2, u3, u4, u5, u6⟩ := got_cells hG3
  obtain ⟨x0, x1, x2, x3, x4, x5, x6⟩ := got_cells hV3
  obtain ⟨y0, y1, y2, y3, y4, y5, y6⟩ := got_free hV3
  obtain ⟨r0, r1, r2, r3, r4, r5, r6⟩ := got_cells hR3
  obtain ⟨z0, z1, z2, z3, z4, z5, z6⟩ := got_free hR3
  have HV3 := Lib.hid hV3
  have HR3 := Lib.hid hR3
  clear hV3 hR3 hG3
  go_region
  all_goals
    go_wp2_with fail
    have hn0 := HN.out
    have hs1 := HS.out
    have hR4 : ((w3.setCell ⟨n0 + 1, 1, none⟩ (.int .i64 n)).setCell ⟨n0 + 1, 2, none⟩ (.slice va vm vc)).heap[n0]? = some (.cells zVal 38 (0, 0)) := (heap_set_other (p := ⟨n0 + 1, 2, none⟩) _ (by simp)).trans ((heap_set_other (p := ⟨n0 + 1, 1, none⟩) _ (by simp)).trans HR3.out)
    have hkN : Keep (fun i => n0 ≤ i ∧ i < n0 + 3) w2 w3 := hk3.weak (fun i _ e => by omega)
    have hkW := (((((((((hkN.set (n0 + 1) 1 (fun _ => by omega) (.int .i64 n)).set (n0 + 1) 2 (fun _ => by omega) (.slice va vm vc)).set n0 0 (fun _ => by omega) (.int .i64 4)).set n0 1 (fun _ => by omega) (.int .i64 n)).set n0 2 (fun _ => by omega) (.slice va vm vc)).set n0 3 (fun _ => by omega) (.int .i64 0)).set n0 4 (fun _ => by omega) (.int .i64 0)).set n0 5 (fun _ => by omega) (.slice none 0 0)).set n0 6 (fun _ => by omega) (.slice none 0 0)).drew
    have hR5 := val_set hR4 (.int .i64 4) (.int .i64 n) (.slice va vm vc) (.int .i64 0) (.int .i64 0) (.slice none 0 0) (.slice none 0 0)
    generalize ((((((((w3.setCell ⟨n0 + 1, 1, none⟩ (.int .i64 n)).setCell ⟨n0 + 1, 2, none⟩ (.slice va vm vc)).setCell ⟨n0, 0, none⟩ (.int .i64 4)).setCell ⟨n0, 1, none⟩ (.int .i64 n)).setCell ⟨n0, 2, none⟩ (.slice va vm vc)).setCell ⟨n0, 3, none⟩ (.int .i64 0)).setCell ⟨n0, 4, none⟩ (.int .i64 0)).setCell ⟨n0, 5, none⟩ (.slice none 0 0)).setCell ⟨n0, 6, none⟩ (.slice none 0 0) = w4 at *
    have hR6 : w4.drew.heap[n0]? = some (.cells #[.int .i64 4, .int .i64 n, .slice va vm vc, .int .i64 0, .int .i64 0, .slice none 0 0, .slice none 0 0] 38 (0, 0)) := hR5
    refine ret_cell2 (U := n0) (T := 38) Tryz.results31 rfl rfl rfl hR6 Tryz.underlying38 ival_size ?_
    refine ⟨_, n, va, vm, vc, 0, 0, none, 0, 0, none, 0, 0, ev, rfl, Cmp.through h hk0 HP.out hkW (fun i hi => by omega), fun hz => ?_⟩
    obtain ⟨e1, e2⟩ := HRES.out hz
    subst e1
    exact ⟨_, _, _, rfl, (e2.keep hkW (fun i hi e => by have := hi.1; omega)).weak (fun i _ hi => ⟨by have := hi.1; omega, fun x => hi.2 (Cmp.through_M h hk0 HP.out hkW (fun i hi => by omega) i x)⟩), .inl ⟨rfl, _, _, rfl⟩, .inl ⟨rfl, _, _, rfl⟩⟩

set_option maxRecDepth 100000 in
set_option maxHeartbeats 4000000 in
theorem Cmp.gets6 (K : Cmp.Ctx) (deep : Int) (hd : 0 < deep) (s : Cmp.St) (w : World) (h : Cmp.Inv K s w) :
    Calls Tryz.prog 31 #[Cmp.V K, .int .u8 6, .int .i64 deep] w (Cmp.GetP K 1 w ((Cmp.pr K).scK 6 s, (Cmp.pr K).scS 6 s, .mk 6 ((Cmp.pr K).scN 6 s) ((Cmp.pr K).scB 6 s) 0 0 [] [])) := by
  go_enter Tryz.func31, Tryz.ntmps31
  go_wp2_with fail
  obtain ⟨hk0, hR, hV, hG, hs⟩ := getW_facts w 6
  obtain ⟨n0, hn⟩ : ∃ n0, w.heap.size = n0 := ⟨_, rfl⟩
  rw [hn] at hR hV hG hs ⊢
  unfold getW at hk0 hR hV hG hs
  generalize ((w.alloc (.cells zVal 38 (0, 0))).alloc (.cells (valC 6 0 nilB 0 0 (.slice none 0 0) (.slice none 0 0)) 38 (0, 0))).alloc (.cells zGot 148 (0, 0)) = w1 at *
  have HN := Lib.hid hn
  have HR := Lib.hid hR
  have HV := Lib.hid hV
  have HG := Lib.hid hG
  have HS := Lib.hid hs
  have HM := Lib.hid (Cmp.M_new h hk0)
  clear hn hR hV hG hs
  refine (Cmp.read15 K s w1 (h.fresh hk0)).mono ?_
  rintro e w2 ⟨n, v, ev, rfl, hp, ⟨va, vm, vc, rfl⟩, hres⟩
  have hnew : ∀ i, n0 ≤ i → ¬ Cmp.M K w1 i := fun i hi x => by have := HM.out i x; have := HN.out; omega
  have hR2 := (hp.keep.block n0 (lt_of_heap HR.out) (hnew _ (by omega))).trans HR.out
  have hV2 := (hp.keep.block (n0 + 1) (lt_of_heap HV.out) (hnew _ (by omega))).trans HV.out
  have hG2 := (hp.keep.block (n0 + 1 + 1) (lt_of_heap HG.out) (hnew _ (by omega))).trans HG.out
  have HP := Lib.hid hp
  have HRES := Lib.hid hres
  have HR2 := Lib.hid hR2
  have HV2 := Lib.hid hV2
  have HG2 := Lib.hid hG2
  obtain ⟨u0, u1, u2, u3, u4, u5, u6⟩ := got_cells hG2
  obtain ⟨f0, f1, f2, f3, f4, f5, f6⟩ := got_free hG2
  clear hp hres hR2 hV2 hG2 hnew
  go_wp2_with fail
  have hG3 := got_set HG2.out 0 0 0 0 0 n (.slice va vm vc)
  have hk3 : Keep (fun i => n0 + 1 + 1 = i) w2 (gotW w2 (n0 + 1 + 1) 0 0 0 0 0 n (.slice va vm vc)) := got_keep (Keep.refl _ w2) (fun _ => rfl) _ _ _ _ _ _ _
  clear u0 u1 u2 u3 u4 u5 u6 f0 f1 f2 f3 f4 f5 f6
  obtain ⟨w3, hw3⟩ : ∃ w3, gotW w2 (n0 + 1 + 1) 0 0 0 0 0 n (.slice va vm vc) = w3 := ⟨_, rfl⟩
  rw [hw3] at hG3 hk3
  unfold gotW at hw3
  rw [hw3]
  clear hw3
  have hV3 := (hk3.block (n0 + 1) (lt_of_heap HV2.out) (by omega)).trans HV2.out
  have hR3 := (hk3.block n0 (lt_of_heap HR2.out) (by omega)).trans HR2.out
  obtain ⟨u0, u1, u2, u3, u4, u5, u6⟩ := got_cells hG3
  obtain ⟨x0, x1, x2, x3, x4, x5, x6⟩ := got_cells hV3
  obtain ⟨y0, y1, y2, y3, y4, y5, y6⟩ := got_free hV3
  obtain ⟨r0, r1, r2, r3, r4, r5, r6⟩ := got_cells hR3
  obtain ⟨z0, z1, z2, z3, z4, z5, z6⟩ := got_free hR3
  have HV3 := Lib.hid hV3
  have HR3 := Lib.hid hR3
  clear hV3 hR3 hG3
  go_region
  all_goals
    go_wp2_with fail
    have hn0 := HN.out
    have hs1 := HS.out
    have hR4 : ((w3.setCell ⟨n0 + 1, 1, none⟩ (.int .i64 n)).setCell ⟨n0 + 1, 2, none⟩ (.slice va vm vc)).heap[n0]? = some (.cells zVal 38 (0, 0)) := (heap_set_other (p := ⟨n0 + 1, 2, none⟩) _ (by simp)).trans ((heap_set_other (p := ⟨n0 + 1, 1, none⟩) _ (by simp)).trans HR3.out)
    have hkN : Keep (fun i => n0 ≤ i ∧ i < n0 + 3) w2 w3 := hk3.weak (fun i _ e => by omega)
    have hkW := (((((((((hkN.set (n0 + 1) 1 (fun _ => by omega) (.int .i64 n)).set (n0 + 1) 2 (fun _ => by omega) (.slice va vm vc)).set n0 0 (fun _ => by omega) (.int .i64 6)).set n0 1 (fun _ => by omega) (.int .i64 n)).set n0 2 (fun _ => by omega) (.slice va vm vc)).set n0 3 (fun _ => by omega) (.int .i64 0)).set n0 4 (fun _ => by omega) (.int .i64 0)).set n0 5 (fun _ => by omega) (.slice none 0 0)).set n0 6 (fun _ => by omega) (.slice none 0 0)).drew
    have hR5 := val_set hR4 (.int .i64 6) (.int .i64 n) (.slice va vm vc) (.int .i64 0) (.int .i64 0) (.slice none 0 0) (.slice none 0 0)
    generalize ((((((((w3.setCell ⟨n0 + 1, 1, none⟩ (.int .i64 n)).setCell ⟨n0 + 1, 2, none⟩ (.slice va vm vc)).setCell ⟨n0, 0, none⟩ (.int .i64 6)).setCell ⟨n0, 1, none⟩ (.int .i64 n)).setCell ⟨n0, 2, none⟩ (.slice va vm vc)).setCell ⟨n0, 3, none⟩ (.int .i64 0)).setCell ⟨n0, 4, none⟩ (.int .i64 0)).setCell ⟨n0, 5, none⟩ (.slice none 0 0)).setCell ⟨n0, 6, none⟩ (.slice none 0 0) = w4 at *
    have hR6 : w4.drew.heap[n0]? = some (.cells #[.int .i64 6, .int .i64 n, .slice va vm vc, .int .i64 0, .int .i64 0, .slice none 0 0, .slice none 0 0] 38 (0, 0)) := hR5
    refine ret_cell2 (U := n0) (T := 38) Tryz.results31 rfl rfl rfl hR6 Tryz.underlying38 ival_size ?_
    refine ⟨_, n, va, vm, vc, 0, 0, none, 0, 0, none, 0, 0, ev, rfl, Cmp.through h hk0 HP.out hkW (fun i hi => by omega), fun hz => ?_⟩
    obtain ⟨e1, e2⟩ := HRES.out hz
    subst e1
    exact ⟨_, _, _, rfl, (e2.keep hkW (fun i hi e => by have := hi.1; omega)).weak (fun i _ hi => ⟨by have := hi.1; omega, fun x => hi.2 (Cmp.through_M h hk0 HP.out hkW (fun i hi => by omega) i x)⟩), .inl ⟨rfl, _, _, rfl⟩, .inl ⟨rfl, _, _, rfl⟩⟩

set_option maxRecDepth 100000 in
set_option maxHeartbeats 4000000 in
theorem Cmp.gets8 (K : Cmp.Ctx) (deep : Int) (hd : 0 < deep) (s : Cmp.St) (w : World) (h : Cmp.Inv K s w) :
    Calls Tryz.prog 31 #[Cmp.V K, .int .u8 8, .int .i64 deep] w (Cmp.GetP K 1 w ((Cmp.pr K).scK 8 s, (Cmp.pr K).scS 8 s, .mk 8 ((Cmp.pr K).scN 8 s) ((Cmp.pr K).scB 8 s) 0 0 [] [])) := by
  go_enter Tryz.func31, Tryz.ntmps31
  go_wp2_with fail
  obtain ⟨hk0, hR, hV, hG, hs⟩ := getW_facts w 8
  obtain ⟨n0, hn⟩ : ∃ n0, w.heap.size = n0 := ⟨_, rfl⟩
  rw [hn] at hR hV hG hs ⊢
  unfold getW at hk0 hR hV hG hs
  generalize ((w.alloc (.cells zVal 38 (0, 0))).alloc (.cells (valC 8 0 nilB 0 0 (.slice none 0 0) (.slice none 0 0)) 38 (0, 0))).alloc (.cells zGot 148 (0, 0)) = w1 at *
  have HN := Lib.hid hn
  have HR := Lib.hid hR
  have HV := Lib.hid hV
  have HG := Lib.hid hG
  have HS := Lib.hid hs
  have HM := Lib.hid (Cmp.M_new h hk0)
  clear hn hR hV hG hs
  refine (Cmp.read16 K s w1 (h.fresh hk0)).mono ?_
  rintro e w2 ⟨n, v, ev, rfl, hp, ⟨va, vm, vc, rfl⟩, hres⟩
  have hnew : ∀ i, n0 ≤ i → ¬ Cmp.M K w1 i := fun i hi x => by have := HM.out i x; have := HN.out; omega
  have hR2 := (hp.keep.block n0 (lt_of_heap HR.out) (hnew _ (by omega))).trans HR.out
  have hV2 := (hp.keep.block (n0 + 1) (lt_of_heap HV.out) (hnew _ (by omega))).trans HV.out
  have hG2 := (hp.keep.block (n0 + 1 + 1) (lt_of_heap HG.out) (hnew _ (by omega))).trans HG.out
  have HP := Lib.hid hp
  have HRES := Lib.hid hres
  have HR2 := Lib.hid hR2
  have HV2 := Lib.hid hV2
  have HG2 := Lib.hid hG2
  obtain ⟨u0, u1, u2, u3, u4, u5, u6⟩ := got_cells hG2
  obtain ⟨f0, f1, f2, f3, f4, f5, f6⟩ := got_free hG2
  clear hp hres hR2 hV2 hG2 hnew
  go_wp2_with fail
  have hG3 := got_set HG2.out 0 0 0 0 0 n (.slice va vm vc)
  have hk3 : Keep (fun i => n0 + 1 + 1 = i) w2 (gotW w2 (n0 + 1 + 1) 0 0 0 0 0 n (.slice va vm vc)) := got_keep (Keep.refl _ w2) (fun _ => rfl) _ _ _ _ _ _ _
  clear u0 u1 u2 u3 u4 u5 u6 f0 f1 f2 f3 f4 f5 f6
  obtain ⟨w3, hw3⟩ : ∃ w3, gotW w2 (n0 + 1 + 1) 0 0 0 0 0 n (.slice va vm vc) = w3 := ⟨_, rfl⟩
  rw [hw3] at hG3 hk3
  unfold gotW at hw3
  rw [hw3]
  clear hw3
  have hV3 := (hk3.block (n0 + 1) (lt_of_heap HV2.out) (by omega)).trans HV2.out
  have hR3 := (hk3.block n0 (lt_of_heap HR2.out) (by omega)).trans HR2.out
  obtain ⟨u0, u1, u2, u3, u4, u5, u6⟩ := got_cells hG3
  obtain ⟨x0, x1, x2, x3, x4, x5, x6⟩ := got_cells hV3
  obtain ⟨y0, y1, y2, y3, y4, y5, y6⟩ := got_free hV3
  obtain ⟨r0, r1, r2, r3, r4, r5, r6⟩ := got_cells hR3
  obtain ⟨z0, z1, z2, z3, z4, z5, z6⟩ := got_free hR3
  have HV3 := Lib.hid hV3
  have HR3 := Lib.hid hR3
  clear hV3 hR3 hG3
  go_region
  all_goals
    go_wp2_with fail
    have hn0 := HN.out
    have hs1 := HS.out
    have hR4 : ((w3.setCell ⟨n0 + 1, 1, none⟩ (.int .i64 n)).setCell ⟨n0 + 1, 2, none⟩ (.slice va vm vc)).heap[n0]? = some (.cells zVal 38 (0, 0)) := (heap_set_other (p := ⟨n0 + 1, 2, none⟩) _ (by simp)).trans ((heap_set_other (p := ⟨n0 + 1, 1, none⟩) _ (by simp)).trans HR3.out)
    have hkN : Keep (fun i => n0 ≤ i ∧ i < n0 + 3) w2 w3 := hk3.weak (fun i _ e => by omega)
    have hkW := (((((((((hkN.set (n0 + 1) 1 (fun _ => by omega) (.int .i64 n)).set (n0 + 1) 2 (fun _ => by omega) (.slice va vm vc)).set n0 0 (fun _ => by omega) (.int .i64 8)).set n0 1 (fun _ => by omega) (.int .i64 n)).set n0 2 (fun _ => by omega) (.slice va vm vc)).set n0 3 (fun _ => by omega) (.int .i64 0)).set n0 4 (fun _ => by omega) (.int .i64 0)).set n0 5 (fun _ => by omega) (.slice none 0 0)).set n0 6 (fun _ => by omega) (.slice none 0 0)).drew
    have hR5 := val_set hR4 (.int .i64 8) (.int .i64 n) (.slice va vm vc) (.int .i64 0) (.int .i64 0) (.slice none 0 0) (.slice none 0 0)
    generalize ((((((((w3.setCell ⟨n0 + 1, 1, none⟩ (.int .i64 n)).setCell ⟨n0 + 1, 2, none⟩ (.slice va vm vc)).setCell ⟨n0, 0, none⟩ (.int .i64 8)).setCell ⟨n0, 1, none⟩ (.int .i64 n)).setCell ⟨n0, 2, none⟩ (.slice va vm vc)).setCell ⟨n0, 3, none⟩ (.int .i64 0)).setCell ⟨n0, 4, none⟩ (.int .i64 0)).setCell ⟨n0, 5, none⟩ (.slice none 0 0)).setCell ⟨n0, 6, none⟩ (.slice none 0 0) = w4 at *
    have hR6 : w4.drew.heap[n0]? = some (.cells #[.int .i64 8, .int .i64 n, .slice va vm vc, .int .i64 0, .int .i64 0, .slice none 0 0, .slice none 0 0] 38 (0, 0)) := hR5
    refine ret_cell2 (U := n0) (T := 38) Tryz.results31 rfl rfl rfl hR6 Tryz.underlying38 ival_size ?_
    refine ⟨_, n, va, vm, vc, 0, 0, none, 0, 0, none, 0, 0, ev, rfl, Cmp.through h hk0 HP.out hkW (fun i hi => by omega), fun hz => ?_⟩
    obtain ⟨e1, e2⟩ := HRES.out hz
    subst e1
    exact ⟨_, _, _, rfl, (e2.keep hkW (fun i hi e => by have := hi.1; omega)).weak (fun i _ hi => ⟨by have := hi.1; omega, fun x => hi.2 (Cmp.through_M h hk0 HP.out hkW (fun i hi => by omega) i x)⟩), .inl ⟨rfl, _, _, rfl⟩, .inl ⟨rfl, _, _, rfl⟩⟩

set_option maxRecDepth 100000 in
set_option maxHeartbeats 4000000 in
theorem Cmp.gets10 (K : Cmp.Ctx) (deep : Int) (hd : 0 < deep) (s : Cmp.St) (w : World) (h : Cmp.Inv K s w) :
    Calls Tryz.prog 31 #[Cmp.V K, .int .u8 10, .int .i64 deep] w (Cmp.GetP K 1 w ((Cmp.pr K).scK 10 s, (Cmp.pr K).scS 10 s, .mk 10 ((Cmp.pr K).scN 10 s) ((Cmp.pr K).scB 10 s) 0 0 [] [])) := by
  go_enter Tryz.func31, Tryz.ntmps31
  go_wp2_with fail
  obtain ⟨hk0, hR, hV, hG, hs⟩ := getW_facts w 10
  obtain ⟨n0, hn⟩ : ∃ n0, w.heap.size = n0 := ⟨_, rfl⟩
  rw [hn] at hR hV hG hs ⊢
  unfold getW at hk0 hR hV hG hs
  generalize ((w.alloc (.cells zVal 38 (0, 0))).alloc (.cells (valC 10 0 nilB 0 0 (.slice none 0 0) (.slice none 0 0)) 38 (0, 0))).alloc (.cells zGot 148 (0, 0)) = w1 at *
  have HN := Lib.hid hn
  have HR := Lib.hid hR
  have HV := Lib.hid hV
  have HG := Lib.hid hG
  have HS := Lib.hid hs
  have HM := Lib.hid (Cmp.M_new h hk0)
  clear hn hR hV hG hs
  refine (Cmp.read17 K s w1 (h.fresh hk0)).mono ?_
  rintro e w2 ⟨n, v, ev, rfl, hp, ⟨va, vm, vc, rfl⟩, hres⟩
  have hnew : ∀ i, n0 ≤ i → ¬ Cmp.M K w1 i := fun i hi x => by have := HM.out i x; have := HN.out; omega
  have hR2 := (hp.keep.block n0 (lt_of_heap HR.out) (hnew _ (by omega))).trans HR.out
  have hV2 := (hp.keep.block (n0 + 1) (lt_of_heap HV.out) (hnew _ (by omega))).trans HV.out
  have hG2 := (hp.keep.block (n0 + 1 + 1) (lt_of_heap HG.out) (hnew _ (by omega))).trans HG.out
  have HP := Lib.hid hp
  have HRES := Lib.hid hres
  have HR2 := Lib.hid hR2
  have HV2 := Lib.hid hV2
  have HG2 := Lib.hid hG2
  obtain ⟨u0, u1, u2, u3, u4, u5, u6⟩ := got_cells hG2
  obtain ⟨f0, f1, f2, f3, f4, f5, f6⟩ := got_free hG2
  clear hp hres hR2 hV2 hG2 hnew
  go_wp2_with fail
  have hG3 := got_set HG2.out 0 0 0 0 0 n (.slice va vm vc)
  have hk3 : Keep (fun i => n0 + 1 + 1 = i) w2 (gotW w2 (n0 + 1 + 1) 0 0 0 0 0 n (.slice va vm vc)) := got_keep (Keep.refl _ w2) (fun _ => rfl) _ _ _ _ _ _ _
  clear u0 u1 u2 u3 u4 u5 u6 f0 f1 f2 f3 f4 f5 f6
  obtain ⟨w3, hw3⟩ : ∃ w3, gotW w2 (n0 + 1 + 1) 0 0 0 0 0 n (.slice va vm vc) = w3 := ⟨_, rfl⟩
  rw [hw3] at hG3 hk3
  unfold gotW at hw3
  rw [hw3]
  clear hw3
  have hV3 := (hk3.block (n0 + 1) (lt_of_heap HV2.out) (by omega)).trans HV2.out
  have hR3 := (hk3.block n0 (lt_of_heap HR2.out) (by omega)).trans HR2.out
  obtain ⟨u0, u1, u2, u3, u4, u5, u6⟩ := got_cells hG3
  obtain ⟨x0, x1, x2, x3, x4, x5, x6⟩ := got_cells hV3
  obtain ⟨y0, y1, y2, y3, y4, y5, y6⟩ := got_free hV3
  obtain ⟨r0, r1, r2, r3, r4, r5, r6⟩ := got_cells hR3
  obtain ⟨z0, z1, z2, z3, z4, z5, z6⟩ := got_free hR3
  have HV3 := Lib.hid hV3
  have HR3 := Lib.hid hR3
  clear hV3 hR3 hG3
  go_region
  all_goals
    go_wp2_with fail
    have hn0 := HN.out
    have hs1 := HS.out
    have hR4 : ((w3.setCell ⟨n0 + 1, 1, none⟩ (.int .i64 n)).setCell ⟨n0 + 1, 2, none⟩ (.slice va vm vc)).heap[n0]? = some (.cells zVal 38 (0, 0)) := (heap_set_other (p := ⟨n0 + 1, 2, none⟩) _ (by simp)).trans ((heap_set_other (p := ⟨n0 + 1, 1, none⟩) _ (by simp)).trans HR3.out)
    have hkN : Keep (fun i => n0 ≤ i ∧ i < n0 + 3) w2 w3 := hk3.weak (fun i _ e => by omega)
    have hkW := (((((((((hkN.set (n0 + 1) 1 (fun _ => by omega) (.int .i64 n)).set (n0 + 1) 2 (fun _ => by omega) (.slice va vm vc)).set n0 0 (fun _ => by omega) (.int .i64 10)).set n0 1 (fun _ => by omega) (.int .i64 n)).set n0 2 (fun _ => by omega) (.slice va vm vc)).set n0 3 (fun _ => by omega) (.int .i64 0)).set n0 4 (fun _ => by omega) (.int .i64 0)).set n0 5 (fun _ => by omega) (.slice none 0 0)).set n0 6 (fun _ => by omega) (.slice none 0 0)).drew
    have hR5 := val_set hR4 (.int .i64 10) (.int .i64 n) (.slice va vm vc) (.int .i64 0) (.int .i64 0) (.slice none 0 0) (.slice none 0 0)
    generalize ((((((((w3.setCell ⟨n0 + 1, 1, none⟩ (.int .i64 n)).setCell ⟨n0 + 1, 2, none⟩ (.slice va vm vc)).setCell ⟨n0, 0, none⟩ (.int .i64 10)).setCell ⟨n0, 1, none⟩ (.int .i64 n)).setCell ⟨n0, 2, none⟩ (.slice va vm vc)).setCell ⟨n0, 3, none⟩ (.int .i64 0)).setCell ⟨n0, 4, none⟩ (.int .i64 0)).setCell ⟨n0, 5, none⟩ (.slice none 0 0)).setCell ⟨n0, 6, none⟩ (.slice none 0 0) = w4 at *
    have hR6 : w4.drew.heap[n0]? = some (.cells #[.int .i64 10, .int .i64 n, .slice va vm vc, .int .i64 0, .int .i64 0, .slice none 0 0, .slice none 0 0] 38 (0, 0)) := hR5
    refine ret_cell2 (U := n0) (T := 38) Tryz.results31 rfl rfl rfl hR6 Tryz.underlying38 ival_size ?_
    refine ⟨_, n, va, vm, vc, 0, 0, none, 0, 0, none, 0, 0, ev, rfl, Cmp.through h hk0 HP.out hkW (fun i hi => by omega), fun hz => ?_⟩
    obtain ⟨e1, e2⟩ := HRES.out hz
    subst e1
    exact ⟨_, _, _, rfl, (e2.keep hkW (fun i hi e => by have := hi.1; omega)).weak (fun i _ hi => ⟨by have := hi.1; omega, fun x => hi.2 (Cmp.through_M h hk0 HP.out hkW (fun i hi => by omega) i x)⟩), .inl ⟨rfl, _, _, rfl⟩, .inl ⟨rfl, _, _, rfl⟩⟩

set_option maxRecDepth 100000 in
set_option maxHeartbeats 4000000 in
theorem Cmp.gets11 (K : Cmp.Ctx) (deep : Int) (hd : 0 < deep) (s : Cmp.St) (w : World) (h : Cmp.Inv K s w) :
    Calls Tryz.prog 31 #[Cmp.V K, .int .u8 11, .int .i64 deep] w (Cmp.GetP K 1 w ((Cmp.pr K).scK 11 s, (Cmp.pr K).scS 11 s, .mk 11 ((Cmp.pr K).scN 11 s) ((Cmp.pr K).scB 11 s) 0 0 [] [])) := by
  go_enter Tryz.func31, Tryz.ntmps31
  go_wp2_with fail
  obtain ⟨hk0, hR, hV, hG, hs⟩ := getW_facts w 11
  obtain ⟨n0, hn⟩ : ∃ n0, w.heap.size = n0 := ⟨_, rfl⟩
  rw [hn] at hR hV hG hs ⊢
  unfold getW at hk0 hR hV hG hs
  generalize ((w.alloc (.cells zVal 38 (0, 0))).alloc (.cells (valC 11 0 nilB 0 0 (.slice none 0 0) (.slice none 0 0)) 38 (0, 0))).alloc (.cells zGot 148 (0, 0)) = w1 at *
  have HN := Lib.hid hn
  have HR := Lib.hid hR
  have HV := Lib.hid hV
  have HG := Lib.hid hG
  have HS := Lib.hid hs
  have HM := Lib.hid (Cmp.M_new h hk0)
  clear hn hR hV hG hs
  refine (Cmp.read19 K s w1 (h.fresh hk0)).mono ?_
  rintro e w2 ⟨n, v, ev, rfl, hp, ⟨va, vm, vc, rfl⟩, hres⟩
  have hnew : ∀ i, n0 ≤ i → ¬ Cmp.M K w1 i := fun i hi x => by have := HM.out i x; have := HN.out; omega
  have hR2 := (hp.keep.block n0 (lt_of_heap HR.out) (hnew _ (by omega))).trans HR.out
  have hV2 := (hp.keep.block (n0 + 1) (lt_of_heap HV.out) (hnew _ (by omega))).trans HV.out
  have hG2 := (hp.keep.block (n0 + 1 + 1) (lt_of_heap HG.out) (hnew _ (by omega))).trans HG.out
  have HP := Lib.hid hp
  have HRES := Lib.hid hres
  have HR2 := Lib.hid hR2
  have HV2 := Lib.hid hV2
  have HG2 := Lib.hid hG2
  obtain ⟨u0, u1, u2, u3, u4, u5, u6⟩ := got_cells hG2
  obtain ⟨f0, f1, f2, f3, f4, f5, f6⟩ := got_free hG2
  clear hp hres hR2 hV2 hG2 hnew
  go_wp2_with fail
  have hG3 := got_set HG2.out 0 0 0 0 0 n (.slice va vm vc)
  have hk3 : Keep (fun i => n0 + 1 + 1 = i) w2 (gotW w2 (n0 + 1 + 1) 0 0 0 0 0 n (.slice va vm vc)) := got_keep (Keep.refl _ w2) (fun _ => rfl) _ _ _ _ _ _ _
  clear u0 u1 u2 u3 u4 u5 u6 f0 f1 f2 f3 f4 f5 f6
  obtain ⟨w3, hw3⟩ : ∃ w3, gotW w2 (n0 + 1 + 1) 0 0 0 0 0 n (.slice va vm vc) = w3 := ⟨_, rfl⟩
  rw [hw3] at hG3 hk3
  unfold gotW at hw3
  rw [hw3]
  clear hw3
  have hV3 := (hk3.block (n0 + 1) (lt_of_heap HV2.out) (by omega)).trans HV2.out
  have hR3 := (hk3.block n0 (lt_of_heap HR2.out) (by omega)).trans HR2.out
  obtain ⟨u0, u1, u2, u3, u4, u5, u6⟩ := got_cells hG3
  obtain ⟨x0, x1, x2, x3, x4, x5, x6⟩ := got_cells hV3
  obtain ⟨y0, y1, y2, y3, y4, y5, y6⟩ := got_free hV3
  obtain ⟨r0, r1, r2, r3, r4, r5, r6⟩ := got_cells hR3
  obtain ⟨z0, z1, z2, z3, z4, z5, z6⟩ := got_free hR3
  have HV3 := Lib.hid hV3
  have HR3 := Lib.hid hR3
  clear hV3 hR3 hG3
  go_region
  all_goals
    go_wp2_with fail
    have hn0 := HN.out
    have hs1 := HS.out
    have hR4 : ((w3.setCell ⟨n0 + 1, 1, none⟩ (.int .i64 n)).setCell ⟨n0 + 1, 2, none⟩ (.slice va vm vc)).heap[n0]? = some (.cells zVal 38 (0, 0)) := (heap_set_other (p := ⟨n0 + 1, 2, none⟩) _ (by simp)).trans ((heap_set_other (p := ⟨n0 + 1, 1, none⟩) _ (by simp)).trans HR3.out)
    have hkN : Keep (fun i => n0 ≤ i ∧ i < n0 + 3) w2 w3 := hk3.weak (fun i _ e => by omega)
    have hkW := (((((((((hkN.set (n0 + 1) 1 (fun _ => by omega) (.int .i64 n)).set (n0 + 1) 2 (fun _ => by omega) (.slice va vm vc)).set n0 0 (fun _ => by omega) (.int .i64 11)).set n0 1 (fun _ => by omega) (.int .i64 n)).set n0 2 (fun _ => by omega) (.slice va vm vc)).set n0 3 (fun _ => by omega) (.int .i64 0)).set n0 4 (fun _ => by omega) (.int .i64 0)).set n0 5 (fun _ => by omega) (.slice none 0 0)).set n0 6 (fun _ => by omega) (.slice none 0 0)).drew
    have hR5 := val_set hR4 (.int .i64 11) (.int .i64 n) (.slice va vm vc) (.int .i64 0) (.int .i64 0) (.slice none 0 0) (.slice none 0 0)
    generalize ((((((((w3.setCell ⟨n0 + 1, 1, none⟩ (.int .i64 n)).setCell ⟨n0 + 1, 2, none⟩ (.slice va vm vc)).setCell ⟨n0, 0, none⟩ (.int .i64 11)).setCell ⟨n0, 1, none⟩ (.int .i64 n)).setCell ⟨n0, 2, none⟩ (.slice va vm vc)).setCell ⟨n0, 3, none⟩ (.int .i64 0)).setCell ⟨n0, 4, none⟩ (.int .i64 0)).setCell ⟨n0, 5, none⟩ (.slice none 0 0)).setCell ⟨n0, 6, none⟩ (.slice none 0 0) = w4 at *
    have hR6 : w4.drew.heap[n0]? = some (.cells #[.int .i64 11, .int .i64 n, .slice va vm vc, .int .i64 0, .int .i64 0, .slice none 0 0, .slice none 0 0] 38 (0, 0)) := hR5
    refine ret_cell2 (U := n0) (T := 38) Tryz.results31 rfl rfl rfl hR6 Tryz.underlying38 ival_size ?_
    refine ⟨_, n, va, vm, vc, 0, 0, none, 0, 0, none, 0, 0, ev, rfl, Cmp.through h hk0 HP.out hkW (fun i hi => by omega), fun hz => ?_⟩
    obtain ⟨e1, e2⟩ := HRES.out hz
    subst e1
    exact ⟨_, _, _, rfl, (e2.keep hkW (fun i hi e => by have := hi.1; omega)).weak (fun i _ hi => ⟨by have := hi.1; omega, fun x => hi.2 (Cmp.through_M h hk0 HP.out hkW (fun i hi => by omega) i x)⟩), .inl ⟨rfl, _, _, rfl⟩, .inl ⟨rfl, _, _, rfl⟩⟩

end Go.Proofs.YtnccjcbelcbgoaaGreatDoor

/- The thin package's get: what a call that builds a value keeps in hand while it reads. -/
namespace Go.Proofs.YtnccjcbelcbgoaaGreatDoor
open Go Go.RowKit

abbrev Cmp.Gets (K : Cmp.Ctx) (d : Nat) : Prop := ∀ (deep t : Int) (s : Cmp.St) (w : World), deep.toNat = d → -9223372036854775808 ≤ deep → deep ≤ 9223372036854775807 → 0 ≤ t → t ≤ 255 → Cmp.Inv K s w → (Cmp.pr K).Room s →
  Calls Tryz.prog 31 #[Cmp.V K, .int .u8 t, .int .i64 deep] w (Cmp.GetP K d w (gt (Cmp.pr K) d t s))

/-- The blocks from n on that are the call's own, but for some. -/
abbrev Cmp.Own (K : Cmp.Ctx) (n : Nat) (S : List (Nat × Array Value × TypeId)) (w : World) : Nat → Prop := fun i => n ≤ i ∧ (∀ p ∈ S, i ≠ p.1) ∧ ¬ Cmp.M K w i

/-- What lies in hand at world wr of a call that began at w: the value that grows in block U, the blocks S that hold still. -/
structure Cmp.Frame (K : Cmp.Ctx) (w : World) (U : Nat) (S : List (Nat × Array Value × TypeId)) (d : Nat) (T KT E : Int) (ids : List Int) (vs : List _root_.Go.Proofs.YtnccjcbelcbgoaaGreatDoor.V) (iv lv : Value) (rows : List (List Value)) (wr : World) : Prop where
  kp : Kpt (Cmp.M K) w wr
  vb : VB 38 d w.heap.size U (Cmp.Own K w.heap.size S wr) T KT E ids vs iv lv rows wr
  still : ∀ p ∈ S, w.heap.size ≤ p.1 ∧ wr.heap[p.1]? = some (.cells p.2.1 p.2.2 (0, 0)) ∧ ¬ Cmp.M K wr p.1

section
variable {K : Cmp.Ctx} {w wr w3 w6 w7 : World} {U : Nat} {S : List (Nat × Array Value × TypeId)} {d : Nat} {T KT E : Int} {ids : List Int} {vs : List _root_.Go.Proofs.YtnccjcbelcbgoaaGreatDoor.V} {iv lv lv' : Value} {rows : List (List Value)} {s s1 s' : Cmp.St}

/-- Behind a call of the protocol. -/
theorem Cmp.Frame.call (f : Cmp.Frame K w U S d T KT E ids vs iv lv rows wr) (hk : Kpt (Cmp.M K) wr w3) : Cmp.Frame K w U S d T KT E ids vs iv lv rows w3 :=
  ⟨f.kp.then hk, ((f.vb.weak (A' := fun i => Cmp.Own K w.heap.size S wr i ∧ i < wr.heap.size) (fun i hi x => ⟨x, hi⟩) (fun i x => x.1.1)).keep hk.keep (fun i x => x.1.2.2)).weak (fun i _ x => ⟨x.1.1, x.1.2.1, fun m => x.1.2.2 (hk.grow i x.2 m)⟩) (fun i x => x.1),
   fun p hp => let ⟨h1, h2, h3⟩ := f.still p hp; ⟨h1, (hk.block p.1 (lt_of_heap h2) h3).trans h2, hk.not (lt_of_heap h2) h3⟩⟩

/-- Nothing turned. -/
theorem Cmp.Frame.fresh (h : Cmp.Inv K s w) (f : Cmp.Frame K w U S d T KT E ids vs iv lv rows wr) (i1 : Cmp.Inv K s1 wr) (hk : Keep (fun _ => False) wr w3) : Cmp.Frame K w U S d T KT E ids vs iv lv rows w3 :=
  f.call (Cmp.kept i1 hk)

/-- The value's own blocks are the caller's. -/
theorem Cmp.Frame.mine (f : Cmp.Frame K w U S d T KT E ids vs iv lv rows wr) : ∀ i, U = i ∨ iv.ownBlock = some i ∨ lv.ownBlock = some i → w.heap.size ≤ i ∧ i < wr.heap.size ∧ (∀ p ∈ S, i ≠ p.1) ∧ ¬ Cmp.M K wr i := by
  rintro i (rfl | e | e)
  · exact ⟨f.vb.inA.1, lt_of_heap f.vb.blk, f.vb.inA.2⟩
  · exact ⟨(f.vb.inI i e).1, (f.vb.ids.lt i e).2, (f.vb.inI i e).2⟩
  · exact ⟨(f.vb.inL i e).1, (f.vb.parts.lt i e).2, (f.vb.inL i e).2⟩

/-- A part is appended: w6 behind the call (and allocations), w7 behind the append. -/
theorem Cmp.Frame.part {x : _root_.Go.Proofs.YtnccjcbelcbgoaaGreatDoor.V} {cs : List Value} (h : Cmp.Inv K s w) (f : Cmp.Frame K w U S d T KT E ids vs iv lv rows w6) (i6 : Cmp.Inv K s' w6)
    (hx : ValAt d (fun i => (∀ j, U = j ∨ iv.ownBlock = some j ∨ lv.ownBlock = some j → i ≠ j) ∧ Cmp.Own K w.heap.size S w6 i) w6 cs x)
    (hown : w7.ownsRow w.heap.size 38 7 lv' (vs.length + 1) (rows.flatten ++ cs)) (hg : w6.grownBy w7 lv.ownBlock) (hat : lv'.ownBlock = lv.ownBlock ∨ lv'.ownBlock = some w6.heap.size) :
    Cmp.Frame K w U S d T KT E ids (vs ++ [x]) iv lv' (rows ++ [cs]) (w7.setCell ⟨U, 6, none⟩ lv') ∧ Cmp.Inv K s' (w7.setCell ⟨U, 6, none⟩ lv') := by
  have hmine := f.mine
  have hk : Keep (fun i => U = i ∨ lv.ownBlock = some i) w6 (w7.setCell ⟨U, 6, none⟩ lv') := ((Keep.refl _ w6).grown hg (fun k e _ => .inr e)).set U 6 (fun _ => .inl rfl) lv'
  obtain ⟨t1, t2, t3⟩ := Cmp.turn h f.kp i6 hk (fun i e => by
    have := hmine i (e.elim .inl (fun y => .inr (.inr y)))
    exact ⟨this.1, this.2.2.2⟩)
  have hlt := Cmp.M_lt i6
  have hs67 := hg.size
  refine ⟨⟨t2, ?_, ?_⟩, t1⟩
  · refine VB.part f.vb (hx.weak (fun i _ y => ⟨y.2, y.1 U (.inl rfl), fun e => y.1 i (.inr (.inl e)) rfl, fun e => y.1 i (.inr (.inr e)) rfl⟩)) hown hg (fun i e => ?_) (fun i hi y => ⟨y.1, y.2.1, fun m => y.2.2 (t3 i m)⟩) (fun i hi _ => ⟨?_, fun p hp e => ?_, fun m => ?_⟩) (fun i y => y.1)
    · rcases hat with e2 | e2
      · exact .inl (e2 ▸ e)
      · rw [e2] at e
        cases e
        exact .inr (Nat.le_refl _)
    · have := f.kp.size
      omega
    · have := lt_of_heap (f.still p hp).2.1
      omega
    · have := hlt i (t3 i m)
      omega
  · intro p hp
    obtain ⟨h1, h2, h3⟩ := f.still p hp
    refine ⟨h1, (hk.block p.1 (lt_of_heap h2) ?_).trans h2, fun m => h3 (t3 p.1 m)⟩
    intro e
    exact (hmine p.1 (e.elim .inl (fun y => .inr (.inr y)))).2.2.1 p hp rfl
end

/-- An error of the thin package's own in the place of none. -/
theorem Cmp.Post.own {K : Cmp.Ctx} {w w' : World} {k0 : Int} {ev : Value} {s : Cmp.St} (h : Cmp.Post K w w' k0 ev s) (k : Int) (h1 : 50 ≤ k) (h2 : k ≤ 54) : Cmp.Post K w w' k (.iface 112 (.int .i64 k)) s :=
  ⟨.inr (.inr (.inr (.inr ⟨h1, h2, rfl⟩))), fun e => by omega, h.some, h.keep⟩

end Go.Proofs.YtnccjcbelcbgoaaGreatDoor
