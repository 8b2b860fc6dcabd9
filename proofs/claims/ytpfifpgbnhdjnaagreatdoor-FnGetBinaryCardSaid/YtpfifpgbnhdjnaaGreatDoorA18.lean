/- Part 18 of the proof: Cv0, ReadBin, Get1Bin, GetScBin. -/
import Derived.Test.YtpfifpgbnhdjnaaGreatDoorA17
import Derived.Test.YtpfifpgbnhdjnaaGreatDoorA16
import Derived.Test.YtpfifpgbnhdjnaaGreatDoorA15
import Derived.Laws.IdiomStrings
import Derived.Laws.AppendOwn
import Derived.Deep.RegionWith
set_option linter.unusedVariables false
set_option linter.unusedSimpArgs false
set_option linter.unusedSectionVars false
/- []byte(s), as one step of a walk. -/
namespace Go.Proofs.YtpfifpgbnhdjnaaGreatDoor
open Go Go.RowKit

theorem byteA (l : ByteArray) (j : Nat) (b : UInt8) (h : l.data.toList[j]? = some b) (c : Nat) : (bytesRow l c)[j]? = some (.int .u8 (b.toNat : Int)) := by
  have hj : j < l.data.toList.length := (List.getElem?_eq_some_iff.1 h).1
  have hb : l.data[j]? = some b := by simpa using h
  have hs : j < (l.data.map (fun b => Value.int .u8 (b.toNat : Int))).size := by simpa using hj
  unfold bytesRow
  rw [Array.getElem?_append_left hs, Array.getElem?_map, hb]
  rfl

/-- []byte(s): a new block. -/
theorem wpList_bytes {w : World} {ops : Array Oper} {rest : List Oper} {o : Oper} {a : Act} {Q : Exit → Act → World → Prop} (hg : o.guard = none) (s : Operand) (hop : o.op = Op.convert 9 24 s) (l : ByteArray) (hs : a.eval s = .string l)
    (hK : ∀ (va : Option Addr) (vm vc : Nat) (w' : World), (l.size ≤ 140737488355328 → BytesAt (w.heap.size ≤ ·) w' (.slice va vm vc) l.data.toList) → Keep (fun _ => False) w w' → wpList Tryz.prog ops Q rest (a.put o.dst (.slice va vm vc)) w') : wpList Tryz.prog ops Q (o :: rest) a w := by
  refine wpList_plain hg fun K hK' => ?_
  have hrun := run_bytes_of_string (P := Tryz.prog) w 9 24 5 l Tryz.underlying9 Tryz.underlying24 Tryz.underlying5
  have hge := grownCap_ge w l.size 0 5
  have hk0 : Keep (fun _ => False) w (w.drew.alloc (.cells (bytesRow l (grownCap w l.size 0 5)) 5 ((bytesRow l (grownCap w l.size 0 5)).size, (bytesRow l (grownCap w l.size 0 5)).size + 1))) := ((Keep.refl _ w).drew).alloc _
  have hb0 : l.size ≤ 140737488355328 → BytesAt (w.heap.size ≤ ·) (w.drew.alloc (.cells (bytesRow l (grownCap w l.size 0 5)) 5 ((bytesRow l (grownCap w l.size 0 5)).size, (bytesRow l (grownCap w l.size 0 5)).size + 1))) (.slice (some ⟨w.heap.size, 0, none⟩) l.size (grownCap w l.size 0 5)) l.data.toList := fun hl => by
    have hlen : l.data.toList.length = l.size := by simp
    by_cases h0 : l.data.toList = []
    · rw [h0] at hlen ⊢
      exact .inl ⟨rfl, _, _, by rw [← hlen]; rfl⟩
    · refine .inr ⟨h0, w.heap.size, 0, _, by rw [hlen], by rw [hlen]; exact hge, by rw [hlen]; exact hl, Nat.le_refl _, fun j b hj => ?_⟩
      have hblk : (w.drew.alloc (.cells (bytesRow l (grownCap w l.size 0 5)) 5 ((bytesRow l (grownCap w l.size 0 5)).size, (bytesRow l (grownCap w l.size 0 5)).size + 1))).heap[w.heap.size]? = _ := heap_alloc_new w.drew _
      rw [Nat.zero_add, cellAt hblk]
      exact byteA l j b hj _
  unfold Oper.wp
  simp [execOp, hop, hs, hrun, Result.andThen]
  exact hK' _ _ (hK _ _ _ _ hb0 hk0)

end Go.Proofs.YtpfifpgbnhdjnaaGreatDoor

/- The thin package: one call of a protocol that reads a scalar. -/
namespace Go.Proofs.YtpfifpgbnhdjnaaGreatDoor
open Go Go.RowKit

/-- What reading a scalar tells: a number, some bytes, an error. -/
def Bin.ReadP (K : Bin.Ctx) (w : World) (k : Int) (s' : Bin.St) (N : Int) (S : List UInt8) (e : Ending) (w' : World) : Prop :=
  ∃ n v ev, e = .returned (.tuple #[gotV 0 0 0 0 0 n v, ev]) ∧ Bin.Post K w w' k ev s' ∧ (∃ a m c, v = .slice a m c) ∧ (k = 0 → n = N ∧ BytesAt (fun i => w.heap.size ≤ i ∧ ¬ Bin.M K w' i) w' v S)

theorem Bin.na_ReadBool (K : Bin.Ctx) (w : World) : (nilAhead 484 112 (.pointer (some ⟨K.P, 0, none⟩)) "ReadBool").run Tryz.prog w = .ok (some false) w := by kernel_rfl

set_option maxRecDepth 100000 in
set_option maxHeartbeats 4000000 in
theorem Bin.read13 (K : Bin.Ctx) (s : Bin.St) (w : World) (h : Bin.Inv K s w) :
    Calls Tryz.prog 48 #[Bin.V K, .agg (stepI 13)] w (Bin.ReadP K w ((Bin.pr K).scK 2 s) ((Bin.pr K).scS 2 s) ((Bin.pr K).scN 2 s) ((Bin.pr K).scB 2 s)) := by
  have hna := Bin.na_ReadBool K
  go_enter Tryz.func48, Tryz.ntmps48
  go_wp2_with fail
  have hk0 : Keep (fun _ => False) w ((w.alloc (.cells (stepI 13) 49 (0, 0))).alloc (.cells zGot 95 (0, 0))) := ((Keep.refl _ w).alloc _).alloc _
  have hU0 : ((w.alloc (.cells (stepI 13) 49 (0, 0))).alloc (.cells zGot 95 (0, 0))).heap[w.heap.size + 1]? = some (.cells zGot 95 (0, 0)) := heap_alloc_at (by simp) _
  obtain ⟨U, hU⟩ : ∃ U, w.heap.size + 1 = U := ⟨_, rfl⟩
  rw [hU] at hU0 ⊢
  generalize (w.alloc (.cells (stepI 13) 49 (0, 0))).alloc (.cells zGot 95 (0, 0)) = w1 at *
  have HU := Lib.hid hU
  have HU0 := Lib.hid hU0
  have hM := Bin.M_new h hk0
  have HM := Lib.hid hM
  clear hU hU0 hM
  go_region_with (first | (go_at_call 39; refine (ctx_at _).mono ?_; rintro e w' ⟨rfl, rfl⟩) | (go_at_call 232; refine (Bin.readBool (w := w1.drew) (h.fresh hk0.drew)).mono ?_; rintro e w2 ⟨v, ev, rfl, hp, hv⟩; have HP := Lib.hid hp; have HV := Lib.hid hv; clear hp hv))
  all_goals
    have hb := ((HP.out.keep.block U (by simpa using lt_of_heap HU0.out) (fun x => by have := HM.out U x; have := HU.out; omega)).trans HU0.out)
    have HB := Lib.hid hb
    obtain ⟨u0, u1, u2, u3, u4, u5, u6⟩ := got_cells hb
    obtain ⟨f0, f1, f2, f3, f4, f5, f6⟩ := got_free hb
    clear hb
    obtain ⟨n, hn⟩ : ∃ n : Int, n = if v = true then 1 else 0 := ⟨_, rfl⟩
    have HN := Lib.hid hn
    clear hn
    cases v
    · have hn0 : n = 0 := by simpa using HN.out
      subst hn0
      go_wp2_with fail
      have hk2 : Keep (fun i => U = i) w2 (gotW w2 U 0 0 0 0 0 0 nilB) := got_keep (Keep.refl _ w2) (fun _ => rfl) _ _ _ _ _ _ _
      refine ret_cell2 (U := U) (T := 95) Tryz.results48 rfl rfl rfl (got_set HB.out _ _ _ _ _ _ _) Tryz.underlying95 igot_size ?_
      refine ⟨0, nilB, ev, rfl, ?_, ⟨_, _, _, rfl⟩, fun hk => ⟨by simpa using HV.out hk, .inl ⟨Bin.b2 K s, _, _, rfl⟩⟩⟩
      exact Bin.through h hk0.drew HP.out hk2 (fun i hi => by have := HU.out; have := lt_of_heap HU0.out; simp; omega)
    · have hn1 : n = 1 := by simpa using HN.out
      subst hn1
      go_wp2_with fail
      have hk2 : Keep (fun i => U = i) w2 (gotW w2 U 0 0 0 0 0 1 nilB) := got_keep (Keep.refl _ w2) (fun _ => rfl) _ _ _ _ _ _ _
      refine ret_cell2 (U := U) (T := 95) Tryz.results48 rfl rfl rfl (got_set HB.out _ _ _ _ _ _ _) Tryz.underlying95 igot_size ?_
      refine ⟨1, nilB, ev, rfl, ?_, ⟨_, _, _, rfl⟩, fun hk => ⟨by simpa using HV.out hk, .inl ⟨Bin.b2 K s, _, _, rfl⟩⟩⟩
      exact Bin.through h hk0.drew HP.out hk2 (fun i hi => by have := HU.out; have := lt_of_heap HU0.out; simp; omega)

theorem Bin.na_ReadByte (K : Bin.Ctx) (w : World) : (nilAhead 484 112 (.pointer (some ⟨K.P, 0, none⟩)) "ReadByte").run Tryz.prog w = .ok (some false) w := by kernel_rfl

set_option maxRecDepth 100000 in
set_option maxHeartbeats 4000000 in
theorem Bin.read14 (K : Bin.Ctx) (s : Bin.St) (w : World) (h : Bin.Inv K s w) :
    Calls Tryz.prog 48 #[Bin.V K, .agg (stepI 14)] w (Bin.ReadP K w ((Bin.pr K).scK 3 s) ((Bin.pr K).scS 3 s) ((Bin.pr K).scN 3 s) ((Bin.pr K).scB 3 s)) := by
  have hna := Bin.na_ReadByte K
  go_enter Tryz.func48, Tryz.ntmps48
  go_wp2_with fail
  have hk0 : Keep (fun _ => False) w ((w.alloc (.cells (stepI 14) 49 (0, 0))).alloc (.cells zGot 95 (0, 0))) := ((Keep.refl _ w).alloc _).alloc _
  have hU0 : ((w.alloc (.cells (stepI 14) 49 (0, 0))).alloc (.cells zGot 95 (0, 0))).heap[w.heap.size + 1]? = some (.cells zGot 95 (0, 0)) := heap_alloc_at (by simp) _
  obtain ⟨U, hU⟩ : ∃ U, w.heap.size + 1 = U := ⟨_, rfl⟩
  rw [hU] at hU0 ⊢
  generalize (w.alloc (.cells (stepI 14) 49 (0, 0))).alloc (.cells zGot 95 (0, 0)) = w1 at *
  have HU := Lib.hid hU
  have HU0 := Lib.hid hU0
  have hM := Bin.M_new h hk0
  have HM := Lib.hid hM
  clear hU hU0 hM
  go_region_with (first | (go_at_call 39; refine (ctx_at _).mono ?_; rintro e w' ⟨rfl, rfl⟩) | (go_at_call 233; refine (Bin.readByte (w := w1.drew) (h.fresh hk0.drew)).mono ?_; rintro e w2 ⟨n, ev, rfl, hp, hv, b1, b2⟩; have HP := Lib.hid hp; have HV := Lib.hid hv; clear hp hv))
  all_goals
    have hb := ((HP.out.keep.block U (by simpa using lt_of_heap HU0.out) (fun x => by have := HM.out U x; have := HU.out; omega)).trans HU0.out)
    have HB := Lib.hid hb
    obtain ⟨u0, u1, u2, u3, u4, u5, u6⟩ := got_cells hb
    obtain ⟨f0, f1, f2, f3, f4, f5, f6⟩ := got_free hb
    clear hb
    go_wp2_with fail
    have hk2 : Keep (fun i => U = i) w2 (gotW w2 U 0 0 0 0 0 n nilB) := got_keep (Keep.refl _ w2) (fun _ => rfl) _ _ _ _ _ _ _
    refine ret_cell2 (U := U) (T := 95) Tryz.results48 rfl rfl rfl (got_set HB.out _ _ _ _ _ _ _) Tryz.underlying95 igot_size ?_
    refine ⟨n, nilB, ev, rfl, ?_, ⟨_, _, _, rfl⟩, fun hk => ⟨HV.out hk, .inl ⟨Bin.b3 K s, _, _, rfl⟩⟩⟩
    exact Bin.through h hk0.drew HP.out hk2 (fun i hi => by have := HU.out; have := lt_of_heap HU0.out; simp; omega)

theorem Bin.na_ReadI16 (K : Bin.Ctx) (w : World) : (nilAhead 484 112 (.pointer (some ⟨K.P, 0, none⟩)) "ReadI16").run Tryz.prog w = .ok (some false) w := by kernel_rfl

set_option maxRecDepth 100000 in
set_option maxHeartbeats 4000000 in
theorem Bin.read15 (K : Bin.Ctx) (s : Bin.St) (w : World) (h : Bin.Inv K s w) :
    Calls Tryz.prog 48 #[Bin.V K, .agg (stepI 15)] w (Bin.ReadP K w ((Bin.pr K).scK 6 s) ((Bin.pr K).scS 6 s) ((Bin.pr K).scN 6 s) ((Bin.pr K).scB 6 s)) := by
  have hna := Bin.na_ReadI16 K
  go_enter Tryz.func48, Tryz.ntmps48
  go_wp2_with fail
  have hk0 : Keep (fun _ => False) w ((w.alloc (.cells (stepI 15) 49 (0, 0))).alloc (.cells zGot 95 (0, 0))) := ((Keep.refl _ w).alloc _).alloc _
  have hU0 : ((w.alloc (.cells (stepI 15) 49 (0, 0))).alloc (.cells zGot 95 (0, 0))).heap[w.heap.size + 1]? = some (.cells zGot 95 (0, 0)) := heap_alloc_at (by simp) _
  obtain ⟨U, hU⟩ : ∃ U, w.heap.size + 1 = U := ⟨_, rfl⟩
  rw [hU] at hU0 ⊢
  generalize (w.alloc (.cells (stepI 15) 49 (0, 0))).alloc (.cells zGot 95 (0, 0)) = w1 at *
  have HU := Lib.hid hU
  have HU0 := Lib.hid hU0
  have hM := Bin.M_new h hk0
  have HM := Lib.hid hM
  clear hU hU0 hM
  go_region_with (first | (go_at_call 39; refine (ctx_at _).mono ?_; rintro e w' ⟨rfl, rfl⟩) | (go_at_call 237; refine (Bin.readI16 (w := w1.drew) (h.fresh hk0.drew)).mono ?_; rintro e w2 ⟨n, ev, rfl, hp, hv, b1, b2⟩; have HP := Lib.hid hp; have HV := Lib.hid hv; clear hp hv))
  all_goals
    have hb := ((HP.out.keep.block U (by simpa using lt_of_heap HU0.out) (fun x => by have := HM.out U x; have := HU.out; omega)).trans HU0.out)
    have HB := Lib.hid hb
    obtain ⟨u0, u1, u2, u3, u4, u5, u6⟩ := got_cells hb
    obtain ⟨f0, f1, f2, f3, f4, f5, f6⟩ := got_free hb
    clear hb
    go_wp2_with fail
    have hk2 : Keep (fun i => U = i) w2 (gotW w2 U 0 0 0 0 0 n nilB) := got_keep (Keep.refl _ w2) (fun _ => rfl) _ _ _ _ _ _ _
    refine ret_cell2 (U := U) (T := 95) Tryz.results48 rfl rfl rfl (got_set HB.out _ _ _ _ _ _ _) Tryz.underlying95 igot_size ?_
    refine ⟨n, nilB, ev, rfl, ?_, ⟨_, _, _, rfl⟩, fun hk => ⟨HV.out hk, .inl ⟨Bin.b6 K s, _, _, rfl⟩⟩⟩
    exact Bin.through h hk0.drew HP.out hk2 (fun i hi => by have := HU.out; have := lt_of_heap HU0.out; simp; omega)

theorem Bin.na_ReadI32 (K : Bin.Ctx) (w : World) : (nilAhead 484 112 (.pointer (some ⟨K.P, 0, none⟩)) "ReadI32").run Tryz.prog w = .ok (some false) w := by kernel_rfl

set_option maxRecDepth 100000 in
set_option maxHeartbeats 4000000 in
theorem Bin.read16 (K : Bin.Ctx) (s : Bin.St) (w : World) (h : Bin.Inv K s w) :
    Calls Tryz.prog 48 #[Bin.V K, .agg (stepI 16)] w (Bin.ReadP K w ((Bin.pr K).scK 8 s) ((Bin.pr K).scS 8 s) ((Bin.pr K).scN 8 s) ((Bin.pr K).scB 8 s)) := by
  have hna := Bin.na_ReadI32 K
  go_enter Tryz.func48, Tryz.ntmps48
  go_wp2_with fail
  have hk0 : Keep (fun _ => False) w ((w.alloc (.cells (stepI 16) 49 (0, 0))).alloc (.cells zGot 95 (0, 0))) := ((Keep.refl _ w).alloc _).alloc _
  have hU0 : ((w.alloc (.cells (stepI 16) 49 (0, 0))).alloc (.cells zGot 95 (0, 0))).heap[w.heap.size + 1]? = some (.cells zGot 95 (0, 0)) := heap_alloc_at (by simp) _
  obtain ⟨U, hU⟩ : ∃ U, w.heap.size + 1 = U := ⟨_, rfl⟩
  rw [hU] at hU0 ⊢
  generalize (w.alloc (.cells (stepI 16) 49 (0, 0))).alloc (.cells zGot 95 (0, 0)) = w1 at *
  have HU := Lib.hid hU
  have HU0 := Lib.hid hU0
  have hM := Bin.M_new h hk0
  have HM := Lib.hid hM
  clear hU hU0 hM
  go_region_with (first | (go_at_call 39; refine (ctx_at _).mono ?_; rintro e w' ⟨rfl, rfl⟩) | (go_at_call 238; refine (Bin.readI32 (w := w1.drew) (h.fresh hk0.drew)).mono ?_; rintro e w2 ⟨n, ev, rfl, hp, hv, b1, b2⟩; have HP := Lib.hid hp; have HV := Lib.hid hv; clear hp hv))
  all_goals
    have hb := ((HP.out.keep.block U (by simpa using lt_of_heap HU0.out) (fun x => by have := HM.out U x; have := HU.out; omega)).trans HU0.out)
    have HB := Lib.hid hb
    obtain ⟨u0, u1, u2, u3, u4, u5, u6⟩ := got_cells hb
    obtain ⟨f0, f1, f2, f3, f4, f5, f6⟩ := got_free hb
    clear hb
    go_wp2_with fail
    have hk2 : Keep (fun i => U = i) w2 (gotW w2 U 0 0 0 0 0 n nilB) := got_keep (Keep.refl _ w2) (fun _ => rfl) _ _ _ _ _ _ _
    refine ret_cell2 (U := U) (T := 95) Tryz.results48 rfl rfl rfl (got_set HB.out _ _ _ _ _ _ _) Tryz.underlying95 igot_size ?_
    refine ⟨n, nilB, ev, rfl, ?_, ⟨_, _, _, rfl⟩, fun hk => ⟨HV.out hk, .inl ⟨Bin.b8 K s, _, _, rfl⟩⟩⟩
    exact Bin.through h hk0.drew HP.out hk2 (fun i hi => by have := HU.out; have := lt_of_heap HU0.out; simp; omega)

theorem Bin.na_ReadI64 (K : Bin.Ctx) (w : World) : (nilAhead 484 112 (.pointer (some ⟨K.P, 0, none⟩)) "ReadI64").run Tryz.prog w = .ok (some false) w := by kernel_rfl

set_option maxRecDepth 100000 in
set_option maxHeartbeats 4000000 in
theorem Bin.read17 (K : Bin.Ctx) (s : Bin.St) (w : World) (h : Bin.Inv K s w) :
    Calls Tryz.prog 48 #[Bin.V K, .agg (stepI 17)] w (Bin.ReadP K w ((Bin.pr K).scK 10 s) ((Bin.pr K).scS 10 s) ((Bin.pr K).scN 10 s) ((Bin.pr K).scB 10 s)) := by
  have hna := Bin.na_ReadI64 K
  go_enter Tryz.func48, Tryz.ntmps48
  go_wp2_with fail
  have hk0 : Keep (fun _ => False) w ((w.alloc (.cells (stepI 17) 49 (0, 0))).alloc (.cells zGot 95 (0, 0))) := ((Keep.refl _ w).alloc _).alloc _
  have hU0 : ((w.alloc (.cells (stepI 17) 49 (0, 0))).alloc (.cells zGot 95 (0, 0))).heap[w.heap.size + 1]? = some (.cells zGot 95 (0, 0)) := heap_alloc_at (by simp) _
  obtain ⟨U, hU⟩ : ∃ U, w.heap.size + 1 = U := ⟨_, rfl⟩
  rw [hU] at hU0 ⊢
  generalize (w.alloc (.cells (stepI 17) 49 (0, 0))).alloc (.cells zGot 95 (0, 0)) = w1 at *
  have HU := Lib.hid hU
  have HU0 := Lib.hid hU0
  have hM := Bin.M_new h hk0
  have HM := Lib.hid hM
  clear hU hU0 hM
  go_region_with (first | (go_at_call 39; refine (ctx_at _).mono ?_; rintro e w' ⟨rfl, rfl⟩) | (go_at_call 239; refine (Bin.readI64 (w := w1.drew) (h.fresh hk0.drew)).mono ?_; rintro e w2 ⟨n, ev, rfl, hp, hv, b1, b2⟩; have HP := Lib.hid hp; have HV := Lib.hid hv; clear hp hv))
  all_goals
    have hb := ((HP.out.keep.block U (by simpa using lt_of_heap HU0.out) (fun x => by have := HM.out U x; have := HU.out; omega)).trans HU0.out)
    have HB := Lib.hid hb
    obtain ⟨u0, u1, u2, u3, u4, u5, u6⟩ := got_cells hb
    obtain ⟨f0, f1, f2, f3, f4, f5, f6⟩ := got_free hb
    clear hb
    go_wp2_with fail
    have hk2 : Keep (fun i => U = i) w2 (gotW w2 U 0 0 0 0 0 n nilB) := got_keep (Keep.refl _ w2) (fun _ => rfl) _ _ _ _ _ _ _
    refine ret_cell2 (U := U) (T := 95) Tryz.results48 rfl rfl rfl (got_set HB.out _ _ _ _ _ _ _) Tryz.underlying95 igot_size ?_
    refine ⟨n, nilB, ev, rfl, ?_, ⟨_, _, _, rfl⟩, fun hk => ⟨HV.out hk, .inl ⟨Bin.b10 K s, _, _, rfl⟩⟩⟩
    exact Bin.through h hk0.drew HP.out hk2 (fun i hi => by have := HU.out; have := lt_of_heap HU0.out; simp; omega)

theorem Bin.na_ReadDouble (K : Bin.Ctx) (w : World) : (nilAhead 484 112 (.pointer (some ⟨K.P, 0, none⟩)) "ReadDouble").run Tryz.prog w = .ok (some false) w := by kernel_rfl

set_option maxRecDepth 100000 in
set_option maxHeartbeats 4000000 in
theorem Bin.read18 (K : Bin.Ctx) (s : Bin.St) (w : World) (h : Bin.Inv K s w) :
    Calls Tryz.prog 48 #[Bin.V K, .agg (stepI 18)] w (Bin.ReadP K w ((Bin.pr K).scK 4 s) ((Bin.pr K).scS 4 s) ((Bin.pr K).scN 4 s) ((Bin.pr K).scB 4 s)) := by
  have hna := Bin.na_ReadDouble K
  go_enter Tryz.func48, Tryz.ntmps48
  go_wp2_with fail
  have hk0 : Keep (fun _ => False) w ((w.alloc (.cells (stepI 18) 49 (0, 0))).alloc (.cells zGot 95 (0, 0))) := ((Keep.refl _ w).alloc _).alloc _
  have hU0 : ((w.alloc (.cells (stepI 18) 49 (0, 0))).alloc (.cells zGot 95 (0, 0))).heap[w.heap.size + 1]? = some (.cells zGot 95 (0, 0)) := heap_alloc_at (by simp) _
  obtain ⟨U, hU⟩ : ∃ U, w.heap.size + 1 = U := ⟨_, rfl⟩
  rw [hU] at hU0 ⊢
  generalize (w.alloc (.cells (stepI 18) 49 (0, 0))).alloc (.cells zGot 95 (0, 0)) = w1 at *
  have HU := Lib.hid hU
  have HU0 := Lib.hid hU0
  have hM := Bin.M_new h hk0
  have HM := Lib.hid hM
  clear hU hU0 hM
  go_region_with (first | (go_at_call 39; refine (ctx_at _).mono ?_; rintro e w' ⟨rfl, rfl⟩) | (go_at_call 234; refine (Bin.readDouble (w := w1.drew) (h.fresh hk0.drew)).mono ?_; rintro e w2 ⟨n, ev, rfl, hp, hb0, hv⟩; have HP := Lib.hid hp; have HV := Lib.hid hv; clear hp hv))
  all_goals
    have hb := ((HP.out.keep.block U (by simpa using lt_of_heap HU0.out) (fun x => by have := HM.out U x; have := HU.out; omega)).trans HU0.out)
    have HB := Lib.hid hb
    obtain ⟨u0, u1, u2, u3, u4, u5, u6⟩ := got_cells hb
    obtain ⟨f0, f1, f2, f3, f4, f5, f6⟩ := got_free hb
    clear hb
    have hfb := tobits
    go_wp2_with fail
    have hk2 : Keep (fun i => U = i) w2 (gotW w2 U 0 0 0 0 0 (wrap64 n) nilB) := got_keep (Keep.refl _ w2) (fun _ => rfl) _ _ _ _ _ _ _
    refine ret_cell2 (U := U) (T := 95) Tryz.results48 rfl rfl rfl (got_set HB.out _ _ _ _ _ _ _) Tryz.underlying95 igot_size ?_
    refine ⟨wrap64 n, nilB, ev, rfl, ?_, ⟨_, _, _, rfl⟩, fun hk => ⟨HV.out hk, .inl ⟨Bin.b4 K s, _, _, rfl⟩⟩⟩
    exact Bin.through h hk0.drew HP.out hk2 (fun i hi => by have := HU.out; have := lt_of_heap HU0.out; simp; omega)

theorem Bin.na_ReadString (K : Bin.Ctx) (w : World) : (nilAhead 484 112 (.pointer (some ⟨K.P, 0, none⟩)) "ReadString").run Tryz.prog w = .ok (some false) w := by kernel_rfl

set_option maxRecDepth 100000 in
set_option maxHeartbeats 4000000 in
theorem Bin.read19 (K : Bin.Ctx) (s : Bin.St) (w : World) (h : Bin.Inv K s w) :
    Calls Tryz.prog 48 #[Bin.V K, .agg (stepI 19)] w (Bin.ReadP K w ((Bin.pr K).scK 11 s) ((Bin.pr K).scS 11 s) ((Bin.pr K).scN 11 s) ((Bin.pr K).scB 11 s)) := by
  have hna := Bin.na_ReadString K
  go_enter Tryz.func48, Tryz.ntmps48
  go_wp2_with fail
  have hk0 : Keep (fun _ => False) w ((w.alloc (.cells (stepI 19) 49 (0, 0))).alloc (.cells zGot 95 (0, 0))) := ((Keep.refl _ w).alloc _).alloc _
  have hU0 : ((w.alloc (.cells (stepI 19) 49 (0, 0))).alloc (.cells zGot 95 (0, 0))).heap[w.heap.size + 1]? = some (.cells zGot 95 (0, 0)) := heap_alloc_at (by simp) _
  obtain ⟨U, hU⟩ : ∃ U, w.heap.size + 1 = U := ⟨_, rfl⟩
  rw [hU] at hU0 ⊢
  generalize (w.alloc (.cells (stepI 19) 49 (0, 0))).alloc (.cells zGot 95 (0, 0)) = w1 at *
  have HU := Lib.hid hU
  have HU0 := Lib.hid hU0
  have hM := Bin.M_new h hk0
  have HM := Lib.hid hM
  clear hU hU0 hM
  go_region_with (first | (go_at_call 39; refine (ctx_at _).mono ?_; rintro e w' ⟨rfl, rfl⟩) | (go_at_call 248; refine (Bin.readString (w := w1.drew) (h.fresh hk0.drew)).mono ?_; rintro e w2 ⟨l, ev, rfl, hp, hv⟩; have HP := Lib.hid hp; have HV := Lib.hid hv; clear hp hv))
  all_goals
    have hb := ((HP.out.keep.block U (by simpa using lt_of_heap HU0.out) (fun x => by have := HM.out U x; have := HU.out; omega)).trans HU0.out)
    have HB := Lib.hid hb
    have HB2 := Lib.hid hb
    clear hb
    go_wp2_with (refine wpList_bytes rfl (.tmp 128) rfl l rfl ?_)
    intro va vm vc w3 hbs hk3
    have hb3 := (hk3.block U (lt_of_heap HB2.out) id).trans HB2.out
    have HBS := Lib.hid hbs
    have HB3 := Lib.hid hb3
    obtain ⟨u0, u1, u2, u3, u4, u5, u6⟩ := got_cells hb3
    obtain ⟨f0, f1, f2, f3, f4, f5, f6⟩ := got_free hb3
    clear hb3 hbs
    go_wp2_with fail
    have hk2 : Keep (fun i => U = i) w2 (gotW w3 U 0 0 0 0 0 0 (.slice va vm vc)) := got_keep (hk3.weak (fun _ _ x => x.elim)) (fun _ => rfl) _ _ _ _ _ _ _
    refine ret_cell2 (U := U) (T := 95) Tryz.results48 rfl rfl rfl (got_set HB3.out _ _ _ _ _ _ _) Tryz.underlying95 igot_size ?_
    refine ⟨0, .slice va vm vc, ev, rfl, ?_, ⟨_, _, _, rfl⟩, fun hk => ⟨(Bin.n11 K s).symm, ?_⟩⟩
    · exact Bin.through h hk0.drew HP.out hk2 (fun i hi => by have := HU.out; have := lt_of_heap HU0.out; simp; omega)
    · have hl := HV.out hk
      have hbl := Bin.b_le h 11
      have h9 : BytesAt (w2.heap.size ≤ ·) w3 (.slice va vm vc) ((Bin.pr K).scB 11 s) := by
        have h8 := HBS.out (by rw [hl]; exact hbl)
        rw [hl] at h8
        exact h8
      have hk4 : Keep (fun i => U = i) w3 (gotW w3 U 0 0 0 0 0 0 (.slice va vm vc)) := got_keep (Keep.refl _ w3) (fun _ => rfl) _ _ _ _ _ _ _
      have hs2 := HP.out.keep.size
      have hU2 := lt_of_heap HU0.out
      have hUu := HU.out
      exact (h9.keep hk4 (fun i hi e => by simp at hs2; omega)).weak (fun i _ hi => ⟨by simp at hs2; omega, fun x => by have := HP.out.some.lt i (Bin.through_M h hk0.drew HP.out hk2 (fun i hi => by have := HU.out; have := lt_of_heap HU0.out; simp; omega) i x); omega⟩)

end Go.Proofs.YtpfifpgbnhdjnaaGreatDoor

/- The thin package: get of a number of 32 bits. -/
namespace Go.Proofs.YtpfifpgbnhdjnaaGreatDoor
open Go Go.RowKit

abbrev zVal : Array Value := valC 0 0 nilB 0 0 (.slice none 0 0) (.slice none 0 0)
/-- What get lays ahead of its work. -/
abbrev getW (w : World) (t : Int) : World := ((w.alloc (.cells zVal 34 (0, 0))).alloc (.cells (valC t 0 nilB 0 0 (.slice none 0 0) (.slice none 0 0)) 34 (0, 0))).alloc (.cells zGot 95 (0, 0))

theorem getW_facts (w : World) (t : Int) : Keep (fun _ => False) w (getW w t) ∧ (getW w t).heap[w.heap.size]? = some (.cells zVal 34 (0, 0)) ∧ (getW w t).heap[w.heap.size + 1]? = some (.cells (valC t 0 nilB 0 0 (.slice none 0 0) (.slice none 0 0)) 34 (0, 0)) ∧
    (getW w t).heap[w.heap.size + 1 + 1]? = some (.cells zGot 95 (0, 0)) ∧ (getW w t).heap.size = w.heap.size + 3 := by
  refine ⟨(((Keep.refl _ w).alloc _).alloc _).alloc _, ?_, ?_, ?_, by simp⟩
  · exact (Below.heap_alloc _ _ _ (by simp; omega)).trans ((Below.heap_alloc _ _ _ (by simp)).trans (heap_alloc_new w _))
  · exact (Below.heap_alloc _ _ _ (by simp)).trans (heap_alloc_at (by simp) _)
  · exact heap_alloc_at (by simp) _

theorem val_set {w : World} {U : Nat} {v0 v1 v2 v3 v4 v5 v6 : Value} {T : TypeId} (h : w.heap[U]? = some (.cells #[v0, v1, v2, v3, v4, v5, v6] T (0, 0))) (x0 x1 x2 x3 x4 x5 x6 : Value) :
    (((((((w.setCell ⟨U, 0, none⟩ x0).setCell ⟨U, 1, none⟩ x1).setCell ⟨U, 2, none⟩ x2).setCell ⟨U, 3, none⟩ x3).setCell ⟨U, 4, none⟩ x4).setCell ⟨U, 5, none⟩ x5).setCell ⟨U, 6, none⟩ x6).heap[U]? = some (.cells #[x0, x1, x2, x3, x4, x5, x6] T (0, 0)) := by
  have h0 := heap_set_same (i := 0) h x0
  have h1 := heap_set_same (i := 1) h0 x1
  have h2 := heap_set_same (i := 2) h1 x2
  have h3 := heap_set_same (i := 3) h2 x3
  have h4 := heap_set_same (i := 4) h3 x4
  have h5 := heap_set_same (i := 5) h4 x5
  have h6 := heap_set_same (i := 6) h5 x6
  simpa using h6

set_option maxRecDepth 100000 in
set_option maxHeartbeats 4000000 in
theorem Bin.get8 (K : Bin.Ctx) (deep : Int) (hd : 0 < deep) (s : Bin.St) (w : World) (h : Bin.Inv K s w) :
    Calls Tryz.prog 29 #[Bin.V K, .int .u8 8, .int .i64 deep] w fun e w' => ∃ n v ev, e = .returned (.tuple #[.agg (valC 8 n v 0 0 (.slice none 0 0) (.slice none 0 0)), ev]) ∧ Bin.Post K w w' ((Bin.pr K).scK 8 s) ev ((Bin.pr K).scS 8 s) ∧ ((Bin.pr K).scK 8 s = 0 → n = (Bin.pr K).scN 8 s ∧ BytesAt (fun i => w.heap.size ≤ i ∧ ¬ Bin.M K w' i) w' v ((Bin.pr K).scB 8 s)) := by
  go_enter Tryz.func29, Tryz.ntmps29
  go_wp2_with fail
  obtain ⟨hk0, hR, hV, hG, hs⟩ := getW_facts w 8
  obtain ⟨n0, hn⟩ : ∃ n0, w.heap.size = n0 := ⟨_, rfl⟩
  rw [hn] at hR hV hG hs ⊢
  unfold getW at hk0 hR hV hG hs
  generalize ((w.alloc (.cells zVal 34 (0, 0))).alloc (.cells (valC 8 0 nilB 0 0 (.slice none 0 0) (.slice none 0 0)) 34 (0, 0))).alloc (.cells zGot 95 (0, 0)) = w1 at *
  have HN := Lib.hid hn
  have HR := Lib.hid hR
  have HV := Lib.hid hV
  have HG := Lib.hid hG
  have HS := Lib.hid hs
  have HM := Lib.hid (Bin.M_new h hk0)
  clear hn hR hV hG hs
  refine (Bin.read16 K s w1 (h.fresh hk0)).mono ?_
  rintro e w2 ⟨n, v, ev, rfl, hp, ⟨va, vm, vc, rfl⟩, hres⟩
  have hnew : ∀ i, n0 ≤ i → ¬ Bin.M K w1 i := fun i hi x => by have := HM.out i x; have := HN.out; omega
  have hR2 := (hp.keep.block n0 (lt_of_heap HR.out) (hnew _ (by omega))).trans HR.out
  have hV2 := (hp.keep.block (n0 + 1) (lt_of_heap HV.out) (hnew _ (by omega))).trans HV.out
  have hG2 := (hp.keep.block (n0 + 1 + 1) (lt_of_heap HG.out) (hnew _ (by omega))).trans HG.out
  have HP := Lib.hid hp
  have HRES := Lib.hid hres
  have HR2 := Lib.hid hR2
  have HV2 := Lib.hid hV2
  have HG2 := Lib.hid hG2
  obtain ⟨u0, u1, u2, u3, u4, u5, u6⟩ := got_cells hG2
  obtain ⟨f0, f1, f2, f3, f4, f5, f6⟩ := got_free hG2
  clear hp hres hR2 hV2 hG2 hnew
  go_wp2_with fail
  have hG3 := got_set HG2.out 0 0 0 0 0 n (.slice va vm vc)
  have hk3 : Keep (fun i => n0 + 1 + 1 = i) w2 (gotW w2 (n0 + 1 + 1) 0 0 0 0 0 n (.slice va vm vc)) := got_keep (Keep.refl _ w2) (fun _ => rfl) _ _ _ _ _ _ _
  clear u0 u1 u2 u3 u4 u5 u6 f0 f1 f2 f3 f4 f5 f6
  obtain ⟨w3, hw3⟩ : ∃ w3, gotW w2 (n0 + 1 + 1) 0 0 0 0 0 n (.slice va vm vc) = w3 := ⟨_, rfl⟩
  rw [hw3] at hG3 hk3
  unfold gotW at hw3
  rw [hw3]
  clear hw3
  have hV3 := (hk3.block (n0 + 1) (lt_of_heap HV2.out) (by omega)).trans HV2.out
  have hR3 := (hk3.block n0 (lt_of_heap HR2.out) (by omega)).trans HR2.out
  obtain ⟨u0, u1, u2, u3, u4, u5, u6⟩ := got_cells hG3
  obtain ⟨x0, x1, x2, x3, x4, x5, x6⟩ := got_cells hV3
  obtain ⟨y0, y1, y2, y3, y4, y5, y6⟩ := got_free hV3
  obtain ⟨r0, r1, r2, r3, r4, r5, r6⟩ := got_cells hR3
  obtain ⟨z0, z1, z2, z3, z4, z5, z6⟩ := got_free hR3
  have HV3 := Lib.hid hV3
  have HR3 := Lib.hid hR3
  clear hV3 hR3 hG3
  go_region
  all_goals
    go_wp2_with fail
    have hn0 := HN.out
    have hs1 := HS.out
    have hR4 : ((w3.setCell ⟨n0 + 1, 1, none⟩ (.int .i64 n)).setCell ⟨n0 + 1, 2, none⟩ (.slice va vm vc)).heap[n0]? = some (.cells zVal 34 (0, 0)) := (heap_set_other (p := ⟨n0 + 1, 2, none⟩) _ (by simp)).trans ((heap_set_other (p := ⟨n0 + 1, 1, none⟩) _ (by simp)).trans HR3.out)
    have hkN : Keep (fun i => n0 ≤ i ∧ i < n0 + 3) w2 w3 := hk3.weak (fun i _ e => by omega)
    have hkW := (((((((((hkN.set (n0 + 1) 1 (fun _ => by omega) (.int .i64 n)).set (n0 + 1) 2 (fun _ => by omega) (.slice va vm vc)).set n0 0 (fun _ => by omega) (.int .i64 8)).set n0 1 (fun _ => by omega) (.int .i64 n)).set n0 2 (fun _ => by omega) (.slice va vm vc)).set n0 3 (fun _ => by omega) (.int .i64 0)).set n0 4 (fun _ => by omega) (.int .i64 0)).set n0 5 (fun _ => by omega) (.slice none 0 0)).set n0 6 (fun _ => by omega) (.slice none 0 0)).drew
    have hR5 := val_set hR4 (.int .i64 8) (.int .i64 n) (.slice va vm vc) (.int .i64 0) (.int .i64 0) (.slice none 0 0) (.slice none 0 0)
    generalize ((((((((w3.setCell ⟨n0 + 1, 1, none⟩ (.int .i64 n)).setCell ⟨n0 + 1, 2, none⟩ (.slice va vm vc)).setCell ⟨n0, 0, none⟩ (.int .i64 8)).setCell ⟨n0, 1, none⟩ (.int .i64 n)).setCell ⟨n0, 2, none⟩ (.slice va vm vc)).setCell ⟨n0, 3, none⟩ (.int .i64 0)).setCell ⟨n0, 4, none⟩ (.int .i64 0)).setCell ⟨n0, 5, none⟩ (.slice none 0 0)).setCell ⟨n0, 6, none⟩ (.slice none 0 0) = w4 at *
    have hR6 : w4.drew.heap[n0]? = some (.cells #[.int .i64 8, .int .i64 n, .slice va vm vc, .int .i64 0, .int .i64 0, .slice none 0 0, .slice none 0 0] 34 (0, 0)) := hR5
    refine ret_cell2 (U := n0) (T := 34) Tryz.results29 rfl rfl rfl hR6 Tryz.underlying34 ival_size ?_
    refine ⟨n, _, ev, rfl, Bin.through h hk0 HP.out hkW (fun i hi => by omega), fun hz => ⟨(HRES.out hz).1, ?_⟩⟩
    exact ((HRES.out hz).2.keep hkW (fun i hi e => by have := hi.1; omega)).weak (fun i _ hi => ⟨by have := hi.1; omega, fun x => hi.2 (Bin.through_M h hk0 HP.out hkW (fun i hi => by omega) i x)⟩)

end Go.Proofs.YtpfifpgbnhdjnaaGreatDoor

/- The thin package: get of a scalar. -/
namespace Go.Proofs.YtpfifpgbnhdjnaaGreatDoor
open Go Go.RowKit

/-- What get brings about: a value's seven cells, an error; the value where there is none. -/
def Bin.GetP (K : Bin.Ctx) (d : Nat) (w : World) (r : Int × Bin.St × _root_.Go.Proofs.YtpfifpgbnhdjnaaGreatDoor.V) (e : Ending) (w' : World) : Prop :=
  ∃ T N Sa Sm Sc KT E Ia Im Ic La Lm Lc ev, e = .returned (.tuple #[.agg (valC T N (.slice Sa Sm Sc) KT E (.slice Ia Im Ic) (.slice La Lm Lc)), ev]) ∧ Bin.Post K w w' r.1 ev r.2.1 ∧
    (r.1 = 0 → ValAt d (fun i => w.heap.size ≤ i ∧ ¬ Bin.M K w' i) w' (valC T N (.slice Sa Sm Sc) KT E (.slice Ia Im Ic) (.slice La Lm Lc)).toList r.2.2)

set_option maxRecDepth 100000 in
set_option maxHeartbeats 4000000 in
theorem Bin.gets2 (K : Bin.Ctx) (deep : Int) (hd : 0 < deep) (s : Bin.St) (w : World) (h : Bin.Inv K s w) :
    Calls Tryz.prog 29 #[Bin.V K, .int .u8 2, .int .i64 deep] w (Bin.GetP K 1 w ((Bin.pr K).scK 2 s, (Bin.pr K).scS 2 s, .mk 2 ((Bin.pr K).scN 2 s) ((Bin.pr K).scB 2 s) 0 0 [] [])) := by
  go_enter Tryz.func29, Tryz.ntmps29
  go_wp2_with fail
  obtain ⟨hk0, hR, hV, hG, hs⟩ := getW_facts w 2
  obtain ⟨n0, hn⟩ : ∃ n0, w.heap.size = n0 := ⟨_, rfl⟩
  rw [hn] at hR hV hG hs ⊢
  unfold getW at hk0 hR hV hG hs
  generalize ((w.alloc (.cells zVal 34 (0, 0))).alloc (.cells (valC 2 0 nilB 0 0 (.slice none 0 0) (.slice none 0 0)) 34 (0, 0))).alloc (.cells zGot 95 (0, 0)) = w1 at *
  have HN := Lib.hid hn
  have HR := Lib.hid hR
  have HV := Lib.hid hV
  have HG := Lib.hid hG
  have HS := Lib.hid hs
  have HM := Lib.hid (Bin.M_new h hk0)
  clear hn hR hV hG hs
  refine (Bin.read13 K s w1 (h.fresh hk0)).mono ?_
  rintro e w2 ⟨n, v, ev, rfl, hp, ⟨va, vm, vc, rfl⟩, hres⟩
  have hnew : ∀ i, n0 ≤ i → ¬ Bin.M K w1 i := fun i hi x => by have := HM.out i x; have := HN.out; omega
  have hR2 := (hp.keep.block n0 (lt_of_heap HR.out) (hnew _ (by omega))).trans HR.out
  have hV2 := (hp.keep.block (n0 + 1) (lt_of_heap HV.out) (hnew _ (by omega))).trans HV.out
  have hG2 := (hp.keep.block (n0 + 1 + 1) (lt_of_heap HG.out) (hnew _ (by omega))).trans HG.out
  have HP := Lib.hid hp
  have HRES := Lib.hid hres
  have HR2 := Lib.hid hR2
  have HV2 := Lib.hid hV2
  have HG2 := Lib.hid hG2
  obtain ⟨u0, u1, u2, u3, u4, u5, u6⟩ := got_cells hG2
  obtain ⟨f0, f1, f2, f3, f4, f5, f6⟩ := got_free hG2
  clear hp hres hR2 hV2 hG2 hnew
  go_wp2_with fail
  have hG3 := got_set HG2.out 0 0 0 0 0 n (.slice va vm vc)
  have hk3 : Keep (fun i => n0 + 1 + 1 = i) w2 (gotW w2 (n0 + 1 + 1) 0 0 0 0 0 n (.slice va vm vc)) := got_keep (Keep.refl _ w2) (fun _ => rfl) _ _ _ _ _ _ _
  clear u0 u1 u2 u3 u4 u5 u6 f0 f1 f2 f3 f4 f5 f6
  obtain ⟨w3, hw3⟩ : ∃ w3, gotW w2 (n0 + 1 + 1) 0 0 0 0 0 n (.slice va vm vc) = w3 := ⟨_, rfl⟩
  rw [hw3] at hG3 hk3
  unfold gotW at hw3
  rw [hw3]
  clear hw3
  have hV3 := (hk3.block (n0 + 1) (lt_of_heap HV2.out) (by omega)).trans HV2.out
  have hR3 := (hk3.block n0 (lt_of_heap HR2.out) (by omega)).trans HR2.out
  obtain ⟨u0, u1, u2, u3, u4, u5, u6⟩ := got_cells hG3
  obtain ⟨x0, x1, x2, x3, x4, x5, x6⟩ := got_cells hV3
  obtain ⟨y0, y1, y2, y3, y4, y5, y6⟩ := got_free hV3
  obtain ⟨r0, r1, r2, r3, r4, r5, r6⟩ := got_cells hR3
  obtain ⟨z0, z1, z2, z3, z4, z5, z6⟩ := got_free hR3
  have HV3 := Lib.hid hV3
  have HR3 := Lib.hid hR3
  clear hV3 hR3 hG3
  go_region
  all_goals
    go_wp2_with fail
    have hn0 := HN.out
    have hs1 := HS.out
    have hR4 : ((w3.setCell ⟨n0 + 1, 1, none⟩ (.int .i64 n)).setCell ⟨n0 + 1, 2, none⟩ (.slice va vm vc)).heap[n0]? = some (.cells zVal 34 (0, 0)) := (heap_set_other (p := ⟨n0 + 1, 2, none⟩) _ (by simp)).trans ((heap_set_other (p := ⟨n0 + 1, 1, none⟩) _ (by simp)).trans HR3.out)
    have hkN : Keep (fun i => n0 ≤ i ∧ i < n0 + 3) w2 w3 := hk3.weak (fun i _ e => by omega)
    have hkW := (((((((((hkN.set (n0 + 1) 1 (fun _ => by omega) (.int .i64 n)).set (n0 + 1) 2 (fun _ => by omega) (.slice va vm vc)).set n0 0 (fun _ => by omega) (.int .i64 2)).set n0 1 (fun _ => by omega) (.int .i64 n)).set n0 2 (fun _ => by omega) (.slice va vm vc)).set n0 3 (fun _ => by omega) (.int .i64 0)).set n0 4 (fun _ => by omega) (.int .i64 0)).set n0 5 (fun _ => by omega) (.slice none 0 0)).set n0 6 (fun _ => by omega) (.slice none 0 0)).drew
    have hR5 := val_set hR4 (.int .i64 2) (.int .i64 n) (.slice va vm vc) (.int .i64 0) (.int .i64 0) (.slice none 0 0) (.slice none 0 0)
    generalize ((((((((w3.setCell ⟨n0 + 1, 1, none⟩ (.int .i64 n)).setCell ⟨n0 + 1, 2, none⟩ (.slice va vm vc)).setCell ⟨n0, 0, none⟩ (.int .i64 2)).setCell ⟨n0, 1, none⟩ (.int .i64 n)).setCell ⟨n0, 2, none⟩ (.slice va vm vc)).setCell ⟨n0, 3, none⟩ (.int .i64 0)).setCell ⟨n0, 4, none⟩ (.int .i64 0)).setCell ⟨n0, 5, none⟩ (.slice none 0 0)).setCell ⟨n0, 6, none⟩ (.slice none 0 0) = w4 at *
    have hR6 : w4.drew.heap[n0]? = some (.cells #[.int .i64 2, .int .i64 n, .slice va vm vc, .int .i64 0, .int .i64 0, .slice none 0 0, .slice none 0 0] 34 (0, 0)) := hR5
    refine ret_cell2 (U := n0) (T := 34) Tryz.results29 rfl rfl rfl hR6 Tryz.underlying34 ival_size ?_
    refine ⟨_, n, va, vm, vc, 0, 0, none, 0, 0, none, 0, 0, ev, rfl, Bin.through h hk0 HP.out hkW (fun i hi => by omega), fun hz => ?_⟩
    obtain ⟨e1, e2⟩ := HRES.out hz
    subst e1
    exact ⟨_, _, _, rfl, (e2.keep hkW (fun i hi e => by have := hi.1; omega)).weak (fun i _ hi => ⟨by have := hi.1; omega, fun x => hi.2 (Bin.through_M h hk0 HP.out hkW (fun i hi => by omega) i x)⟩), .inl ⟨rfl, _, _, rfl⟩, .inl ⟨rfl, _, _, rfl⟩⟩

set_option maxRecDepth 100000 in
set_option maxHeartbeats 4000000 in
theorem Bin.gets3 (K : Bin.Ctx) (deep : Int) (hd : 0 < deep) (s : Bin.St) (w : World) (h : Bin.Inv K s w) :
    Calls Tryz.prog 29 #[Bin.V K, .int .u8 3, .int .i64 deep] w (Bin.GetP K 1 w ((Bin.pr K).scK 3 s, (Bin.pr K).scS 3 s, .mk 3 ((Bin.pr K).scN 3 s) ((Bin.pr K).scB 3 s) 0 0 [] [])) := by
  go_enter Tryz.func29, Tryz.ntmps29
  go_wp2_with fail
  obtain ⟨hk0, hR, hV, hG, hs⟩ := getW_facts w 3
  obtain ⟨n0, hn⟩ : ∃ n0, w.heap.size = n0 := ⟨_, rfl⟩
  rw [hn] at hR hV hG hs ⊢
  unfold getW at hk0 hR hV hG hs
  generalize ((w.alloc (.cells zVal 34 (0, 0))).alloc (.cells (valC 3 0 nilB 0 0 (.slice none 0 0) (.slice none 0 0)) 34 (0, 0))).alloc (.cells zGot 95 (0, 0)) = w1 at *
  have HN := Lib.hid hn
  have HR := Lib.hid hR
  have HV := Lib.hid hV
  have HG := Lib.hid hG
  have HS := Lib.hid hs
  have HM := Lib.hid (Bin.M_new h hk0)
  clear hn hR hV hG hs
  refine (Bin.read14 K s w1 (h.fresh hk0)).mono ?_
  rintro e w2 ⟨n, v, ev, rfl, hp, ⟨va, vm, vc, rfl⟩, hres⟩
  have hnew : ∀ i, n0 ≤ i → ¬ Bin.M K w1 i := fun i hi x => by have := HM.out i x; have := HN.out; omega
  have hR2 := (hp.keep.block n0 (lt_of_heap HR.out) (hnew _ (by omega))).trans HR.out
  have hV2 := (hp.keep.block (n0 + 1) (lt_of_heap HV.out) (hnew _ (by omega))).trans HV.out
  have hG2 := (hp.keep.block (n0 + 1 + 1) (lt_of_heap HG.out) (hnew _ (by omega))).trans HG.out
  have HP := Lib.hid hp
  have HRES := Lib.hid hres
  have HR2 := Lib.hid hR2
  have HV2 := Lib.hid hV2
  have HG2 := Lib.hid hG2
  obtain ⟨u0, u1, u2, u3, u4, u5, u6⟩ := got_cells hG2
  obtain ⟨f0, f1, f2, f3, f4, f5, f6⟩ := got_free hG2
  clear hp hres hR2 hV2 hG2 hnew
  go_wp2_with fail
  have hG3 := got_set HG2.out 0 0 0 0 0 n (.slice va vm vc)
  have hk3 : Keep (fun i => n0 + 1 + 1 = i) w2 (gotW w2 (n0 + 1 + 1) 0 0 0 0 0 n (.slice va vm vc)) := got_keep (Keep.refl _ w2) (fun _ => rfl) _ _ _ _ _ _ _
  clear u0 u1 u2 u3 u4 u5 u6 f0 f1 f2 f3 f4 f5 f6
  obtain ⟨w3, hw3⟩ : ∃ w3, gotW w2 (n0 + 1 + 1) 0 0 0 0 0 n (.slice va vm vc) = w3 := ⟨_, rfl⟩
  rw [hw3] at hG3 hk3
  unfold gotW at hw3
  rw [hw3]
  clear hw3
  have hV3 := (hk3.block (n0 + 1) (lt_of_heap HV2.out) (by omega)).trans HV2.out
  have hR3 := (hk3.block n0 (lt_of_heap HR2.out) (by omega)).trans HR2.out
  obtain ⟨u0, u1, u2, u3, u4, u5, u6⟩ := got_cells hG3
  obtain ⟨x0, x1, x2, x3, x4, x5, x6⟩ := got_cells hV3
  obtain ⟨y0, y1, y2, y3, y4, y5, y6⟩ := got_free hV3
  obtain ⟨r0, r1, r2, r3, r4, r5, r6⟩ := got_cells hR3
  obtain ⟨z0, z1, z2, z3, z4, z5, z6⟩ := got_free hR3
  have HV3 := Lib.hid hV3
  have HR3 := Lib.hid hR3
  clear hV3 hR3 hG3
  go_region
  all_goals
    go_wp2_with fail
    have hn0 := HN.out
    have hs1 := HS.out
    have hR4 : ((w3.setCell ⟨n0 + 1, 1, none⟩ (.int .i64 n)).setCell ⟨n0 + 1, 2, none⟩ (.slice va vm vc)).heap[n0]? = some (.cells zVal 34 (0, 0)) := (heap_set_other (p := ⟨n0 + 1, 2, none⟩) _ (by simp)).trans ((heap_set_other (p := ⟨n0 + 1, 1, none⟩) _ (by simp)).trans HR3.out)
    have hkN : Keep (fun i => n0 ≤ i ∧ i < n0 + 3) w2 w3 := hk3.weak (fun i _ e => by omega)
    have hkW := (((((((((hkN.set (n0 + 1) 1 (fun _ => by omega) (.int .i64 n)).set (n0 + 1) 2 (fun _ => by omega) (.slice va vm vc)).set n0 0 (fun _ => by omega) (.int .i64 3)).set n0 1 (fun _ => by omega) (.int .i64 n)).set n0 2 (fun _ => by omega) (.slice va vm vc)).set n0 3 (fun _ => by omega) (.int .i64 0)).set n0 4 (fun _ => by omega) (.int .i64 0)).set n0 5 (fun _ => by omega) (.slice none 0 0)).set n0 6 (fun _ => by omega) (.slice none 0 0)).drew
    have hR5 := val_set hR4 (.int .i64 3) (.int .i64 n) (.slice va vm vc) (.int .i64 0) (.int .i64 0) (.slice none 0 0) (.slice none 0 0)
    generalize ((((((((w3.setCell ⟨n0 + 1, 1, none⟩ (.int .i64 n)).setCell ⟨n0 + 1, 2, none⟩ (.slice va vm vc)).setCell ⟨n0, 0, none⟩ (.int .i64 3)).setCell ⟨n0, 1, none⟩ (.int .i64 n)).setCell ⟨n0, 2, none⟩ (.slice va vm vc)).setCell ⟨n0, 3, none⟩ (.int .i64 0)).setCell ⟨n0, 4, none⟩ (.int .i64 0)).setCell ⟨n0, 5, none⟩ (.slice none 0 0)).setCell ⟨n0, 6, none⟩ (.slice none 0 0) = w4 at *
    have hR6 : w4.drew.heap[n0]? = some (.cells #[.int .i64 3, .int .i64 n, .slice va vm vc, .int .i64 0, .int .i64 0, .slice none 0 0, .slice none 0 0] 34 (0, 0)) := hR5
    refine ret_cell2 (U := n0) (T := 34) Tryz.results29 rfl rfl rfl hR6 Tryz.underlying34 ival_size ?_
    refine ⟨_, n, va, vm, vc, 0, 0, none, 0, 0, none, 0, 0, ev, rfl, Bin.through h hk0 HP.out hkW (fun i hi => by omega), fun hz => ?_⟩
    obtain ⟨e1, e2⟩ := HRES.out hz
    subst e1
    exact ⟨_, _, _, rfl, (e2.keep hkW (fun i hi e => by have := hi.1; omega)).weak (fun i _ hi => ⟨by have := hi.1; omega, fun x => hi.2 (Bin.through_M h hk0 HP.out hkW (fun i hi => by omega) i x)⟩), .inl ⟨rfl, _, _, rfl⟩, .inl ⟨rfl, _, _, rfl⟩⟩

set_option maxRecDepth 100000 in
set_option maxHeartbeats 4000000 in
theorem Bin.gets4 (K : Bin.Ctx) (deep : Int) (hd : 0 < deep) (s : Bin.St) (w : World) (h : Bin.Inv K s w) :
    Calls Tryz.prog 29 #[Bin.V K, .int .u8 4, .int .i64 deep] w (Bin.GetP K 1 w ((Bin.pr K).scK 4 s, (Bin.pr K).scS 4 s, .mk 4 ((Bin.pr K).scN 4 s) ((Bin.pr K).scB 4 s) 0 0 [] [])) := by
  go_enter Tryz.func29, Tryz.ntmps29
  go_wp2_with fail
  obtain ⟨hk0, hR, hV, hG, hs⟩ := getW_facts w 4
  obtain ⟨n0, hn⟩ : ∃ n0, w.heap.size = n0 := ⟨_, rfl⟩
  rw [hn] at hR hV hG hs ⊢
  unfold getW at hk0 hR hV hG hs
  generalize ((w.alloc (.cells zVal 34 (0, 0))).alloc (.cells (valC 4 0 nilB 0 0 (.slice none 0 0) (.slice none 0 0)) 34 (0, 0))).alloc (.cells zGot 95 (0, 0)) = w1 at *
  have HN := Lib.hid hn
  have HR := Lib.hid hR
  have HV := Lib.hid hV
  have HG := Lib.hid hG
  have HS := Lib.hid hs
  have HM := Lib.hid (Bin.M_new h hk0)
  clear hn hR hV hG hs
  refine (Bin.read18 K s w1 (h.fresh hk0)).mono ?_
  rintro e w2 ⟨n, v, ev, rfl, hp, ⟨va, vm, vc, rfl⟩, hres⟩
  have hnew : ∀ i, n0 ≤ i → ¬ Bin.M K w1 i := fun i hi x => by have := HM.out i x; have := HN.out; omega
  have hR2 := (hp.keep.block n0 (lt_of_heap HR.out) (hnew _ (by omega))).trans HR.out
  have hV2 := (hp.keep.block (n0 + 1) (lt_of_heap HV.out) (hnew _ (by omega))).trans HV.out
  have hG2 := (hp.keep.block (n0 + 1 + 1) (lt_of_heap HG.out) (hnew _ (by omega))).trans HG.out
  have HP := Lib.hid hp
  have HRES := Lib.hid hres
  have HR2 := Lib.hid hR2
  have HV2 := Lib.hid hV2
  have HG2 := Lib.hid hG2
  obtain ⟨u0, u1, u2, u3, u4, u5, u6⟩ := got_cells hG2
  obtain ⟨f0, f1, f2, f3, f4, f5, f6⟩ := got_free hG2
  clear hp hres hR2 hV2 hG2 hnew
  go_wp2_with fail
  have hG3 := got_set HG2.out 0 0 0 0 0 n (.slice va vm vc)
  have hk3 : Keep (fun i => n0 + 1 + 1 = i) w2 (gotW w2 (n0 + 1 + 1) 0 0 0 0 0 n (.slice va vm vc)) := got_keep (Keep.refl _ w2) (fun _ => rfl) _ _ _ _ _ _ _
  clear u0 u1 u2 u3 u4 u5 u6 f0 f1 f2 f3 f4 f5 f6
  obtain ⟨w3, hw3⟩ : ∃ w3, gotW w2 (n0 + 1 + 1) 0 0 0 0 0 n (.slice va vm vc) = w3 := ⟨_, rfl⟩
  rw [hw3] at hG3 hk3
  unfold gotW at hw3
  rw [hw3]
  clear hw3
  have hV3 := (hk3.block (n0 + 1) (lt_of_heap HV2.out) (by omega)).trans HV2.out
  have hR3 := (hk3.block n0 (lt_of_heap HR2.out) (by omega)).trans HR2.out
  obtain ⟨u0, u1, u2, u3, u4, u5, u6⟩ := got_cells hG3
  obtain ⟨x0, x1, x2, x3, x4, x5, x6⟩ := got_cells hV3
  obtain ⟨y0, y1, y2, y3, y4, y5, y6⟩ := got_free hV3
  obtain ⟨r0, r1, r2, r3, r4, r5, r6⟩ := got_cells hR3
  obtain ⟨z0, z1, z2, z3, z4, z5, z6⟩ := got_free hR3
  have HV3 := Lib.hid hV3
  have HR3 := Lib.hid hR3
  clear hV3 hR3 hG3
  go_region
  all_goals
    go_wp2_with fail
    have hn0 := HN.out
    have hs1 := HS.out
    have hR4 : ((w3.setCell ⟨n0 + 1, 1, none⟩ (.int .i64 n)).setCell ⟨n0 + 1, 2, none⟩ (.slice va vm vc)).heap[n0]? = some (.cells zVal 34 (0, 0)) := (heap_set_other (p := ⟨n0 + 1, 2, none⟩) _ (by simp)).trans ((heap_set_other (p := ⟨n0 + 1, 1, none⟩) _ (by simp)).trans HR3.out)
    have hkN : Keep (fun i => n0 ≤ i ∧ i < n0 + 3) w2 w3 := hk3.weak (fun i _ e => by omega)
    have hkW := (((((((((hkN.set (n0 + 1) 1 (fun _ => by omega) (.int .i64 n)).set (n0 + 1) 2 (fun _ => by omega) (.slice va vm vc)).set n0 0 (fun _ => by omega) (.int .i64 4)).set n0 1 (fun _ => by omega) (.int .i64 n)).set n0 2 (fun _ => by omega) (.slice va vm vc)).set n0 3 (fun _ => by omega) (.int .i64 0)).set n0 4 (fun _ => by omega) (.int .i64 0)).set n0 5 (fun _ => by omega) (.slice none 0 0)).set n0 6 (fun _ => by omega) (.slice none 0 0)).drew
    have hR5 := val_set hR4 (.int .i64 4) (.int .i64 n) (.slice va vm vc) (.int .i64 0) (.int .i64 0) (.slice none 0 0) (.slice none 0 0)
    generalize ((((((((w3.setCell ⟨n0 + 1, 1, none⟩ (.int .i64 n)).setCell ⟨n0 + 1, 2, none⟩ (.slice va vm vc)).setCell ⟨n0, 0, none⟩ (.int .i64 4)).setCell ⟨n0, 1, none⟩ (.int .i64 n)).setCell ⟨n0, 2, none⟩ (.slice va vm vc)).setCell ⟨n0, 3, none⟩ (.int .i64 0)).setCell ⟨n0, 4, none⟩ (.int .i64 0)).setCell ⟨n0, 5, none⟩ (.slice none 0 0)).setCell ⟨n0, 6, none⟩ (.slice none 0 0) = w4 at *
    have hR6 : w4.drew.heap[n0]? = some (.cells #[.int .i64 4, .int .i64 n, .slice va vm vc, .int .i64 0, .int .i64 0, .slice none 0 0, .slice none 0 0] 34 (0, 0)) := hR5
    refine ret_cell2 (U := n0) (T := 34) Tryz.results29 rfl rfl rfl hR6 Tryz.underlying34 ival_size ?_
    refine ⟨_, n, va, vm, vc, 0, 0, none, 0, 0, none, 0, 0, ev, rfl, Bin.through h hk0 HP.out hkW (fun i hi => by omega), fun hz => ?_⟩
    obtain ⟨e1, e2⟩ := HRES.out hz
    subst e1
    exact ⟨_, _, _, rfl, (e2.keep hkW (fun i hi e => by have := hi.1; omega)).weak (fun i _ hi => ⟨by have := hi.1; omega, fun x => hi.2 (Bin.through_M h hk0 HP.out hkW (fun i hi => by omega) i x)⟩), .inl ⟨rfl, _, _, rfl⟩, .inl ⟨rfl, _, _, rfl⟩⟩

set_option maxRecDepth 100000 in
set_option maxHeartbeats 4000000 in
theorem Bin.gets6 (K : Bin.Ctx) (deep : Int) (hd : 0 < deep) (s : Bin.St) (w : World) (h : Bin.Inv K s w) :
    Calls Tryz.prog 29 #[Bin.V K, .int .u8 6, .int .i64 deep] w (Bin.GetP K 1 w ((Bin.pr K).scK 6 s, (Bin.pr K).scS 6 s, .mk 6 ((Bin.pr K).scN 6 s) ((Bin.pr K).scB 6 s) 0 0 [] [])) := by
  go_enter Tryz.func29, Tryz.ntmps29
  go_wp2_with fail
  obtain ⟨hk0, hR, hV, hG, hs⟩ := getW_facts w 6
  obtain ⟨n0, hn⟩ : ∃ n0, w.heap.size = n0 := ⟨_, rfl⟩
  rw [hn] at hR hV hG hs ⊢
  unfold getW at hk0 hR hV hG hs
  generalize ((w.alloc (.cells zVal 34 (0, 0))).alloc (.cells (valC 6 0 nilB 0 0 (.slice none 0 0) (.slice none 0 0)) 34 (0, 0))).alloc (.cells zGot 95 (0, 0)) = w1 at *
  have HN := Lib.hid hn
  have HR := Lib.hid hR
  have HV := Lib.hid hV
  have HG := Lib.hid hG
  have HS := Lib.hid hs
  have HM := Lib.hid (Bin.M_new h hk0)
  clear hn hR hV hG hs
  refine (Bin.read15 K s w1 (h.fresh hk0)).mono ?_
  rintro e w2 ⟨n, v, ev, rfl, hp, ⟨va, vm, vc, rfl⟩, hres⟩
  have hnew : ∀ i, n0 ≤ i → ¬ Bin.M K w1 i := fun i hi x => by have := HM.out i x; have := HN.out; omega
  have hR2 := (hp.keep.block n0 (lt_of_heap HR.out) (hnew _ (by omega))).trans HR.out
  have hV2 := (hp.keep.block (n0 + 1) (lt_of_heap HV.out) (hnew _ (by omega))).trans HV.out
  have hG2 := (hp.keep.block (n0 + 1 + 1) (lt_of_heap HG.out) (hnew _ (by omega))).trans HG.out
  have HP := Lib.hid hp
  have HRES := Lib.hid hres
  have HR2 := Lib.hid hR2
  have HV2 := Lib.hid hV2
  have HG2 := Lib.hid hG2
  obtain ⟨u0, u1, u2, u3, u4, u5, u6⟩ := got_cells hG2
  obtain ⟨f0, f1, f2, f3, f4, f5, f6⟩ := got_free hG2
  clear hp hres hR2 hV2 hG2 hnew
  go_wp2_with fail
  have hG3 := got_set HG2.out 0 0 0 0 0 n (.slice va vm vc)
  have hk3 : Keep (fun i => n0 + 1 + 1 = i) w2 (gotW w2 (n0 + 1 + 1) 0 0 0 0 0 n (.slice va vm vc)) := got_keep (Keep.refl _ w2) (fun _ => rfl) _ _ _ _ _ _ _
  clear u0 u1 u2 u3 u4 u5 u6 f0 f1 f2 f3 f4 f5 f6
  obtain ⟨w3, hw3⟩ : ∃ w3, gotW w2 (n0 + 1 + 1) 0 0 0 0 0 n (.slice va vm vc) = w3 := ⟨_, rfl⟩
  rw [hw3] at hG3 hk3
  unfold gotW at hw3
  rw [hw3]
  clear hw3
  have hV3 := (hk3.block (n0 + 1) (lt_of_heap HV2.out) (by omega)).trans HV2.out
  have hR3 := (hk3.block n0 (lt_of_heap HR2.out) (by omega)).trans HR2.out
  obtain ⟨u0, u1, u2, u3, u4, u5, u6⟩ := got_cells hG3
  obtain ⟨x0, x1, x2, x3, x4, x5, x6⟩ := got_cells hV3
  obtain ⟨y0, y1, y2, y3, y4, y5, y6⟩ := got_free hV3
  obtain ⟨r0, r1, r2, r3, r4, r5, r6⟩ := got_cells hR3
  obtain ⟨z0, z1, z2, z3, z4, z5, z6⟩ := got_free hR3
  have HV3 := Lib.hid hV3
  have HR3 := Lib.hid hR3
  clear hV3 hR3 hG3
  go_region
  all_goals
    go_wp2_with fail
    have hn0 := HN.out
    have hs1 := HS.out
    have hR4 : ((w3.setCell ⟨n0 + 1, 1, none⟩ (.int .i64 n)).setCell ⟨n0 + 1, 2, none⟩ (.slice va vm vc)).heap[n0]? = some (.cells zVal 34 (0, 0)) := (heap_set_other (p := ⟨n0 + 1, 2, none⟩) _ (by simp)).trans ((heap_set_other (p := ⟨n0 + 1, 1, none⟩) _ (by simp)).trans HR3.out)
    have hkN : Keep (fun i => n0 ≤ i ∧ i < n0 + 3) w2 w3 := hk3.weak (fun i _ e => by omega)
    have hkW := (((((((((hkN.set (n0 + 1) 1 (fun _ => by omega) (.int .i64 n)).set (n0 + 1) 2 (fun _ => by omega) (.slice va vm vc)).set n0 0 (fun _ => by omega) (.int .i64 6)).set n0 1 (fun _ => by omega) (.int .i64 n)).set n0 2 (fun _ => by omega) (.slice va vm vc)).set n0 3 (fun _ => by omega) (.int .i64 0)).set n0 4 (fun _ => by omega) (.int .i64 0)).set n0 5 (fun _ => by omega) (.slice none 0 0)).set n0 6 (fun _ => by omega) (.slice none 0 0)).drew
    have hR5 := val_set hR4 (.int .i64 6) (.int .i64 n) (.slice va vm vc) (.int .i64 0) (.int .i64 0) (.slice none 0 0) (.slice none 0 0)
    generalize ((((((((w3.setCell ⟨n0 + 1, 1, none⟩ (.int .i64 n)).setCell ⟨n0 + 1, 2, none⟩ (.slice va vm vc)).setCell ⟨n0, 0, none⟩ (.int .i64 6)).setCell ⟨n0, 1, none⟩ (.int .i64 n)).setCell ⟨n0, 2, none⟩ (.slice va vm vc)).setCell ⟨n0, 3, none⟩ (.int .i64 0)).setCell ⟨n0, 4, none⟩ (.int .i64 0)).setCell ⟨n0, 5, none⟩ (.slice none 0 0)).setCell ⟨n0, 6, none⟩ (.slice none 0 0) = w4 at *
    have hR6 : w4.drew.heap[n0]? = some (.cells #[.int .i64 6, .int .i64 n, .slice va vm vc, .int .i64 0, .int .i64 0, .slice none 0 0, .slice none 0 0] 34 (0, 0)) := hR5
    refine ret_cell2 (U := n0) (T := 34) Tryz.results29 rfl rfl rfl hR6 Tryz.underlying34 ival_size ?_
    refine ⟨_, n, va, vm, vc, 0, 0, none, 0, 0, none, 0, 0, ev, rfl, Bin.through h hk0 HP.out hkW (fun i hi => by omega), fun hz => ?_⟩
    obtain ⟨e1, e2⟩ := HRES.out hz
    subst e1
    exact ⟨_, _, _, rfl, (e2.keep hkW (fun i hi e => by have := hi.1; omega)).weak (fun i _ hi => ⟨by have := hi.1; omega, fun x => hi.2 (Bin.through_M h hk0 HP.out hkW (fun i hi => by omega) i x)⟩), .inl ⟨rfl, _, _, rfl⟩, .inl ⟨rfl, _, _, rfl⟩⟩

set_option maxRecDepth 100000 in
set_option maxHeartbeats 4000000 in
theorem Bin.gets8 (K : Bin.Ctx) (deep : Int) (hd : 0 < deep) (s : Bin.St) (w : World) (h : Bin.Inv K s w) :
    Calls Tryz.prog 29 #[Bin.V K, .int .u8 8, .int .i64 deep] w (Bin.GetP K 1 w ((Bin.pr K).scK 8 s, (Bin.pr K).scS 8 s, .mk 8 ((Bin.pr K).scN 8 s) ((Bin.pr K).scB 8 s) 0 0 [] [])) := by
  go_enter Tryz.func29, Tryz.ntmps29
  go_wp2_with fail
  obtain ⟨hk0, hR, hV, hG, hs⟩ := getW_facts w 8
  obtain ⟨n0, hn⟩ : ∃ n0, w.heap.size = n0 := ⟨_, rfl⟩
  rw [hn] at hR hV hG hs ⊢
  unfold getW at hk0 hR hV hG hs
  generalize ((w.alloc (.cells zVal 34 (0, 0))).alloc (.cells (valC 8 0 nilB 0 0 (.slice none 0 0) (.slice none 0 0)) 34 (0, 0))).alloc (.cells zGot 95 (0, 0)) = w1 at *
  have HN := Lib.hid hn
  have HR := Lib.hid hR
  have HV := Lib.hid hV
  have HG := Lib.hid hG
  have HS := Lib.hid hs
  have HM := Lib.hid (Bin.M_new h hk0)
  clear hn hR hV hG hs
  refine (Bin.read16 K s w1 (h.fresh hk0)).mono ?_
  rintro e w2 ⟨n, v, ev, rfl, hp, ⟨va, vm, vc, rfl⟩, hres⟩
  have hnew : ∀ i, n0 ≤ i → ¬ Bin.M K w1 i := fun i hi x => by have := HM.out i x; have := HN.out; omega
  have hR2 := (hp.keep.block n0 (lt_of_heap HR.out) (hnew _ (by omega))).trans HR.out
  have hV2 := (hp.keep.block (n0 + 1) (lt_of_heap HV.out) (hnew _ (by omega))).trans HV.out
  have hG2 := (hp.keep.block (n0 + 1 + 1) (lt_of_heap HG.out) (hnew _ (by omega))).trans HG.out
  have HP := Lib.hid hp
  have HRES := Lib.hid hres
  have HR2 := Lib.hid hR2
  have HV2 := Lib.hid hV2
  have HG2 := Lib.hid hG2
  obtain ⟨u0, u1, u2, u3, u4, u5, u6⟩ := got_cells hG2
  obtain ⟨f0, f1, f2, f3, f4, f5, f6⟩ := got_free hG2
  clear hp hres hR2 hV2 hG2 hnew
  go_wp2_with fail
  have hG3 := got_set HG2.out 0 0 0 0 0 n (.slice va vm vc)
  have hk3 : Keep (fun i => n0 + 1 + 1 = i) w2 (gotW w2 (n0 + 1 + 1) 0 0 0 0 0 n (.slice va vm vc)) := got_keep (Keep.refl _ w2) (fun _ => rfl) _ _ _ _ _ _ _
  clear u0 u1 u2 u3 u4 u5 u6 f0 f1 f2 f3 f4 f5 f6
  obtain ⟨w3, hw3⟩ : ∃ w3, gotW w2 (n0 + 1 + 1) 0 0 0 0 0 n (.slice va vm vc) = w3 := ⟨_, rfl⟩
  rw [hw3] at hG3 hk3
  unfold gotW at hw3
  rw [hw3]
  clear hw3
  have hV3 := (hk3.block (n0 + 1) (lt_of_heap HV2.out) (by omega)).trans HV2.out
  have hR3 := (hk3.block n0 (lt_of_heap HR2.out) (by omega)).trans HR2.out
  obtain ⟨u0, u1, u2, u3, u4, u5, u6⟩ := got_cells hG3
  obtain ⟨x0, x1, x2, x3, x4, x5, x6⟩ := got_cells hV3
  obtain ⟨y0, y1, y2, y3, y4, y5, y6⟩ := got_free hV3
  obtain ⟨r0, r1, r2, r3, r4, r5, r6⟩ := got_cells hR3
  obtain ⟨z0, z1, z2, z3, z4, z5, z6⟩ := got_free hR3
  have HV3 := Lib.hid hV3
  have HR3 := Lib.hid hR3
  clear hV3 hR3 hG3
  go_region
  all_goals
    go_wp2_with fail
    have hn0 := HN.out
    have hs1 := HS.out
    have hR4 : ((w3.setCell ⟨n0 + 1, 1, none⟩ (.int .i64 n)).setCell ⟨n0 + 1, 2, none⟩ (.slice va vm vc)).heap[n0]? = some (.cells zVal 34 (0, 0)) := (heap_set_other (p := ⟨n0 + 1, 2, none⟩) _ (by simp)).trans ((heap_set_other (p := ⟨n0 + 1, 1, none⟩) _ (by simp)).trans HR3.out)
    have hkN : Keep (fun i => n0 ≤ i ∧ i < n0 + 3) w2 w3 := hk3.weak (fun i _ e => by omega)
    have hkW := (((((((((hkN.set (n0 + 1) 1 (fun _ => by omega) (.int .i64 n)).set (n0 + 1) 2 (fun _ => by omega) (.slice va vm vc)).set n0 0 (fun _ => by omega) (.int .i64 8)).set n0 1 (fun _ => by omega) (.int .i64 n)).set n0 2 (fun _ => by omega) (.slice va vm vc)).set n0 3 (fun _ => by omega) (.int .i64 0)).set n0 4 (fun _ => by omega) (.int .i64 0)).set n0 5 (fun _ => by omega) (.slice none 0 0)).set n0 6 (fun _ => by omega) (.slice none 0 0)).drew
    have hR5 := val_set hR4 (.int .i64 8) (.int .i64 n) (.slice va vm vc) (.int .i64 0) (.int .i64 0) (.slice none 0 0) (.slice none 0 0)
    generalize ((((((((w3.setCell ⟨n0 + 1, 1, none⟩ (.int .i64 n)).setCell ⟨n0 + 1, 2, none⟩ (.slice va vm vc)).setCell ⟨n0, 0, none⟩ (.int .i64 8)).setCell ⟨n0, 1, none⟩ (.int .i64 n)).setCell ⟨n0, 2, none⟩ (.slice va vm vc)).setCell ⟨n0, 3, none⟩ (.int .i64 0)).setCell ⟨n0, 4, none⟩ (.int .i64 0)).setCell ⟨n0, 5, none⟩ (.slice none 0 0)).setCell ⟨n0, 6, none⟩ (.slice none 0 0) = w4 at *
    have hR6 : w4.drew.heap[n0]? = some (.cells #[.int .i64 8, .int .i64 n, .slice va vm vc, .int .i64 0, .int .i64 0, .slice none 0 0, .slice none 0 0] 34 (0, 0)) := hR5
    refine ret_cell2 (U := n0) (T := 34) Tryz.results29 rfl rfl rfl hR6 Tryz.underlying34 ival_size ?_
    refine ⟨_, n, va, vm, vc, 0, 0, none, 0, 0, none, 0, 0, ev, rfl, Bin.through h hk0 HP.out hkW (fun i hi => by omega), fun hz => ?_⟩
    obtain ⟨e1, e2⟩ := HRES.out hz
    subst e1
    exact ⟨_, _, _, rfl, (e2.keep hkW (fun i hi e => by have := hi.1; omega)).weak (fun i _ hi => ⟨by have := hi.1; omega, fun x => hi.2 (Bin.through_M h hk0 HP.out hkW (fun i hi => by omega) i x)⟩), .inl ⟨rfl, _, _, rfl⟩, .inl ⟨rfl, _, _, rfl⟩⟩

set_option maxRecDepth 100000 in
set_option maxHeartbeats 4000000 in
theorem Bin.gets10 (K : Bin.Ctx) (deep : Int) (hd : 0 < deep) (s : Bin.St) (w : World) (h : Bin.Inv K s w) :
    Calls Tryz.prog 29 #[Bin.V K, .int .u8 10, .int .i64 deep] w (Bin.GetP K 1 w ((Bin.pr K).scK 10 s, (Bin.pr K).scS 10 s, .mk 10 ((Bin.pr K).scN 10 s) ((Bin.pr K).scB 10 s) 0 0 [] [])) := by
  go_enter Tryz.func29, Tryz.ntmps29
  go_wp2_with fail
  obtain ⟨hk0, hR, hV, hG, hs⟩ := getW_facts w 10
  obtain ⟨n0, hn⟩ : ∃ n0, w.heap.size = n0 := ⟨_, rfl⟩
  rw [hn] at hR hV hG hs ⊢
  unfold getW at hk0 hR hV hG hs
  generalize ((w.alloc (.cells zVal 34 (0, 0))).alloc (.cells (valC 10 0 nilB 0 0 (.slice none 0 0) (.slice none 0 0)) 34 (0, 0))).alloc (.cells zGot 95 (0, 0)) = w1 at *
  have HN := Lib.hid hn
  have HR := Lib.hid hR
  have HV := Lib.hid hV
  have HG := Lib.hid hG
  have HS := Lib.hid hs
  have HM := Lib.hid (Bin.M_new h hk0)
  clear hn hR hV hG hs
  refine (Bin.read17 K s w1 (h.fresh hk0)).mono ?_
  rintro e w2 ⟨n, v, ev, rfl, hp, ⟨va, vm, vc, rfl⟩, hres⟩
  have hnew : ∀ i, n0 ≤ i → ¬ Bin.M K w1 i := fun i hi x => by have := HM.out i x; have := HN.out; omega
  have hR2 := (hp.keep.block n0 (lt_of_heap HR.out) (hnew _ (by omega))).trans HR.out
  have hV2 := (hp.keep.block (n0 + 1) (lt_of_heap HV.out) (hnew _ (by omega))).trans HV.out
  have hG2 := (hp.keep.block (n0 + 1 + 1) (lt_of_heap HG.out) (hnew _ (by omega))).trans HG.out
  have HP := Lib.hid hp
  have HRES := Lib.hid hres
  have HR2 := Lib.hid hR2
  have HV2 := Lib.hid hV2
  have HG2 := Lib.hid hG2
  obtain ⟨u0, u1, u2, u3, u4, u5, u6⟩ := got_cells hG2
  obtain ⟨f0, f1, f2, f3, f4, f5, f6⟩ := got_free hG2
  clear hp hres hR2 hV2 hG2 hnew
  go_wp2_with fail
  have hG3 := got_set HG2.out 0 0 0 0 0 n (.slice va vm vc)
  have hk3 : Keep (fun i => n0 + 1 + 1 = i) w2 (gotW w2 (n0 + 1 + 1) 0 0 0 0 0 n (.slice va vm vc)) := got_keep (Keep.refl _ w2) (fun _ => rfl) _ _ _ _ _ _ _
  clear u0 u1 u2 u3 u4 u5 u6 f0 f1 f2 f3 f4 f5 f6
  obtain ⟨w3, hw3⟩ : ∃ w3, gotW w2 (n0 + 1 + 1) 0 0 0 0 0 n (.slice va vm vc) = w3 := ⟨_, rfl⟩
  rw [hw3] at hG3 hk3
  unfold gotW at hw3
  rw [hw3]
  clear hw3
  have hV3 := (hk3.block (n0 + 1) (lt_of_heap HV2.out) (by omega)).trans HV2.out
  have hR3 := (hk3.block n0 (lt_of_heap HR2.out) (by omega)).trans HR2.out
  obtain ⟨u0, u1, u2, u3, u4, u5, u6⟩ := got_cells hG3
  obtain ⟨x0, x1, x2, x3, x4, x5, x6⟩ := got_cells hV3
  obtain ⟨y0, y1, y2, y3, y4, y5, y6⟩ := got_free hV3
  obtain ⟨r0, r1, r2, r3, r4, r5, r6⟩ := got_cells hR3
  obtain ⟨z0, z1, z2, z3, z4, z5, z6⟩ := got_free hR3
  have HV3 := Lib.hid hV3
  have HR3 := Lib.hid hR3
  clear hV3 hR3 hG3
  go_region
  all_goals
    go_wp2_with fail
    have hn0 := HN.out
    have hs1 := HS.out
    have hR4 : ((w3.setCell ⟨n0 + 1, 1, none⟩ (.int .i64 n)).setCell ⟨n0 + 1, 2, none⟩ (.slice va vm vc)).heap[n0]? = some (.cells zVal 34 (0, 0)) := (heap_set_other (p := ⟨n0 + 1, 2, none⟩) _ (by simp)).trans ((heap_set_other (p := ⟨n0 + 1, 1, none⟩) _ (by simp)).trans HR3.out)
    have hkN : Keep (fun i => n0 ≤ i ∧ i < n0 + 3) w2 w3 := hk3.weak (fun i _ e => by omega)
    have hkW := (((((((((hkN.set (n0 + 1) 1 (fun _ => by omega) (.int .i64 n)).set (n0 + 1) 2 (fun _ => by omega) (.slice va vm vc)).set n0 0 (fun _ => by omega) (.int .i64 10)).set n0 1 (fun _ => by omega) (.int .i64 n)).set n0 2 (fun _ => by omega) (.slice va vm vc)).set n0 3 (fun _ => by omega) (.int .i64 0)).set n0 4 (fun _ => by omega) (.int .i64 0)).set n0 5 (fun _ => by omega) (.slice none 0 0)).set n0 6 (fun _ => by omega) (.slice none 0 0)).drew
    have hR5 := val_set hR4 (.int .i64 10) (.int .i64 n) (.slice va vm vc) (.int .i64 0) (.int .i64 0) (.slice none 0 0) (.slice none 0 0)
    generalize ((((((((w3.setCell ⟨n0 + 1, 1, none⟩ (.int .i64 n)).setCell ⟨n0 + 1, 2, none⟩ (.slice va vm vc)).setCell ⟨n0, 0, none⟩ (.int .i64 10)).setCell ⟨n0, 1, none⟩ (.int .i64 n)).setCell ⟨n0, 2, none⟩ (.slice va vm vc)).setCell ⟨n0, 3, none⟩ (.int .i64 0)).setCell ⟨n0, 4, none⟩ (.int .i64 0)).setCell ⟨n0, 5, none⟩ (.slice none 0 0)).setCell ⟨n0, 6, none⟩ (.slice none 0 0) = w4 at *
    have hR6 : w4.drew.heap[n0]? = some (.cells #[.int .i64 10, .int .i64 n, .slice va vm vc, .int .i64 0, .int .i64 0, .slice none 0 0, .slice none 0 0] 34 (0, 0)) := hR5
    refine ret_cell2 (U := n0) (T := 34) Tryz.results29 rfl rfl rfl hR6 Tryz.underlying34 ival_size ?_
    refine ⟨_, n, va, vm, vc, 0, 0, none, 0, 0, none, 0, 0, ev, rfl, Bin.through h hk0 HP.out hkW (fun i hi => by omega), fun hz => ?_⟩
    obtain ⟨e1, e2⟩ := HRES.out hz
    subst e1
    exact ⟨_, _, _, rfl, (e2.keep hkW (fun i hi e => by have := hi.1; omega)).weak (fun i _ hi => ⟨by have := hi.1; omega, fun x => hi.2 (Bin.through_M h hk0 HP.out hkW (fun i hi => by omega) i x)⟩), .inl ⟨rfl, _, _, rfl⟩, .inl ⟨rfl, _, _, rfl⟩⟩

set_option maxRecDepth 100000 in
set_option maxHeartbeats 4000000 in
theorem Bin.gets11 (K : Bin.Ctx) (deep : Int) (hd : 0 < deep) (s : Bin.St) (w : World) (h : Bin.Inv K s w) :
    Calls Tryz.prog 29 #[Bin.V K, .int .u8 11, .int .i64 deep] w (Bin.GetP K 1 w ((Bin.pr K).scK 11 s, (Bin.pr K).scS 11 s, .mk 11 ((Bin.pr K).scN 11 s) ((Bin.pr K).scB 11 s) 0 0 [] [])) := by
  go_enter Tryz.func29, Tryz.ntmps29
  go_wp2_with fail
  obtain ⟨hk0, hR, hV, hG, hs⟩ := getW_facts w 11
  obtain ⟨n0, hn⟩ : ∃ n0, w.heap.size = n0 := ⟨_, rfl⟩
  rw [hn] at hR hV hG hs ⊢
  unfold getW at hk0 hR hV hG hs
  generalize ((w.alloc (.cells zVal 34 (0, 0))).alloc (.cells (valC 11 0 nilB 0 0 (.slice none 0 0) (.slice none 0 0)) 34 (0, 0))).alloc (.cells zGot 95 (0, 0)) = w1 at *
  have HN := Lib.hid hn
  have HR := Lib.hid hR
  have HV := Lib.hid hV
  have HG := Lib.hid hG
  have HS := Lib.hid hs
  have HM := Lib.hid (Bin.M_new h hk0)
  clear hn hR hV hG hs
  refine (Bin.read19 K s w1 (h.fresh hk0)).mono ?_
  rintro e w2 ⟨n, v, ev, rfl, hp, ⟨va, vm, vc, rfl⟩, hres⟩
  have hnew : ∀ i, n0 ≤ i → ¬ Bin.M K w1 i := fun i hi x => by have := HM.out i x; have := HN.out; omega
  have hR2 := (hp.keep.block n0 (lt_of_heap HR.out) (hnew _ (by omega))).trans HR.out
  have hV2 := (hp.keep.block (n0 + 1) (lt_of_heap HV.out) (hnew _ (by omega))).trans HV.out
  have hG2 := (hp.keep.block (n0 + 1 + 1) (lt_of_heap HG.out) (hnew _ (by omega))).trans HG.out
  have HP := Lib.hid hp
  have HRES := Lib.hid hres
  have HR2 := Lib.hid hR2
  have HV2 := Lib.hid hV2
  have HG2 := Lib.hid hG2
  obtain ⟨u0, u1, u2, u3, u4, u5, u6⟩ := got_cells hG2
  obtain ⟨f0, f1, f2, f3, f4, f5, f6⟩ := got_free hG2
  clear hp hres hR2 hV2 hG2 hnew
  go_wp2_with fail
  have hG3 := got_set HG2.out 0 0 0 0 0 n (.slice va vm vc)
  have hk3 : Keep (fun i => n0 + 1 + 1 = i) w2 (gotW w2 (n0 + 1 + 1) 0 0 0 0 0 n (.slice va vm vc)) := got_keep (Keep.refl _ w2) (fun _ => rfl) _ _ _ _ _ _ _
  clear u0 u1 u2 u3 u4 u5 u6 f0 f1 f2 f3 f4 f5 f6
  obtain ⟨w3, hw3⟩ : ∃ w3, gotW w2 (n0 + 1 + 1) 0 0 0 0 0 n (.slice va vm vc) = w3 := ⟨_, rfl⟩
  rw [hw3] at hG3 hk3
  unfold gotW at hw3
  rw [hw3]
  clear hw3
  have hV3 := (hk3.block (n0 + 1) (lt_of_heap HV2.out) (by omega)).trans HV2.out
  have hR3 := (hk3.block n0 (lt_of_heap HR2.out) (by omega)).trans HR2.out
  obtain ⟨u0, u1, u2, u3, u4, u5, u6⟩ := got_cells hG3
  obtain ⟨x0, x1, x2, x3, x4, x5, x6⟩ := got_cells hV3
  obtain ⟨y0, y1, y2, y3, y4, y5, y6⟩ := got_free hV3
  obtain ⟨r0, r1, r2, r3, r4, r5, r6⟩ := got_cells hR3
  obtain ⟨z0, z1, z2, z3, z4, z5, z6⟩ := got_free hR3
  have HV3 := Lib.hid hV3
  have HR3 := Lib.hid hR3
  clear hV3 hR3 hG3
  go_region
  all_goals
    go_wp2_with fail
    have hn0 := HN.out
    have hs1 := HS.out
    have hR4 : ((w3.setCell ⟨n0 + 1, 1, none⟩ (.int .i64 n)).setCell ⟨n0 + 1, 2, none⟩ (.slice va vm vc)).heap[n0]? = some (.cells zVal 34 (0, 0)) := (heap_set_other (p := ⟨n0 + 1, 2, none⟩) _ (by simp)).trans ((heap_set_other (p := ⟨n0 + 1, 1, none⟩) _ (by simp)).trans HR3.out)
    have hkN : Keep (fun i => n0 ≤ i ∧ i < n0 + 3) w2 w3 := hk3.weak (fun i _ e => by omega)
    have hkW := (((((((((hkN.set (n0 + 1) 1 (fun _ => by omega) (.int .i64 n)).set (n0 + 1) 2 (fun _ => by omega) (.slice va vm vc)).set n0 0 (fun _ => by omega) (.int .i64 11)).set n0 1 (fun _ => by omega) (.int .i64 n)).set n0 2 (fun _ => by omega) (.slice va vm vc)).set n0 3 (fun _ => by omega) (.int .i64 0)).set n0 4 (fun _ => by omega) (.int .i64 0)).set n0 5 (fun _ => by omega) (.slice none 0 0)).set n0 6 (fun _ => by omega) (.slice none 0 0)).drew
    have hR5 := val_set hR4 (.int .i64 11) (.int .i64 n) (.slice va vm vc) (.int .i64 0) (.int .i64 0) (.slice none 0 0) (.slice none 0 0)
    generalize ((((((((w3.setCell ⟨n0 + 1, 1, none⟩ (.int .i64 n)).setCell ⟨n0 + 1, 2, none⟩ (.slice va vm vc)).setCell ⟨n0, 0, none⟩ (.int .i64 11)).setCell ⟨n0, 1, none⟩ (.int .i64 n)).setCell ⟨n0, 2, none⟩ (.slice va vm vc)).setCell ⟨n0, 3, none⟩ (.int .i64 0)).setCell ⟨n0, 4, none⟩ (.int .i64 0)).setCell ⟨n0, 5, none⟩ (.slice none 0 0)).setCell ⟨n0, 6, none⟩ (.slice none 0 0) = w4 at *
    have hR6 : w4.drew.heap[n0]? = some (.cells #[.int .i64 11, .int .i64 n, .slice va vm vc, .int .i64 0, .int .i64 0, .slice none 0 0, .slice none 0 0] 34 (0, 0)) := hR5
    refine ret_cell2 (U := n0) (T := 34) Tryz.results29 rfl rfl rfl hR6 Tryz.underlying34 ival_size ?_
    refine ⟨_, n, va, vm, vc, 0, 0, none, 0, 0, none, 0, 0, ev, rfl, Bin.through h hk0 HP.out hkW (fun i hi => by omega), fun hz => ?_⟩
    obtain ⟨e1, e2⟩ := HRES.out hz
    subst e1
    exact ⟨_, _, _, rfl, (e2.keep hkW (fun i hi e => by have := hi.1; omega)).weak (fun i _ hi => ⟨by have := hi.1; omega, fun x => hi.2 (Bin.through_M h hk0 HP.out hkW (fun i hi => by omega) i x)⟩), .inl ⟨rfl, _, _, rfl⟩, .inl ⟨rfl, _, _, rfl⟩⟩

end Go.Proofs.YtpfifpgbnhdjnaaGreatDoor
