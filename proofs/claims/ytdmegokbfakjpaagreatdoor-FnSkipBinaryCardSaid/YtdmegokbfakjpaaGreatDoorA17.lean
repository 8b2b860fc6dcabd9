/- Part 17 of the proof: Bi1, Rt0, ReadBin, Get1Bin. -/
import Derived.Test.YtdmegokbfakjpaaGreatDoorA10
import Derived.Test.YtdmegokbfakjpaaGreatDoorA15
import Derived.Test.YtdmegokbfakjpaaGreatDoorA16
import Derived.Deep.RegionWith
import Derived.Laws.IdiomStrings
set_option linter.unusedVariables false
set_option linter.unusedSimpArgs false
set_option linter.unusedSectionVars false
/- The binary protocol: what a caller knows whose own blocks turn behind a call. -/
namespace Go.Proofs.YtdmegokbfakjpaaGreatDoor
open Go Go.RowKit

theorem Bin.M_lt {K : Bin.Ctx} {s : Bin.St} {w : World} (h : Bin.Inv K s w) : ∀ i, Bin.M K i → i < w.heap.size := by
  rintro i (rfl | rfl)
  · exact h.p.mem.buf.lt
  · obtain ⟨sc, _, hb⟩ := h.p.blk
    exact lt_of_heap hb
theorem Bin.b2 (K : Bin.Ctx) (s : Bin.St) : (Bin.pr K).scB 2 s = [] := by simp [Bin.pr, Bin.scB]
theorem Bin.b3 (K : Bin.Ctx) (s : Bin.St) : (Bin.pr K).scB 3 s = [] := by simp [Bin.pr, Bin.scB]
theorem Bin.b4 (K : Bin.Ctx) (s : Bin.St) : (Bin.pr K).scB 4 s = [] := by simp [Bin.pr, Bin.scB]
theorem Bin.b6 (K : Bin.Ctx) (s : Bin.St) : (Bin.pr K).scB 6 s = [] := by simp [Bin.pr, Bin.scB]
theorem Bin.b10 (K : Bin.Ctx) (s : Bin.St) : (Bin.pr K).scB 10 s = [] := by simp [Bin.pr, Bin.scB]
theorem Bin.b8 (K : Bin.Ctx) (s : Bin.St) : (Bin.pr K).scB 8 s = [] := by simp [Bin.pr, Bin.scB]


theorem BinP.over {E : Env} {P MB B D : Nat} {a : Option Addr} {c : Cfg} {s s' : List UInt8} {w w2 w3 : World} {N : Nat → Prop} (h : BinP E P MB B D a c s w) (h2 : BinP E P MB B D a c s' w2) (k2 : Keep (MB2 P B) w w2) (k : Keep N w2 w3) (hN : ∀ i, N i → w.heap.size ≤ i) : BinP E P MB B D a c s' w3 := by
  have hP : P < w.heap.size := by obtain ⟨sc, _, hb⟩ := h.blk; exact lt_of_heap hb
  have hM : MB < w.heap.size := lt_of_cell h.mem.mb
  have hB : B < w.heap.size := h.mem.buf.lt
  have hD := h.mem.ltD
  have hE := h.glob.size
  have n1 : ∀ i, i < w.heap.size → ¬ N i := fun i hi x => by have := hN i x; omega
  refine h2.keep k (n1 _ hP) (n1 _ hM) (n1 _ hB) (n1 _ hD) (fun i x => by have := hN i x; omega) ?_
  have hc := h.cfg.weak (N := fun i => MB2 P B i ∨ N i) (fun i hi x => x.elim id (fun y => absurd y (n1 i hi)))
  exact ((hc.keep k2 (fun i x => .inl x)).keep k (fun i x => .inr x)).weak (fun i _ x => .inl x)

/-- A call behind which the caller turns blocks of its own. -/
theorem Bin.through {K : Bin.Ctx} {s s' : Bin.St} {w w1 w2 w3 : World} {k : Int} {ev : Value} {N : Nat → Prop} (h : Bin.Inv K s w) (hk0 : Keep (fun _ => False) w w1) (hp : Bin.Post K w1 w2 k ev s') (hk : Keep N w2 w3) (hN : ∀ i, N i → w.heap.size ≤ i ∧ i < w1.heap.size) : Bin.Post K w w3 k ev s' := by
  have hE := h.p.glob.size
  have h1 := h.fresh hk0
  have k02 : Keep (MB2 K.P K.B) w w2 := (hk0.weak (fun _ _ x => x.elim)).then hp.keep
  refine ⟨(hp.err.keep hk (fun i hi x => by have := (hN i x).2; omega)).mono hk0.size, fun hz => ⟨h.p.over (hp.inv hz).p k02 hk (fun i x => (hN i x).1), (hp.inv hz).len⟩, ?_, k02.trans hk (fun i hi x => by have := (hN i x).1; omega)⟩
  obtain ⟨s2, h2⟩ := hp.some
  exact ⟨s2, h.p.over h2 k02 hk (fun i x => (hN i x).1)⟩

end Go.Proofs.YtdmegokbfakjpaaGreatDoor

/- What a call hands back that lies in a cell of struct type. -/
namespace Go.Proofs.YtdmegokbfakjpaaGreatDoor
open Go Go.RowKit

theorem ret_cell {f : Func} {slot : Nat} {a : Act} {w : World} {U : Nat} {Q : Ending → World → Prop} {T : TypeId} {fs : Array Field} {cs : Array Value} (hf : f.results = #[.cell slot T]) (hd : a.defers = []) (ha : a.tmps[slot]?.getD undef = .pointer (some ⟨U, 0, none⟩))
    (hU : w.heap[U]? = some (.cells cs T (0, 0))) (hu : Tryz.prog.underlying T = some (.struct fs)) (hs : (Tryz.prog.info? T).map (·.size) = some cs.size) (hQ : Q (.returned (.agg cs)) w) : bodyPost Tryz.prog f Q Exit.ret a w := by
  have hl := run_loadVar_row (P := Tryz.prog) w U T T _ (0, 0) _ hU hu rfl hs
  refine bodyPost_ret (v := .agg cs) ?_ hd hQ
  simp [results, hf, ha, asAddr, hl]

theorem ret_cell2 {f : Func} {slot s2 : Nat} {a : Act} {w : World} {U : Nat} {Q : Ending → World → Prop} {T : TypeId} {fs : Array Field} {cs : Array Value} {v2 : Value} (hf : f.results = #[.cell slot T, .tmp s2]) (hd : a.defers = []) (ha : a.tmps[slot]?.getD undef = .pointer (some ⟨U, 0, none⟩)) (hb : a.tmps[s2]?.getD undef = v2)
    (hU : w.heap[U]? = some (.cells cs T (0, 0))) (hu : Tryz.prog.underlying T = some (.struct fs)) (hs : (Tryz.prog.info? T).map (·.size) = some cs.size) (hQ : Q (.returned (.tuple #[.agg cs, v2])) w) : bodyPost Tryz.prog f Q Exit.ret a w := by
  have hl := run_loadVar_row (P := Tryz.prog) w U T T _ (0, 0) _ hU hu rfl hs
  refine bodyPost_ret (v := .tuple #[.agg cs, v2]) ?_ hd hQ
  simp [results, hf, ha, hb, asAddr, hl]

theorem ret_cell3 {f : Func} {slot s2 s3 : Nat} {a : Act} {w : World} {U : Nat} {Q : Ending → World → Prop} {T : TypeId} {fs : Array Field} {cs : Array Value} {v2 v3 : Value} (hf : f.results = #[.cell slot T, .tmp s2, .tmp s3]) (hd : a.defers = []) (ha : a.tmps[slot]?.getD undef = .pointer (some ⟨U, 0, none⟩)) (hb : a.tmps[s2]?.getD undef = v2) (hc : a.tmps[s3]?.getD undef = v3)
    (hU : w.heap[U]? = some (.cells cs T (0, 0))) (hu : Tryz.prog.underlying T = some (.struct fs)) (hs : (Tryz.prog.info? T).map (·.size) = some cs.size) (hQ : Q (.returned (.tuple #[.agg cs, v2, v3])) w) : bodyPost Tryz.prog f Q Exit.ret a w := by
  have hl := run_loadVar_row (P := Tryz.prog) w U T T _ (0, 0) _ hU hu rfl hs
  refine bodyPost_ret (v := .tuple #[.agg cs, v2, v3]) ?_ hd hQ
  simp [results, hf, ha, hb, hc, asAddr, hl]

theorem igot_size : (Tryz.prog.info? 158).map (·.size) = some 7 := by kernel_rfl
theorem ival_size : (Tryz.prog.info? 38).map (·.size) = some 7 := by kernel_rfl

end Go.Proofs.YtdmegokbfakjpaaGreatDoor

/- The thin package: one call of a protocol that reads a scalar. -/
namespace Go.Proofs.YtdmegokbfakjpaaGreatDoor
open Go Go.RowKit

abbrev stepI (op : Int) : Array Value := #[.int .i64 op, .int .i64 0, .int .i64 0, .int .i64 0, .int .i64 0, .int .i64 0, .slice none 0 0]

/-- What reading a scalar tells: a number, some bytes, an error. -/
def Bin.ReadP (K : Bin.Ctx) (w : World) (k : Int) (s' : Bin.St) (N : Int) (S : List UInt8) (e : Ending) (w' : World) : Prop :=
  ∃ n v ev, e = .returned (.tuple #[gotV 0 0 0 0 0 n v, ev]) ∧ Bin.Post K w w' k ev s' ∧ (∃ a m c, v = .slice a m c) ∧ (k = 0 → n = N ∧ BytesAt (w.heap.size ≤ ·) w' v S)

theorem Bin.na_ReadBool (K : Bin.Ctx) (w : World) : (nilAhead 459 108 (.pointer (some ⟨K.P, 0, none⟩)) "ReadBool").run Tryz.prog w = .ok (some false) w := by kernel_rfl

set_option maxRecDepth 100000 in
set_option maxHeartbeats 4000000 in
theorem Bin.read13 (K : Bin.Ctx) (s : Bin.St) (w : World) (h : Bin.Inv K s w) :
    Calls Tryz.prog 43 #[Bin.V K, .agg (stepI 13)] w (Bin.ReadP K w ((Bin.pr K).scK 2 s) ((Bin.pr K).scS 2 s) ((Bin.pr K).scN 2 s) ((Bin.pr K).scB 2 s)) := by
  have hna := Bin.na_ReadBool K
  go_enter Tryz.func43, Tryz.ntmps43
  go_wp2_with fail
  have hk0 : Keep (fun _ => False) w ((w.alloc (.cells (stepI 13) 161 (0, 0))).alloc (.cells zGot 158 (0, 0))) := ((Keep.refl _ w).alloc _).alloc _
  have hU0 : ((w.alloc (.cells (stepI 13) 161 (0, 0))).alloc (.cells zGot 158 (0, 0))).heap[w.heap.size + 1]? = some (.cells zGot 158 (0, 0)) := heap_alloc_at (by simp) _
  obtain ⟨U, hU⟩ : ∃ U, w.heap.size + 1 = U := ⟨_, rfl⟩
  rw [hU] at hU0 ⊢
  generalize (w.alloc (.cells (stepI 13) 161 (0, 0))).alloc (.cells zGot 158 (0, 0)) = w1 at *
  have HU := Lib.hid hU
  have HU0 := Lib.hid hU0
  have hM := Bin.M_lt h
  have HM := Lib.hid hM
  clear hU hU0 hM
  go_region_with (first | (go_at_call 15; refine (ctx_at _).mono ?_; rintro e w' ⟨rfl, rfl⟩) | (go_at_call 211; refine (Bin.readBool (w := w1.drew) (h.fresh hk0.drew)).mono ?_; rintro e w2 ⟨v, ev, rfl, hp, hv⟩; have HP := Lib.hid hp; have HV := Lib.hid hv; clear hp hv))
  all_goals
    have hb := ((HP.out.keep.block U (by simpa using lt_of_heap HU0.out) (fun x => by have := HM.out U x; have := HU.out; omega)).trans HU0.out)
    have HB := Lib.hid hb
    obtain ⟨u0, u1, u2, u3, u4, u5, u6⟩ := got_cells hb
    obtain ⟨f0, f1, f2, f3, f4, f5, f6⟩ := got_free hb
    clear hb
    obtain ⟨n, hn⟩ : ∃ n : Int, n = if v = true then 1 else 0 := ⟨_, rfl⟩
    have HN := Lib.hid hn
    clear hn
    cases v
    · have hn0 : n = 0 := by simpa using HN.out
      subst hn0
      go_wp2_with fail
      have hk2 : Keep (fun i => U = i) w2 (gotW w2 U 0 0 0 0 0 0 nilB) := got_keep (Keep.refl _ w2) (fun _ => rfl) _ _ _ _ _ _ _
      refine ret_cell2 (U := U) (T := 158) Tryz.results43 rfl rfl rfl (got_set HB.out _ _ _ _ _ _ _) Tryz.underlying158 igot_size ?_
      refine ⟨0, nilB, ev, rfl, ?_, ⟨_, _, _, rfl⟩, fun hk => ⟨by simpa using HV.out hk, .inl ⟨Bin.b2 K s, _, _, rfl⟩⟩⟩
      exact Bin.through h hk0.drew HP.out hk2 (fun i hi => by have := HU.out; have := lt_of_heap HU0.out; simp; omega)
    · have hn1 : n = 1 := by simpa using HN.out
      subst hn1
      go_wp2_with fail
      have hk2 : Keep (fun i => U = i) w2 (gotW w2 U 0 0 0 0 0 1 nilB) := got_keep (Keep.refl _ w2) (fun _ => rfl) _ _ _ _ _ _ _
      refine ret_cell2 (U := U) (T := 158) Tryz.results43 rfl rfl rfl (got_set HB.out _ _ _ _ _ _ _) Tryz.underlying158 igot_size ?_
      refine ⟨1, nilB, ev, rfl, ?_, ⟨_, _, _, rfl⟩, fun hk => ⟨by simpa using HV.out hk, .inl ⟨Bin.b2 K s, _, _, rfl⟩⟩⟩
      exact Bin.through h hk0.drew HP.out hk2 (fun i hi => by have := HU.out; have := lt_of_heap HU0.out; simp; omega)

theorem Bin.na_ReadByte (K : Bin.Ctx) (w : World) : (nilAhead 459 108 (.pointer (some ⟨K.P, 0, none⟩)) "ReadByte").run Tryz.prog w = .ok (some false) w := by kernel_rfl

set_option maxRecDepth 100000 in
set_option maxHeartbeats 4000000 in
theorem Bin.read14 (K : Bin.Ctx) (s : Bin.St) (w : World) (h : Bin.Inv K s w) :
    Calls Tryz.prog 43 #[Bin.V K, .agg (stepI 14)] w (Bin.ReadP K w ((Bin.pr K).scK 3 s) ((Bin.pr K).scS 3 s) ((Bin.pr K).scN 3 s) ((Bin.pr K).scB 3 s)) := by
  have hna := Bin.na_ReadByte K
  go_enter Tryz.func43, Tryz.ntmps43
  go_wp2_with fail
  have hk0 : Keep (fun _ => False) w ((w.alloc (.cells (stepI 14) 161 (0, 0))).alloc (.cells zGot 158 (0, 0))) := ((Keep.refl _ w).alloc _).alloc _
  have hU0 : ((w.alloc (.cells (stepI 14) 161 (0, 0))).alloc (.cells zGot 158 (0, 0))).heap[w.heap.size + 1]? = some (.cells zGot 158 (0, 0)) := heap_alloc_at (by simp) _
  obtain ⟨U, hU⟩ : ∃ U, w.heap.size + 1 = U := ⟨_, rfl⟩
  rw [hU] at hU0 ⊢
  generalize (w.alloc (.cells (stepI 14) 161 (0, 0))).alloc (.cells zGot 158 (0, 0)) = w1 at *
  have HU := Lib.hid hU
  have HU0 := Lib.hid hU0
  have hM := Bin.M_lt h
  have HM := Lib.hid hM
  clear hU hU0 hM
  go_region_with (first | (go_at_call 15; refine (ctx_at _).mono ?_; rintro e w' ⟨rfl, rfl⟩) | (go_at_call 212; refine (Bin.readByte (w := w1.drew) (h.fresh hk0.drew)).mono ?_; rintro e w2 ⟨n, ev, rfl, hp, hv, b1, b2⟩; have HP := Lib.hid hp; have HV := Lib.hid hv; clear hp hv))
  all_goals
    have hb := ((HP.out.keep.block U (by simpa using lt_of_heap HU0.out) (fun x => by have := HM.out U x; have := HU.out; omega)).trans HU0.out)
    have HB := Lib.hid hb
    obtain ⟨u0, u1, u2, u3, u4, u5, u6⟩ := got_cells hb
    obtain ⟨f0, f1, f2, f3, f4, f5, f6⟩ := got_free hb
    clear hb
    go_wp2_with fail
    have hk2 : Keep (fun i => U = i) w2 (gotW w2 U 0 0 0 0 0 n nilB) := got_keep (Keep.refl _ w2) (fun _ => rfl) _ _ _ _ _ _ _
    refine ret_cell2 (U := U) (T := 158) Tryz.results43 rfl rfl rfl (got_set HB.out _ _ _ _ _ _ _) Tryz.underlying158 igot_size ?_
    refine ⟨n, nilB, ev, rfl, ?_, ⟨_, _, _, rfl⟩, fun hk => ⟨HV.out hk, .inl ⟨Bin.b3 K s, _, _, rfl⟩⟩⟩
    exact Bin.through h hk0.drew HP.out hk2 (fun i hi => by have := HU.out; have := lt_of_heap HU0.out; simp; omega)

theorem Bin.na_ReadI16 (K : Bin.Ctx) (w : World) : (nilAhead 459 108 (.pointer (some ⟨K.P, 0, none⟩)) "ReadI16").run Tryz.prog w = .ok (some false) w := by kernel_rfl

set_option maxRecDepth 100000 in
set_option maxHeartbeats 4000000 in
theorem Bin.read15 (K : Bin.Ctx) (s : Bin.St) (w : World) (h : Bin.Inv K s w) :
    Calls Tryz.prog 43 #[Bin.V K, .agg (stepI 15)] w (Bin.ReadP K w ((Bin.pr K).scK 6 s) ((Bin.pr K).scS 6 s) ((Bin.pr K).scN 6 s) ((Bin.pr K).scB 6 s)) := by
  have hna := Bin.na_ReadI16 K
  go_enter Tryz.func43, Tryz.ntmps43
  go_wp2_with fail
  have hk0 : Keep (fun _ => False) w ((w.alloc (.cells (stepI 15) 161 (0, 0))).alloc (.cells zGot 158 (0, 0))) := ((Keep.refl _ w).alloc _).alloc _
  have hU0 : ((w.alloc (.cells (stepI 15) 161 (0, 0))).alloc (.cells zGot 158 (0, 0))).heap[w.heap.size + 1]? = some (.cells zGot 158 (0, 0)) := heap_alloc_at (by simp) _
  obtain ⟨U, hU⟩ : ∃ U, w.heap.size + 1 = U := ⟨_, rfl⟩
  rw [hU] at hU0 ⊢
  generalize (w.alloc (.cells (stepI 15) 161 (0, 0))).alloc (.cells zGot 158 (0, 0)) = w1 at *
  have HU := Lib.hid hU
  have HU0 := Lib.hid hU0
  have hM := Bin.M_lt h
  have HM := Lib.hid hM
  clear hU hU0 hM
  go_region_with (first | (go_at_call 15; refine (ctx_at _).mono ?_; rintro e w' ⟨rfl, rfl⟩) | (go_at_call 216; refine (Bin.readI16 (w := w1.drew) (h.fresh hk0.drew)).mono ?_; rintro e w2 ⟨n, ev, rfl, hp, hv, b1, b2⟩; have HP := Lib.hid hp; have HV := Lib.hid hv; clear hp hv))
  all_goals
    have hb := ((HP.out.keep.block U (by simpa using lt_of_heap HU0.out) (fun x => by have := HM.out U x; have := HU.out; omega)).trans HU0.out)
    have HB := Lib.hid hb
    obtain ⟨u0, u1, u2, u3, u4, u5, u6⟩ := got_cells hb
    obtain ⟨f0, f1, f2, f3, f4, f5, f6⟩ := got_free hb
    clear hb
    go_wp2_with fail
    have hk2 : Keep (fun i => U = i) w2 (gotW w2 U 0 0 0 0 0 n nilB) := got_keep (Keep.refl _ w2) (fun _ => rfl) _ _ _ _ _ _ _
    refine ret_cell2 (U := U) (T := 158) Tryz.results43 rfl rfl rfl (got_set HB.out _ _ _ _ _ _ _) Tryz.underlying158 igot_size ?_
    refine ⟨n, nilB, ev, rfl, ?_, ⟨_, _, _, rfl⟩, fun hk => ⟨HV.out hk, .inl ⟨Bin.b6 K s, _, _, rfl⟩⟩⟩
    exact Bin.through h hk0.drew HP.out hk2 (fun i hi => by have := HU.out; have := lt_of_heap HU0.out; simp; omega)

theorem Bin.na_ReadI32 (K : Bin.Ctx) (w : World) : (nilAhead 459 108 (.pointer (some ⟨K.P, 0, none⟩)) "ReadI32").run Tryz.prog w = .ok (some false) w := by kernel_rfl

set_option maxRecDepth 100000 in
set_option maxHeartbeats 4000000 in
theorem Bin.read16 (K : Bin.Ctx) (s : Bin.St) (w : World) (h : Bin.Inv K s w) :
    Calls Tryz.prog 43 #[Bin.V K, .agg (stepI 16)] w (Bin.ReadP K w ((Bin.pr K).scK 8 s) ((Bin.pr K).scS 8 s) ((Bin.pr K).scN 8 s) ((Bin.pr K).scB 8 s)) := by
  have hna := Bin.na_ReadI32 K
  go_enter Tryz.func43, Tryz.ntmps43
  go_wp2_with fail
  have hk0 : Keep (fun _ => False) w ((w.alloc (.cells (stepI 16) 161 (0, 0))).alloc (.cells zGot 158 (0, 0))) := ((Keep.refl _ w).alloc _).alloc _
  have hU0 : ((w.alloc (.cells (stepI 16) 161 (0, 0))).alloc (.cells zGot 158 (0, 0))).heap[w.heap.size + 1]? = some (.cells zGot 158 (0, 0)) := heap_alloc_at (by simp) _
  obtain ⟨U, hU⟩ : ∃ U, w.heap.size + 1 = U := ⟨_, rfl⟩
  rw [hU] at hU0 ⊢
  generalize (w.alloc (.cells (stepI 16) 161 (0, 0))).alloc (.cells zGot 158 (0, 0)) = w1 at *
  have HU := Lib.hid hU
  have HU0 := Lib.hid hU0
  have hM := Bin.M_lt h
  have HM := Lib.hid hM
  clear hU hU0 hM
  go_region_with (first | (go_at_call 15; refine (ctx_at _).mono ?_; rintro e w' ⟨rfl, rfl⟩) | (go_at_call 217; refine (Bin.readI32 (w := w1.drew) (h.fresh hk0.drew)).mono ?_; rintro e w2 ⟨n, ev, rfl, hp, hv, b1, b2⟩; have HP := Lib.hid hp; have HV := Lib.hid hv; clear hp hv))
  all_goals
    have hb := ((HP.out.keep.block U (by simpa using lt_of_heap HU0.out) (fun x => by have := HM.out U x; have := HU.out; omega)).trans HU0.out)
    have HB := Lib.hid hb
    obtain ⟨u0, u1, u2, u3, u4, u5, u6⟩ := got_cells hb
    obtain ⟨f0, f1, f2, f3, f4, f5, f6⟩ := got_free hb
    clear hb
    go_wp2_with fail
    have hk2 : Keep (fun i => U = i) w2 (gotW w2 U 0 0 0 0 0 n nilB) := got_keep (Keep.refl _ w2) (fun _ => rfl) _ _ _ _ _ _ _
    refine ret_cell2 (U := U) (T := 158) Tryz.results43 rfl rfl rfl (got_set HB.out _ _ _ _ _ _ _) Tryz.underlying158 igot_size ?_
    refine ⟨n, nilB, ev, rfl, ?_, ⟨_, _, _, rfl⟩, fun hk => ⟨HV.out hk, .inl ⟨Bin.b8 K s, _, _, rfl⟩⟩⟩
    exact Bin.through h hk0.drew HP.out hk2 (fun i hi => by have := HU.out; have := lt_of_heap HU0.out; simp; omega)

theorem Bin.na_ReadI64 (K : Bin.Ctx) (w : World) : (nilAhead 459 108 (.pointer (some ⟨K.P, 0, none⟩)) "ReadI64").run Tryz.prog w = .ok (some false) w := by kernel_rfl

set_option maxRecDepth 100000 in
set_option maxHeartbeats 4000000 in
theorem Bin.read17 (K : Bin.Ctx) (s : Bin.St) (w : World) (h : Bin.Inv K s w) :
    Calls Tryz.prog 43 #[Bin.V K, .agg (stepI 17)] w (Bin.ReadP K w ((Bin.pr K).scK 10 s) ((Bin.pr K).scS 10 s) ((Bin.pr K).scN 10 s) ((Bin.pr K).scB 10 s)) := by
  have hna := Bin.na_ReadI64 K
  go_enter Tryz.func43, Tryz.ntmps43
  go_wp2_with fail
  have hk0 : Keep (fun _ => False) w ((w.alloc (.cells (stepI 17) 161 (0, 0))).alloc (.cells zGot 158 (0, 0))) := ((Keep.refl _ w).alloc _).alloc _
  have hU0 : ((w.alloc (.cells (stepI 17) 161 (0, 0))).alloc (.cells zGot 158 (0, 0))).heap[w.heap.size + 1]? = some (.cells zGot 158 (0, 0)) := heap_alloc_at (by simp) _
  obtain ⟨U, hU⟩ : ∃ U, w.heap.size + 1 = U := ⟨_, rfl⟩
  rw [hU] at hU0 ⊢
  generalize (w.alloc (.cells (stepI 17) 161 (0, 0))).alloc (.cells zGot 158 (0, 0)) = w1 at *
  have HU := Lib.hid hU
  have HU0 := Lib.hid hU0
  have hM := Bin.M_lt h
  have HM := Lib.hid hM
  clear hU hU0 hM
  go_region_with (first | (go_at_call 15; refine (ctx_at _).mono ?_; rintro e w' ⟨rfl, rfl⟩) | (go_at_call 218; refine (Bin.readI64 (w := w1.drew) (h.fresh hk0.drew)).mono ?_; rintro e w2 ⟨n, ev, rfl, hp, hv, b1, b2⟩; have HP := Lib.hid hp; have HV := Lib.hid hv; clear hp hv))
  all_goals
    have hb := ((HP.out.keep.block U (by simpa using lt_of_heap HU0.out) (fun x => by have := HM.out U x; have := HU.out; omega)).trans HU0.out)
    have HB := Lib.hid hb
    obtain ⟨u0, u1, u2, u3, u4, u5, u6⟩ := got_cells hb
    obtain ⟨f0, f1, f2, f3, f4, f5, f6⟩ := got_free hb
    clear hb
    go_wp2_with fail
    have hk2 : Keep (fun i => U = i) w2 (gotW w2 U 0 0 0 0 0 n nilB) := got_keep (Keep.refl _ w2) (fun _ => rfl) _ _ _ _ _ _ _
    refine ret_cell2 (U := U) (T := 158) Tryz.results43 rfl rfl rfl (got_set HB.out _ _ _ _ _ _ _) Tryz.underlying158 igot_size ?_
    refine ⟨n, nilB, ev, rfl, ?_, ⟨_, _, _, rfl⟩, fun hk => ⟨HV.out hk, .inl ⟨Bin.b10 K s, _, _, rfl⟩⟩⟩
    exact Bin.through h hk0.drew HP.out hk2 (fun i hi => by have := HU.out; have := lt_of_heap HU0.out; simp; omega)

theorem Bin.na_ReadDouble (K : Bin.Ctx) (w : World) : (nilAhead 459 108 (.pointer (some ⟨K.P, 0, none⟩)) "ReadDouble").run Tryz.prog w = .ok (some false) w := by kernel_rfl

set_option maxRecDepth 100000 in
set_option maxHeartbeats 4000000 in
theorem Bin.read18 (K : Bin.Ctx) (s : Bin.St) (w : World) (h : Bin.Inv K s w) :
    Calls Tryz.prog 43 #[Bin.V K, .agg (stepI 18)] w (Bin.ReadP K w ((Bin.pr K).scK 4 s) ((Bin.pr K).scS 4 s) ((Bin.pr K).scN 4 s) ((Bin.pr K).scB 4 s)) := by
  have hna := Bin.na_ReadDouble K
  go_enter Tryz.func43, Tryz.ntmps43
  go_wp2_with fail
  have hk0 : Keep (fun _ => False) w ((w.alloc (.cells (stepI 18) 161 (0, 0))).alloc (.cells zGot 158 (0, 0))) := ((Keep.refl _ w).alloc _).alloc _
  have hU0 : ((w.alloc (.cells (stepI 18) 161 (0, 0))).alloc (.cells zGot 158 (0, 0))).heap[w.heap.size + 1]? = some (.cells zGot 158 (0, 0)) := heap_alloc_at (by simp) _
  obtain ⟨U, hU⟩ : ∃ U, w.heap.size + 1 = U := ⟨_, rfl⟩
  rw [hU] at hU0 ⊢
  generalize (w.alloc (.cells (stepI 18) 161 (0, 0))).alloc (.cells zGot 158 (0, 0)) = w1 at *
  have HU := Lib.hid hU
  have HU0 := Lib.hid hU0
  have hM := Bin.M_lt h
  have HM := Lib.hid hM
  clear hU hU0 hM
  go_region_with (first | (go_at_call 15; refine (ctx_at _).mono ?_; rintro e w' ⟨rfl, rfl⟩) | (go_at_call 213; refine (Bin.readDouble (w := w1.drew) (h.fresh hk0.drew)).mono ?_; rintro e w2 ⟨n, ev, rfl, hp, hb0, hv⟩; have HP := Lib.hid hp; have HV := Lib.hid hv; clear hp hv))
  all_goals
    have hb := ((HP.out.keep.block U (by simpa using lt_of_heap HU0.out) (fun x => by have := HM.out U x; have := HU.out; omega)).trans HU0.out)
    have HB := Lib.hid hb
    obtain ⟨u0, u1, u2, u3, u4, u5, u6⟩ := got_cells hb
    obtain ⟨f0, f1, f2, f3, f4, f5, f6⟩ := got_free hb
    clear hb
    have hfb := tobits
    go_wp2_with fail
    have hk2 : Keep (fun i => U = i) w2 (gotW w2 U 0 0 0 0 0 (wrap64 n) nilB) := got_keep (Keep.refl _ w2) (fun _ => rfl) _ _ _ _ _ _ _
    refine ret_cell2 (U := U) (T := 158) Tryz.results43 rfl rfl rfl (got_set HB.out _ _ _ _ _ _ _) Tryz.underlying158 igot_size ?_
    refine ⟨wrap64 n, nilB, ev, rfl, ?_, ⟨_, _, _, rfl⟩, fun hk => ⟨HV.out hk, .inl ⟨Bin.b4 K s, _, _, rfl⟩⟩⟩
    exact Bin.through h hk0.drew HP.out hk2 (fun i hi => by have := HU.out; have := lt_of_heap HU0.out; simp; omega)

end Go.Proofs.YtdmegokbfakjpaaGreatDoor

/- The thin package: get of a number of 32 bits. -/
namespace Go.Proofs.YtdmegokbfakjpaaGreatDoor
open Go Go.RowKit

abbrev zVal : Array Value := valC 0 0 nilB 0 0 (.slice none 0 0) (.slice none 0 0)
/-- What get lays ahead of its work. -/
abbrev getW (w : World) (t : Int) : World := ((w.alloc (.cells zVal 38 (0, 0))).alloc (.cells (valC t 0 nilB 0 0 (.slice none 0 0) (.slice none 0 0)) 38 (0, 0))).alloc (.cells zGot 158 (0, 0))

theorem getW_facts (w : World) (t : Int) : Keep (fun _ => False) w (getW w t) ∧ (getW w t).heap[w.heap.size]? = some (.cells zVal 38 (0, 0)) ∧ (getW w t).heap[w.heap.size + 1]? = some (.cells (valC t 0 nilB 0 0 (.slice none 0 0) (.slice none 0 0)) 38 (0, 0)) ∧
    (getW w t).heap[w.heap.size + 1 + 1]? = some (.cells zGot 158 (0, 0)) ∧ (getW w t).heap.size = w.heap.size + 3 := by
  refine ⟨(((Keep.refl _ w).alloc _).alloc _).alloc _, ?_, ?_, ?_, by simp⟩
  · exact (Below.heap_alloc _ _ _ (by simp; omega)).trans ((Below.heap_alloc _ _ _ (by simp)).trans (heap_alloc_new w _))
  · exact (Below.heap_alloc _ _ _ (by simp)).trans (heap_alloc_at (by simp) _)
  · exact heap_alloc_at (by simp) _

theorem val_set {w : World} {U : Nat} {v0 v1 v2 v3 v4 v5 v6 : Value} {T : TypeId} (h : w.heap[U]? = some (.cells #[v0, v1, v2, v3, v4, v5, v6] T (0, 0))) (x0 x1 x2 x3 x4 x5 x6 : Value) :
    (((((((w.setCell ⟨U, 0, none⟩ x0).setCell ⟨U, 1, none⟩ x1).setCell ⟨U, 2, none⟩ x2).setCell ⟨U, 3, none⟩ x3).setCell ⟨U, 4, none⟩ x4).setCell ⟨U, 5, none⟩ x5).setCell ⟨U, 6, none⟩ x6).heap[U]? = some (.cells #[x0, x1, x2, x3, x4, x5, x6] T (0, 0)) := by
  have h0 := heap_set_same (i := 0) h x0
  have h1 := heap_set_same (i := 1) h0 x1
  have h2 := heap_set_same (i := 2) h1 x2
  have h3 := heap_set_same (i := 3) h2 x3
  have h4 := heap_set_same (i := 4) h3 x4
  have h5 := heap_set_same (i := 5) h4 x5
  have h6 := heap_set_same (i := 6) h5 x6
  simpa using h6

set_option maxRecDepth 100000 in
set_option maxHeartbeats 4000000 in
theorem Bin.get8 (K : Bin.Ctx) (deep : Int) (hd : 0 < deep) (s : Bin.St) (w : World) (h : Bin.Inv K s w) :
    Calls Tryz.prog 26 #[Bin.V K, .int .u8 8, .int .i64 deep] w fun e w' => ∃ n v ev, e = .returned (.tuple #[.agg (valC 8 n v 0 0 (.slice none 0 0) (.slice none 0 0)), ev]) ∧ Bin.Post K w w' ((Bin.pr K).scK 8 s) ev ((Bin.pr K).scS 8 s) ∧ ((Bin.pr K).scK 8 s = 0 → n = (Bin.pr K).scN 8 s ∧ BytesAt (w.heap.size ≤ ·) w' v ((Bin.pr K).scB 8 s)) := by
  go_enter Tryz.func26, Tryz.ntmps26
  go_wp2_with fail
  obtain ⟨hk0, hR, hV, hG, hs⟩ := getW_facts w 8
  obtain ⟨n0, hn⟩ : ∃ n0, w.heap.size = n0 := ⟨_, rfl⟩
  rw [hn] at hR hV hG hs ⊢
  unfold getW at hk0 hR hV hG hs
  generalize ((w.alloc (.cells zVal 38 (0, 0))).alloc (.cells (valC 8 0 nilB 0 0 (.slice none 0 0) (.slice none 0 0)) 38 (0, 0))).alloc (.cells zGot 158 (0, 0)) = w1 at *
  have HN := Lib.hid hn
  have HR := Lib.hid hR
  have HV := Lib.hid hV
  have HG := Lib.hid hG
  have HS := Lib.hid hs
  have HM := Lib.hid (Bin.M_lt h)
  clear hn hR hV hG hs
  refine (Bin.read16 K s w1 (h.fresh hk0)).mono ?_
  rintro e w2 ⟨n, v, ev, rfl, hp, ⟨va, vm, vc, rfl⟩, hres⟩
  have hnew : ∀ i, n0 ≤ i → ¬ Bin.M K i := fun i hi x => by have := HM.out i x; have := HN.out; omega
  have hR2 := (hp.keep.block n0 (lt_of_heap HR.out) (hnew _ (by omega))).trans HR.out
  have hV2 := (hp.keep.block (n0 + 1) (lt_of_heap HV.out) (hnew _ (by omega))).trans HV.out
  have hG2 := (hp.keep.block (n0 + 1 + 1) (lt_of_heap HG.out) (hnew _ (by omega))).trans HG.out
  have HP := Lib.hid hp
  have HRES := Lib.hid hres
  have HR2 := Lib.hid hR2
  have HV2 := Lib.hid hV2
  have HG2 := Lib.hid hG2
  obtain ⟨u0, u1, u2, u3, u4, u5, u6⟩ := got_cells hG2
  obtain ⟨f0, f1, f2, f3, f4, f5, f6⟩ := got_free hG2
  clear hp hres hR2 hV2 hG2 hnew
  go_wp2_with fail
  have hG3 := got_set HG2.out 0 0 0 0 0 n (.slice va vm vc)
  have hk3 : Keep (fun i => n0 + 1 + 1 = i) w2 (gotW w2 (n0 + 1 + 1) 0 0 0 0 0 n (.slice va vm vc)) := got_keep (Keep.refl _ w2) (fun _ => rfl) _ _ _ _ _ _ _
  clear u0 u1 u2 u3 u4 u5 u6 f0 f1 f2 f3 f4 f5 f6
  obtain ⟨w3, hw3⟩ : ∃ w3, gotW w2 (n0 + 1 + 1) 0 0 0 0 0 n (.slice va vm vc) = w3 := ⟨_, rfl⟩
  rw [hw3] at hG3 hk3
  unfold gotW at hw3
  rw [hw3]
  clear hw3
  have hV3 := (hk3.block (n0 + 1) (lt_of_heap HV2.out) (by omega)).trans HV2.out
  have hR3 := (hk3.block n0 (lt_of_heap HR2.out) (by omega)).trans HR2.out
  obtain ⟨u0, u1, u2, u3, u4, u5, u6⟩ := got_cells hG3
  obtain ⟨x0, x1, x2, x3, x4, x5, x6⟩ := got_cells hV3
  obtain ⟨y0, y1, y2, y3, y4, y5, y6⟩ := got_free hV3
  obtain ⟨r0, r1, r2, r3, r4, r5, r6⟩ := got_cells hR3
  obtain ⟨z0, z1, z2, z3, z4, z5, z6⟩ := got_free hR3
  have HV3 := Lib.hid hV3
  have HR3 := Lib.hid hR3
  clear hV3 hR3 hG3
  go_region
  all_goals
    go_wp2_with fail
    have hn0 := HN.out
    have hs1 := HS.out
    have hR4 : ((w3.setCell ⟨n0 + 1, 1, none⟩ (.int .i64 n)).setCell ⟨n0 + 1, 2, none⟩ (.slice va vm vc)).heap[n0]? = some (.cells zVal 38 (0, 0)) := (heap_set_other (p := ⟨n0 + 1, 2, none⟩) _ (by simp)).trans ((heap_set_other (p := ⟨n0 + 1, 1, none⟩) _ (by simp)).trans HR3.out)
    have hkN : Keep (fun i => n0 ≤ i ∧ i < n0 + 3) w2 w3 := hk3.weak (fun i _ e => by omega)
    have hkW := (((((((((hkN.set (n0 + 1) 1 (fun _ => by omega) (.int .i64 n)).set (n0 + 1) 2 (fun _ => by omega) (.slice va vm vc)).set n0 0 (fun _ => by omega) (.int .i64 8)).set n0 1 (fun _ => by omega) (.int .i64 n)).set n0 2 (fun _ => by omega) (.slice va vm vc)).set n0 3 (fun _ => by omega) (.int .i64 0)).set n0 4 (fun _ => by omega) (.int .i64 0)).set n0 5 (fun _ => by omega) (.slice none 0 0)).set n0 6 (fun _ => by omega) (.slice none 0 0)).drew
    have hR5 := val_set hR4 (.int .i64 8) (.int .i64 n) (.slice va vm vc) (.int .i64 0) (.int .i64 0) (.slice none 0 0) (.slice none 0 0)
    generalize ((((((((w3.setCell ⟨n0 + 1, 1, none⟩ (.int .i64 n)).setCell ⟨n0 + 1, 2, none⟩ (.slice va vm vc)).setCell ⟨n0, 0, none⟩ (.int .i64 8)).setCell ⟨n0, 1, none⟩ (.int .i64 n)).setCell ⟨n0, 2, none⟩ (.slice va vm vc)).setCell ⟨n0, 3, none⟩ (.int .i64 0)).setCell ⟨n0, 4, none⟩ (.int .i64 0)).setCell ⟨n0, 5, none⟩ (.slice none 0 0)).setCell ⟨n0, 6, none⟩ (.slice none 0 0) = w4 at *
    have hR6 : w4.drew.heap[n0]? = some (.cells #[.int .i64 8, .int .i64 n, .slice va vm vc, .int .i64 0, .int .i64 0, .slice none 0 0, .slice none 0 0] 38 (0, 0)) := hR5
    refine ret_cell2 (U := n0) (T := 38) Tryz.results26 rfl rfl rfl hR6 Tryz.underlying38 ival_size ?_
    refine ⟨n, _, ev, rfl, Bin.through h hk0 HP.out hkW (fun i hi => by omega), fun hz => ⟨(HRES.out hz).1, ?_⟩⟩
    exact ((HRES.out hz).2.keep hkW (fun i hi e => by omega)).weak (fun i _ hi => by omega)

end Go.Proofs.YtdmegokbfakjpaaGreatDoor
