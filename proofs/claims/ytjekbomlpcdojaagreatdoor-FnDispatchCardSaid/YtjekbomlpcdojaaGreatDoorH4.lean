/- Part 4 of the proof: Io1. -/
import Derived.Test.YtjekbomlpcdojaaGreatDoorH3
import Derived.Deep.RegionWith
set_option linter.unusedVariables false
set_option linter.unusedSimpArgs false
set_option linter.unusedSectionVars false
set_option maxHeartbeats 16000000
namespace Go.Proofs.YtjekbomlpcdojaaGreatDoor
open Go Go.RowKit
abbrev memV (MB : Nat) : Value := .iface 80 (.pointer (some ⟨MB, 0, none⟩))
theorem method_mem {w : World} {MB B : Nat} (h : w.cell? ⟨MB, 0, none⟩ = some (.pointer (some ⟨B, 0, none⟩))) (k : Nat) (nm : String) (f : FuncId)
  (hf : (Array.find? (fun x => x.name == nm) Tryz.t80.methods).map (fun m => (m.path.toList, m.func)) = some ([{ struct := 136, index := 0, deref := true }], some (f, true))) :
  (method (k + 1) 80 (.pointer (some ⟨MB, 0, none⟩)) nm).run Tryz.prog w = .ok (f, .pointer (some ⟨B, 0, none⟩)) w := by
 obtain ⟨m, hm, hp⟩ := Option.map_eq_some_iff.1 hf
 simp only [Prod.mk.injEq] at hp
 obtain ⟨hp, hq⟩ := hp
 simp [method, hm, hp, hq, follow]
 simp [Place.get, asAddr, fieldPlace, sizeOf, receiverAt, Tryz.t134]
 simp [h, loadVar, Addr.add]
theorem nilAhead_mem (w : World) (MB : Nat) (k : Nat) (nm : String) (f : FuncId)
  (hf : (Array.find? (fun x => x.name == nm) Tryz.t80.methods).map (fun m => (m.path.toList, m.func)) = some ([{ struct := 136, index := 0, deref := true }], some (f, true))) :
  (nilAhead (k + 1) 80 (.pointer (some ⟨MB, 0, none⟩)) nm).run Tryz.prog w = .ok (some false) w := by
 obtain ⟨m, hm, hp⟩ := Option.map_eq_some_iff.1 hf
 simp only [Prod.mk.injEq] at hp
 obtain ⟨hp, hq⟩ := hp
 simp [nilAhead, hm, hp, hq, followBlind]
theorem mem_Read : (Array.find? (fun x => x.name == "Read") Tryz.t80.methods).map (fun m => (m.path.toList, m.func)) = some ([{ struct := 136, index := 0, deref := true }], some (201, true)) := by kernel_rfl
theorem mem_ReadByte : (Array.find? (fun x => x.name == "ReadByte") Tryz.t80.methods).map (fun m => (m.path.toList, m.func)) = some ([{ struct := 136, index := 0, deref := true }], some (202, true)) := by kernel_rfl
structure Mem (E : Env) (w : World) (MB B D : Nat) (rem : List UInt8) : Prop where
 mb : w.cell? ⟨MB, 0, none⟩ = some (.pointer (some ⟨B, 0, none⟩))
 buf : Buf w B D rem
 baseMB : E.base ≤ MB
 baseB : E.base ≤ B
 ne : MB ≠ B
 neD : D ≠ B
 ltD : D < w.heap.size
theorem Mem.keep {E : Env} {w w' : World} {M : Nat → Prop} {MB B D : Nat} {rem : List UInt8} (h : Mem E w MB B D rem) (k : Keep M w w') (hMB : ¬ M MB) (hB : ¬ M B) (hD : ¬ M D) : Mem E w' MB B D rem :=
 ⟨(k.cell (p := ⟨MB, 0, none⟩) (lt_of_cell h.mb) hMB).trans h.mb, h.buf.keep k hB hD, h.baseMB, h.baseB, h.ne, h.neD, Nat.lt_of_lt_of_le h.ltD k.size⟩
theorem Mem.of {E : Env} {w w' : World} {M : Nat → Prop} {MB B D : Nat} {rem rem' : List UInt8} (h : Mem E w MB B D rem) (hb : Buf w' B D rem') (k : Keep M w w') (hMB : ¬ M MB) : Mem E w' MB B D rem' :=
 ⟨(k.cell (p := ⟨MB, 0, none⟩) (lt_of_cell h.mb) hMB).trans h.mb, hb, h.baseMB, h.baseB, h.ne, h.neD, Nat.lt_of_lt_of_le h.ltD k.size⟩
theorem readAtLeast_all {E : Env} {w : World} {MB B D X xo n c : Nat} {rem : List UInt8} {cur : List Value} {T : TypeId} (h : Mem E w MB B D rem) (hl : n ≤ rem.length) (hn : 0 < n) (hnm : n ≤ 140737488355328)
  (hX : w.heap[X]? = some (.cells cur.toArray T (0, 0))) (hXB : X ≠ B) (hXD : X ≠ D) (hXM : X ≠ MB) (hfit : xo + n ≤ cur.length) :
  Calls Tryz.prog 289 #[memV MB, .slice (some ⟨X, xo, none⟩) n c, .int .i64 n] w fun e w' => e = .returned (.tuple #[.int .i64 n, .nilIface]) ∧
   Mem E w' MB B D (rem.drop n) ∧ w'.heap[X]? = some (.cells (splice cur xo (bcells (rem.take n))).toArray T (0, 0)) ∧ Keep (fun b => B = b ∨ X = b) w w' := by
 have hmt := fun (w : World) (h : w.cell? ⟨MB, 0, none⟩ = some (.pointer (some ⟨B, 0, none⟩))) => method_mem h 596 "Read" 201 mem_Read
 have hna := fun (w : World) => nilAhead_mem w MB 596 "Read" 201 mem_Read
 have hmb := h.mb
 have hmin : min rem.length n = n := by omega
 simp only [Nat.reduceAdd] at hmt hna
 go_enter Tryz.func289, Tryz.ntmps289
 go_wp2_with fail
 refine wp_loop_rounds 2 ?_
 rw [rounds_succ]
 go_wp2_with fail
 go_region_with (go_at_call 201; refine (buf_read (w := w.drew) (h.buf.eqv (Eqv.drew w)) (by intro hh; subst hh; simp at hl; omega) hn hX hXB hXD hfit).mono ?_; rintro e w1 ⟨rfl, hb1, hX1, hk1⟩; rw [hmin])
 have HX1 := hdd hX1
 clear hX1
 go_wp2_with fail
 rw [rounds_succ]
 go_wp2_with fail
 go_ret2
 exact ⟨rfl, h.of hb1 (((Eqv.drew w).keep _).then hk1) (by rintro (e | e); exact h.ne e.symm; exact hXM e), HX1.out, ((Eqv.drew w).keep _).then hk1⟩
theorem readAtLeast_end {E : Env} {w : World} {MB B D n c : Nat} {a : Option Addr} (hg : Glob E w) (h : Mem E w MB B D []) (hn : 0 < n) (hnc : n ≤ c) (hnm : n ≤ 140737488355328) :
  Calls Tryz.prog 289 #[memV MB, .slice a n c, .int .i64 n] w fun e w' => e = .returned (.tuple #[.int .i64 0, eofV E]) ∧
   Mem E w' MB B D [] ∧ Keep (B = ·) w w' := by
 have hmt := fun (w : World) (h : w.cell? ⟨MB, 0, none⟩ = some (.pointer (some ⟨B, 0, none⟩))) => method_mem h 596 "Read" 201 mem_Read
 have hna := fun (w : World) => nilAhead_mem w MB 596 "Read" 201 mem_Read
 have hmb := h.mb
 simp only [Nat.reduceAdd] at hmt hna
 have hc0 : ¬ c = 0 := by omega
 go_enter Tryz.func289, Tryz.ntmps289
 go_wp2_with fail
 refine wp_loop_rounds 2 ?_
 rw [rounds_succ]
 go_wp2_with fail
 go_region_with (go_at_call 201; refine (buf_read_end (w := w.drew) (hg.eqv (Eqv.drew w)) h.baseB (h.buf.eqv (Eqv.drew w)) hn).mono ?_; rintro e w1 ⟨rfl, hb1, hk1⟩)
 go_wp2_with fail
 rw [rounds_succ]
 go_wp2_with fail
 go_ret2
 exact ⟨rfl, h.of hb1 (((Eqv.drew w).keep _).then hk1) (fun e => h.ne e.symm), ((Eqv.drew w).keep _).then hk1⟩
theorem readAtLeast_some {E : Env} {w : World} {MB B D X xo n c : Nat} {rem : List UInt8} {cur : List Value} {T : TypeId} (hg : Glob E w) (h : Mem E w MB B D rem) (hl : rem.length < n) (hr : rem ≠ []) (hnc : n ≤ c) (hnm : n ≤ 140737488355328)
  (hX : w.heap[X]? = some (.cells cur.toArray T (0, 0))) (hXB : X ≠ B) (hXD : X ≠ D) (hXM : X ≠ MB) (hXE : E.base ≤ X) (hfit : xo + n ≤ cur.length) :
  Calls Tryz.prog 289 #[memV MB, .slice (some ⟨X, xo, none⟩) n c, .int .i64 n] w fun e w' => e = .returned (.tuple #[.int .i64 rem.length, ueofV E]) ∧
   Mem E w' MB B D [] ∧ w'.heap[X]? = some (.cells (splice cur xo (bcells rem)).toArray T (0, 0)) ∧ Keep (fun b => B = b ∨ X = b) w w' := by
 have hmt := fun (w : World) (h : w.cell? ⟨MB, 0, none⟩ = some (.pointer (some ⟨B, 0, none⟩))) => method_mem h 596 "Read" 201 mem_Read
 have hna := fun (w : World) => nilAhead_mem w MB 596 "Read" 201 mem_Read
 have hmb := h.mb
 have hrl : 0 < rem.length := List.length_pos_iff.2 hr
 have hmin : min rem.length n = rem.length := by omega
 have hc0 : ¬ c = 0 := by omega
 have hcr : ¬ c = rem.length := by omega
 have hrc : rem.length ≤ n := by omega
 simp only [Nat.reduceAdd] at hmt hna
 go_enter Tryz.func289, Tryz.ntmps289
 go_wp2_with fail
 refine wp_loop_rounds 3 ?_
 rw [rounds_succ]
 go_wp2_with fail
 go_region_with (go_at_call 201; refine (buf_read (w := w.drew) (h.buf.eqv (Eqv.drew w)) hr (by omega) hX hXB hXD hfit).mono ?_; rintro e w1 ⟨rfl, hb1, hX1, hk1⟩; rw [hmin])
 have hM1 : Mem E w1 MB B D [] := h.of (by simpa [List.drop_of_length_le hrc] using hb1) (((Eqv.drew w).keep _).then hk1) (by rintro (e | e); exact h.ne e.symm; exact hXM e)
 have hmb1 := hM1.mb
 have HX1 : Hid (w1.heap[X]? = some (.cells (splice cur xo (bcells rem)).toArray T (0, 0))) := hdd (by simpa [List.take_of_length_le hrc] using hX1)
 have hg1 : Glob E w1 := hg.keep (((Eqv.drew w).keep _).then hk1) (by have := h.baseB; rintro i (e | e) <;> omega)
 clear hX1 hb1 hmb
 go_wp2_with fail
 rw [rounds_succ]
 go_wp2_with fail
 go_region_with (go_at_call 201; refine (buf_read_end (w := w1.drew) (hg1.eqv (Eqv.drew w1)) h.baseB (hM1.buf.eqv (Eqv.drew w1)) (by omega)).mono ?_; rintro e w2 ⟨rfl, hb2, hk2⟩)
 have hk3 := ((Eqv.drew w1).keep _).then hk2
 have hg2 : Glob E w2 := hg1.keep hk3 (by have := h.baseB; intro i e; omega)
 have he1 := hg2.eof
 have he2 := hg2.ueof
 have hee := eof_eql E
 go_wp2_with fail
 rw [rounds_succ]
 go_wp2_with fail
 go_ret2
 have hk4 : Keep (fun b => B = b ∨ X = b) w w2 := (((Eqv.drew w).keep _).then hk1).trans hk3 (fun i _ e => .inl e)
 refine ⟨rfl, hM1.of hb2 hk3 (fun e => h.ne e.symm), ?_, hk4⟩
 exact (hk3.block X (lt_of_heap HX1.out) (fun e => hXB e.symm)).trans HX1.out
end Go.Proofs.YtjekbomlpcdojaaGreatDoor
