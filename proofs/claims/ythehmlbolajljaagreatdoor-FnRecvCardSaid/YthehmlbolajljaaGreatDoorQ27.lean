/- Part 27 of the proof: FltE, Rc0. -/
import Derived.Test.YthehmlbolajljaaGreatDoorQ26
import Derived.Test.YthehmlbolajljaaGreatDoorQ20
import Derived.Test.YthehmlbolajljaaGreatDoorQ21
import Derived.Test.YthehmlbolajljaaGreatDoorQ5
import Derived.MapKept
import Derived.Deep.RegionWith
set_option linter.unusedVariables false
set_option linter.unusedSimpArgs false
set_option linter.unusedSectionVars false
set_option maxHeartbeats 16000000
namespace Go.Proofs.YthehmlbolajljaaGreatDoor
open Go Go.RowKit
theorem wpList_mkmap {w : World} {ops : Array Oper} {rest : List Oper} {o : Oper} {a : Act} {Q : Exit → Act → World → Prop} (hg : o.guard = none) (t : TypeId) (hop : o.op = Op.makeMap t none)
  (hK : ∀ w', w.alloc (.map #[] 0) = w' → wpList Tryz.prog ops Q rest (a.put o.dst (.map (some w.heap.size))) w') : wpList Tryz.prog ops Q (o :: rest) a w := by
 refine wpList_plain hg fun K hK' => ?_
 have hrun : (Instr.makeMap t none).run Tryz.prog w = .ok (.map (some w.heap.size)) (w.alloc (.map #[] 0)) := rfl
 unfold Oper.wp
 simp [execOp, hop, hrun, Result.andThen]
 exact hK' _ _ (hK _ rfl)
theorem wpList_ins {w : World} {ops : Array Oper} {rest : List Oper} {o : Oper} {a : Act} {Q : Exit → Act → World → Prop} (hg : o.guard = none) (m k x : Operand) (hop : o.op = Op.insert 403 m k x)
  (r : Nat) (hm : a.eval m = .map (some r)) (kk : Int) (hk : a.eval k = .int .i32 kk) (v : Value) (hx : a.eval x = v) (es : Array MapEntry) (n : Nat) (hb : w.heap[r]? = some (.map es n)) (hf : Instr.findNow (.int .i32) (.int .i32 kk) es.toList 0 = some none)
  (hK : ∀ w', w'.heap[r]? = some (.map (es.push ⟨.int .i32 kk, v, n⟩) (n + 1)) → Keep (r = ·) w w' → wpList Tryz.prog ops Q rest (a.put o.dst undef) w') : wpList Tryz.prog ops Q (o :: rest) a w := by
 refine wpList_plain hg fun K hK' => ?_
 have hrun : (Instr.mapUpdate 403 (.map (some r)) (.int .i32 kk) v).run Tryz.prog w = .ok () { w with heap := w.heap.setIfInBounds r (.map (es.push ⟨.int .i32 kk, v, n⟩) (n + 1)) } := by
  simp [Instr.mapUpdate, run_underlying Tryz.underlying403, MapKept.run_getObj_map hb, MapKept.run_checkKey Tryz.underlying21 (k := .int .i32 kk) rfl, MapKept.run_findKey Tryz.underlying21 hf, MapKept.run_setObj_map _ hb, Result.andThen]
 have hlt := lt_of_heap hb
 unfold Oper.wp
 simp [execOp, hop, hm, hk, hx, hrun, Result.andThen]
 refine hK' _ _ (hK _ (by simp [hlt]) ?_)
 exact ⟨rfl, rfl, rfl, by simp, fun i hi hne => by simp [Ne.symm (fun e => hne e.symm)]⟩
abbrev faultES : Array MapEntry := #[⟨.int .i32 0, .string ⟨#[117, 110, 107, 110, 111, 119, 110, 32, 97, 112, 112, 108, 105, 99, 97, 116, 105, 111, 110, 32, 101, 120, 99, 101, 112, 116, 105, 111, 110]⟩, 0⟩, ⟨.int .i32 1, .string ⟨#[117, 110, 107, 110, 111, 119, 110, 32, 109, 101, 116, 104, 111, 100]⟩, 1⟩, ⟨.int .i32 2, .string ⟨#[105, 110, 118, 97, 108, 105, 100, 32, 109, 101, 115, 115, 97, 103, 101, 32, 116, 121, 112, 101]⟩, 2⟩, ⟨.int .i32 3, .string ⟨#[119, 114, 111, 110, 103, 32, 109, 101, 116, 104, 111, 100, 32, 110, 97, 109, 101]⟩, 3⟩, ⟨.int .i32 4, .string ⟨#[98, 97, 100, 32, 115, 101, 113, 117, 101, 110, 99, 101, 32, 73, 68]⟩, 4⟩, ⟨.int .i32 5, .string ⟨#[109, 105, 115, 115, 105, 110, 103, 32, 114, 101, 115, 117, 108, 116]⟩, 5⟩, ⟨.int .i32 6, .string ⟨#[117, 110, 107, 110, 111, 119, 110, 32, 105, 110, 116, 101, 114, 110, 97, 108, 32, 101, 114, 114, 111, 114]⟩, 6⟩, ⟨.int .i32 7, .string ⟨#[117, 110, 107, 110, 111, 119, 110, 32, 112, 114, 111, 116, 111, 99, 111, 108, 32, 101, 114, 114, 111, 114]⟩, 7⟩, ⟨.int .i32 8, .string ⟨#[73, 110, 118, 97, 108, 105, 100, 32, 116, 114, 97, 110, 115, 102, 111, 114, 109]⟩, 8⟩, ⟨.int .i32 9, .string ⟨#[73, 110, 118, 97, 108, 105, 100, 32, 112, 114, 111, 116, 111, 99, 111, 108]⟩, 9⟩, ⟨.int .i32 10, .string ⟨#[85, 110, 115, 117, 112, 112, 111, 114, 116, 101, 100, 32, 99, 108, 105, 101, 110, 116, 32, 116, 121, 112, 101]⟩, 10⟩, ⟨.int .i32 11, .string ⟨#[118, 97, 108, 105, 100, 97, 116, 105, 111, 110, 32, 102, 97, 105, 108, 101, 100]⟩, 11⟩]
set_option maxRecDepth 100000 in
theorem fault_map (w : World) : Calls Tryz.prog 319 #[] w fun e w' => ∃ r, e = .returned (.map (some r)) ∧ w'.heap[r]? = some (.map faultES 12) ∧ Keep (fun _ => False) w w' := by
 go_enter Tryz.func319, Tryz.ntmps319
 go_wp2_with (first | refine wpList_mkmap rfl _ rfl ?_ | refine wpList_ins rfl (.tmp 1) _ _ rfl w.heap.size rfl 0 rfl _ rfl #[] 0 (heap_alloc_new w _) rfl ?_)
 intro w1 h1 k1
 have hk1 : Keep (fun _ => False) w w1 := ((Keep.refl _ w).alloc _).trans k1 (fun i hi e => by omega)
 clear k1
 obtain ⟨r, hr⟩ : ∃ r, w.heap.size = r := ⟨_, rfl⟩
 rw [hr] at h1 ⊢
 go_wp2_with (refine wpList_ins rfl (.tmp 1) _ _ rfl r rfl 1 rfl _ rfl _ 1 h1 rfl ?_)
 intro w2 h2 k2
 have hk2 : Keep (fun _ => False) w w2 := hk1.trans k2 (fun i hi e => by omega)
 clear h1 k2 hk1
 go_wp2_with (refine wpList_ins rfl (.tmp 1) _ _ rfl r rfl 2 rfl _ rfl _ 2 h2 rfl ?_)
 intro w3 h3 k3
 have hk3 : Keep (fun _ => False) w w3 := hk2.trans k3 (fun i hi e => by omega)
 clear h2 k3 hk2
 go_wp2_with (refine wpList_ins rfl (.tmp 1) _ _ rfl r rfl 3 rfl _ rfl _ 3 h3 rfl ?_)
 intro w4 h4 k4
 have hk4 : Keep (fun _ => False) w w4 := hk3.trans k4 (fun i hi e => by omega)
 clear h3 k4 hk3
 go_wp2_with (refine wpList_ins rfl (.tmp 1) _ _ rfl r rfl 4 rfl _ rfl _ 4 h4 rfl ?_)
 intro w5 h5 k5
 have hk5 : Keep (fun _ => False) w w5 := hk4.trans k5 (fun i hi e => by omega)
 clear h4 k5 hk4
 go_wp2_with (refine wpList_ins rfl (.tmp 1) _ _ rfl r rfl 5 rfl _ rfl _ 5 h5 rfl ?_)
 intro w6 h6 k6
 have hk6 : Keep (fun _ => False) w w6 := hk5.trans k6 (fun i hi e => by omega)
 clear h5 k6 hk5
 go_wp2_with (refine wpList_ins rfl (.tmp 1) _ _ rfl r rfl 6 rfl _ rfl _ 6 h6 rfl ?_)
 intro w7 h7 k7
 have hk7 : Keep (fun _ => False) w w7 := hk6.trans k7 (fun i hi e => by omega)
 clear h6 k7 hk6
 go_wp2_with (refine wpList_ins rfl (.tmp 1) _ _ rfl r rfl 7 rfl _ rfl _ 7 h7 rfl ?_)
 intro w8 h8 k8
 have hk8 : Keep (fun _ => False) w w8 := hk7.trans k8 (fun i hi e => by omega)
 clear h7 k8 hk7
 go_wp2_with (refine wpList_ins rfl (.tmp 1) _ _ rfl r rfl 8 rfl _ rfl _ 8 h8 rfl ?_)
 intro w9 h9 k9
 have hk9 : Keep (fun _ => False) w w9 := hk8.trans k9 (fun i hi e => by omega)
 clear h8 k9 hk8
 go_wp2_with (refine wpList_ins rfl (.tmp 1) _ _ rfl r rfl 9 rfl _ rfl _ 9 h9 rfl ?_)
 intro w10 h10 k10
 have hk10 : Keep (fun _ => False) w w10 := hk9.trans k10 (fun i hi e => by omega)
 clear h9 k10 hk9
 go_wp2_with (refine wpList_ins rfl (.tmp 1) _ _ rfl r rfl 10 rfl _ rfl _ 10 h10 rfl ?_)
 intro w11 h11 k11
 have hk11 : Keep (fun _ => False) w w11 := hk10.trans k11 (fun i hi e => by omega)
 clear h10 k11 hk10
 go_wp2_with (refine wpList_ins rfl (.tmp 1) _ _ rfl r rfl 11 rfl _ rfl _ 11 h11 rfl ?_)
 intro w12 h12 k12
 have hk12 : Keep (fun _ => False) w w12 := hk11.trans k12 (fun i hi e => by omega)
 clear h11 k12 hk11
 go_wp2_with fail
 go_ret
 exact ⟨r, rfl, h12, hk12⟩
theorem fault_find (q : Int) : Instr.findNow (.int .i32) (.int .i32 q) faultES.toList 0 = some (if 0 ≤ q ∧ q ≤ 11 then some (q.toNat, .string ⟨(faultTxt q).toArray⟩) else none) := by
 rcases fault_cases q with h | h | h
 ·rw [if_neg (by omega)]
  simp [Instr.findNow, Instr.sameNow]
  repeat (rw [show (q == _) = false by simp; omega])
 ·rw [if_neg (by omega)]
  simp [Instr.findNow, Instr.sameNow]
  repeat (rw [show (q == _) = false by simp; omega])
 ·rcases h with rfl | rfl | rfl | rfl | rfl | rfl | rfl | rfl | rfl | rfl | rfl | rfl <;> rfl
theorem fault_look (w : World) (r : Nat) (q : Int) (h : w.heap[r]? = some (.map faultES 12)) : (Instr.lookup 403 (.map (some r)) (.int .i32 q) false).run Tryz.prog w = .ok (.string ⟨(faultTxt q).toArray⟩) w := by
 have hf := fault_find q
 have hz : (zeroValue 9).run Tryz.prog w = .ok (.string ⟨#[]⟩) w := by kernel_rfl
 by_cases hq : 0 ≤ q ∧ q ≤ 11
 ·rw [if_pos hq] at hf
  simp [Instr.lookup, run_underlying Tryz.underlying403, MapKept.run_getObj_map h, MapKept.run_checkKey Tryz.underlying21 (k := .int .i32 q) rfl, MapKept.run_findKey Tryz.underlying21 hf, Result.andThen]
 ·rw [if_neg hq] at hf
  have ht : faultTxt q = [] := faultTxt_out q (by omega)
  simp [Instr.lookup, run_underlying Tryz.underlying403, MapKept.run_getObj_map h, MapKept.run_checkKey Tryz.underlying21 (k := .int .i32 q) rfl, MapKept.run_findKey Tryz.underlying21 hf, hz, ht, Result.andThen]
set_option maxRecDepth 100000 in
theorem exc_error (m : List UInt8) (q : Int) (ex : Value) (w : World) :
  Calls Tryz.prog 316 #[.agg (excC ⟨m.toArray⟩ q ex)] w fun e w' => e = .returned (.string ⟨(fltTxt (m, q)).toArray⟩) ∧ Keep (fun _ => False) w w' := by
 have hk0 : Keep (fun _ => False) w (w.alloc (.cells (excC ⟨m.toArray⟩ q ex) 191 (0, 0))) := (Keep.refl _ w).alloc _
 have hU0 := heap_alloc_new w (.cells (excC ⟨m.toArray⟩ q ex) 191 (0, 0))
 by_cases hm : m = []
 ·subst hm
  have e : fltTxt ([], q) = faultTxt q := rfl
  rw [e]
  go_enter Tryz.func316, Tryz.ntmps316
  go_wp2_with fail
  obtain ⟨U, hU⟩ : ∃ U, w.heap.size = U := ⟨_, rfl⟩
  rw [hU] at hU0 ⊢
  generalize w.alloc (.cells (excC ⟨[].toArray⟩ q ex) 191 (0, 0)) = w1 at *
  have c1 := cellAt hU0 1
  simp at c1
  have HU := hdd hU0
  go_region_with (go_at_call 319; refine (fault_map _).mono ?_; rintro e w2 ⟨r, rfl, hmap, hk2⟩; have hlook := fault_look w2 r q hmap; have d1 := (hk2.cell (p := ⟨U, 1, none⟩) (lt_of_heap HU.out) id).trans c1)
  all_goals
   go_wp2_with fail
   go_ret
   exact ⟨rfl, (hk0.drew).then hk2⟩
 ·have e : fltTxt (m, q) = m := by unfold fltTxt; rw [if_neg hm]
  rw [e]
  obtain ⟨s, hs⟩ : ∃ s : ByteArray, ⟨m.toArray⟩ = s := ⟨_, rfl⟩
  have hs0 : ¬ s = ⟨#[]⟩ := by
   intro e0
   rw [← hs] at e0
   have : m.toArray = #[] := by simpa using e0
   exact hm (by simpa using this)
  rw [hs] at hk0 hU0 ⊢
  have hsl : s.toList.isEmpty = false := by
   rw [← hs, ByteArray.toList_eq]
   cases m with
   | nil => exact absurd rfl hm
   | cons x r => rfl
  go_enter Tryz.func316, Tryz.ntmps316
  go_wp2_with fail
  go_ret
  exact ⟨rfl, hk0⟩
abbrev excV (PX : Nat) : Value := .iface 192 (.pointer (some ⟨PX, 0, none⟩))
def faultK (q : Int) : Int := if q < 0 then 29 else if 11 < q then 29 else 30 + q
theorem fltTxt_le (a : List UInt8 × Int) (h : a.1.length ≤ 140737488355328) : (fltTxt a).length ≤ 140737488355328 := by
 unfold fltTxt
 split
 ·rcases fault_cases a.2 with h | h | h
  ·rw [faultTxt_out _ (.inl h)]; simp
  ·rw [faultTxt_out _ (.inr h)]; simp
  ·rcases h with h | h | h | h | h | h | h | h | h | h | h | h <;> rw [h] <;> decide
 ·exact h
def AExc (n0 : Nat) (w : World) (v : Value) (a : List UInt8 × Int) : Prop :=
 ∃ b, v = excV b ∧ n0 ≤ b ∧ w.heap[b]? = some (.cells (excC ⟨a.1.toArray⟩ a.2 .nilIface) 191 (0, 0)) ∧ a.1.length ≤ 140737488355328 ∧ -2147483648 ≤ a.2 ∧ a.2 ≤ 2147483647
def RErr (E : Env) (n0 : Nat) (w : World) (v : Value) (k : Int) (m : List UInt8) : Prop :=
 (ErrAt E n0 w v k ∧ m = []) ∨ ∃ a, AExc n0 w v a ∧ k = faultK a.2 ∧ m = fltTxt a
theorem AExc.keep {n0 : Nat} {w w' : World} {v : Value} {a : List UInt8 × Int} {M : Nat → Prop} (h : AExc n0 w v a) (k : Keep M w w') (hM : ∀ i, n0 ≤ i → ¬ M i) : AExc n0 w' v a := by
 obtain ⟨b, hv, hb, hc, h2⟩ := h
 exact ⟨b, hv, hb, (k.block b (lt_of_heap hc) (hM b hb)).trans hc, h2⟩
theorem RErr.keep {E : Env} {n0 : Nat} {w w' : World} {v : Value} {k : Int} {m : List UInt8} {M : Nat → Prop} (h : RErr E n0 w v k m) (hk : Keep M w w') (hM : ∀ i, n0 ≤ i → ¬ M i) : RErr E n0 w' v k m := by
 rcases h with ⟨h, e⟩ | ⟨a, h, e1, e2⟩
 ·exact .inl ⟨h.keep hk hM, e⟩
 ·exact .inr ⟨a, h.keep hk hM, e1, e2⟩
theorem RErr.mono {E : Env} {n0 n1 : Nat} {w : World} {v : Value} {k : Int} {m : List UInt8} (h : RErr E n0 w v k m) (hn : n1 ≤ n0) : RErr E n1 w v k m := by
 rcases h with ⟨h, e⟩ | ⟨a, ⟨b, hv, hb, h2⟩, e⟩
 ·exact .inl ⟨h.mono hn, e⟩
 ·exact .inr ⟨a, ⟨b, hv, by omega, h2⟩, e⟩
theorem ta_ae_own (v : Value) (w : World) : (Instr.typeAssert (.iface 192 v) 72 138 true).run Tryz.prog w = .ok (.tuple #[.int .i64 0, .bool false]) w := by kernel_rfl
theorem ta_ae_te (v : Value) (w : World) : (Instr.typeAssert (.iface 192 v) 72 146 true).run Tryz.prog w = .ok (.tuple #[.iface 192 v, .bool true]) w := by kernel_rfl
theorem ta_te_ae (v : Value) (w : World) : (Instr.typeAssert (.iface 192 v) 146 157 true).run Tryz.prog w = .ok (.tuple #[.iface 192 v, .bool true]) w := by kernel_rfl
theorem ta_ae_ae (v : Value) (w : World) : (Instr.typeAssert (.iface 192 v) 72 157 true).run Tryz.prog w = .ok (.tuple #[.iface 192 v, .bool true]) w := by kernel_rfl
theorem ta_es_ae (v : Value) (w : World) : (Instr.typeAssert (.iface 317 v) 72 157 true).run Tryz.prog w = .ok (.tuple #[.nilIface, .bool false]) w := run_typeAssert_lacksB Tryz.underlying157 (by kernel_rfl) (by kernel_rfl) v _ w
theorem ta_pe_ae (v : Value) (w : World) : (Instr.typeAssert (.iface 314 v) 72 157 true).run Tryz.prog w = .ok (.tuple #[.nilIface, .bool false]) w := run_typeAssert_lacksB Tryz.underlying157 (by kernel_rfl) (by kernel_rfl) v _ w
theorem ta_own_ae (v : Value) (w : World) : (Instr.typeAssert (.iface 138 v) 72 157 true).run Tryz.prog w = .ok (.tuple #[.nilIface, .bool false]) w := run_typeAssert_lacksB Tryz.underlying157 (by kernel_rfl) (by kernel_rfl) v _ w
theorem ta_nil_ae (w : World) : (Instr.typeAssert .nilIface 72 157 true).run Tryz.prog w = .ok (.tuple #[.nilIface, .bool false]) w := by kernel_rfl
theorem ae_TExceptionType : (Array.find? (fun x => x.name == "TExceptionType") Tryz.t192.methods).map (fun m => (m.path, m.func)) = some (#[], some (317, false)) := by kernel_rfl
theorem method_ae_type {w : World} {PX : Nat} (k : Nat) {m : ByteArray} {q : Int} {ex : Value} (h : w.heap[PX]? = some (.cells (excC m q ex) 191 (0, 0))) :
  (method (k + 1) 192 (.pointer (some ⟨PX, 0, none⟩)) "TExceptionType").run Tryz.prog w = .ok (317, .agg (excC m q ex)) w := by
 obtain ⟨mm, hm, hp⟩ := Option.map_eq_some_iff.1 ae_TExceptionType
 simp only [Prod.mk.injEq] at hp
 obtain ⟨hp, hq⟩ := hp
 have hl := run_loadVar_row (P := Tryz.prog) w PX 191 191 _ (0, 0) _ h Tryz.underlying191 rfl exc_size
 simp [method, hm, hp, hq, follow]
 simp [receiverAt, Place.get, asAddr, wnc]
 rw [hl]
 rfl
theorem ae_typ (cs : Array Value) (w : World) : Calls Tryz.prog 317 #[.agg cs] w fun e w' => e = .returned (.int .u8 2) ∧ Keep (fun _ => False) w w' := by
 go_enter Tryz.func317, Tryz.ntmps317
 go_wp2_with fail
 go_ret
 exact ⟨rfl, by first | exact Keep.refl _ _ | exact (Keep.refl _ _).alloc _⟩
theorem ae_typeId {PX : Nat} {m : ByteArray} {q : Int} {ex : Value} {w : World} (h : w.heap[PX]? = some (.cells (excC m q ex) 191 (0, 0))) :
  Calls Tryz.prog 320 #[.pointer (some ⟨PX, 0, none⟩)] w fun e w' => e = .returned (.int .i32 q) ∧ w = w' := by
 have c1 := cellAt h 1
 simp at c1
 go_enter Tryz.func320, Tryz.ntmps320
 go_wp2_with fail
 go_ret
 exact ⟨rfl, rfl⟩
theorem newExc_at (m : ByteArray) (q : Int) (w : World) : Calls Tryz.prog 69 #[.int .i32 q, .string m] w fun e w' => e = .returned (excV w.heap.size) ∧ w.alloc (.cells (excC m q .nilIface) 191 (0, 0)) = w' := by
 go_enter Tryz.func69, Tryz.ntmps69
 go_wp2_with fail
 go_ret
 exact ⟨rfl, rfl⟩
set_option maxRecDepth 100000 in
theorem kind_aexc {E : Env} {n0 : Nat} (w : World) (hg : Glob E w) (v : Value) (a : List UInt8 × Int) (h : AExc n0 w v a) : Calls Tryz.prog 30 #[v] w fun e w' => e = .returned (.int .i64 (faultK a.2)) ∧ Keep (fun _ => False) w w' := by
 obtain ⟨m, q⟩ := a
 obtain ⟨b, rfl, hb, hc, hm, hq1, hq2⟩ := h
 have h1 := ta_ae_own
 have h2 := hg.eof
 have h5 := hg.ueof
 have h3 := fun (vx vy : Value) (w : World) => eql_types 192 317 vx vy (by decide) w
 have h6 := ta_ae_te
 have h7 := ta_te_ae
 have h8 := method_ae_type 541 hc
 simp only [Nat.reduceAdd] at h8
 simp only at hq1 hq2
 unfold faultK
 by_cases q1 : q < 0
 ·rw [if_pos q1]
  go_enter Tryz.func30, Tryz.ntmps30
  go_wp2_with fail
  refine (ae_typ _ _).mono ?_
  rintro e w1 ⟨rfl, hk1⟩
  go_wp2_with fail
  refine (ae_typeId ((hk1.block b (lt_of_heap hc) id).trans hc)).mono ?_
  rintro e w2 ⟨rfl, rfl⟩
  go_wp2_with fail
  go_ret
  exact ⟨rfl, hk1⟩
 ·rw [if_neg q1]
  by_cases q2 : 11 < q
  ·rw [if_pos q2]
   have q3 : ¬ q ≤ 11 := by omega
   have q4 : 0 ≤ q := by omega
   go_enter Tryz.func30, Tryz.ntmps30
   go_wp2_with fail
   refine (ae_typ _ _).mono ?_
   rintro e w1 ⟨rfl, hk1⟩
   go_wp2_with fail
   refine (ae_typeId ((hk1.block b (lt_of_heap hc) id).trans hc)).mono ?_
   rintro e w2 ⟨rfl, rfl⟩
   go_wp2_with fail
   go_ret
   exact ⟨rfl, hk1⟩
  ·rw [if_neg q2]
   have q3 : q ≤ 11 := by omega
   have q4 : 0 ≤ q := by omega
   go_enter Tryz.func30, Tryz.ntmps30
   go_wp2_with fail
   refine (ae_typ _ _).mono ?_
   rintro e w1 ⟨rfl, hk1⟩
   go_wp2_with fail
   refine (ae_typeId ((hk1.block b (lt_of_heap hc) id).trans hc)).mono ?_
   rintro e w2 ⟨rfl, rfl⟩
   go_wp2_with fail
   go_ret
   exact ⟨rfl, hk1⟩
theorem kind_r {E : Env} {n0 : Nat} {w : World} {v : Value} {k : Int} {m : List UInt8} (hg : Glob E w) (h : RErr E n0 w v k m) :
  Calls Tryz.prog 30 #[v] w fun e w' => e = .returned (.int .i64 k) ∧ Keep (fun _ => False) w w' := by
 rcases h with ⟨h, _⟩ | ⟨a, h, rfl, _⟩
 ·exact kind_any hg h
 ·exact kind_aexc w hg v a h
set_option maxRecDepth 100000 in
theorem told_none (v : Value) (w : World) (hv : v = .nilIface ∨ (∃ x, v = .iface 317 x) ∨ (∃ x, v = .iface 314 x) ∨ ∃ x, v = .iface 138 x) :
  Calls Tryz.prog 47 #[v] w fun e w' => e = .returned (.slice none 0 0) ∧ w = w' := by
 have h0 := ta_nil_ae
 have h1 := ta_es_ae
 have h2 := ta_pe_ae
 have h3 := ta_own_ae
 rcases hv with rfl | ⟨x, rfl⟩ | ⟨x, rfl⟩ | ⟨x, rfl⟩
 all_goals
  go_enter Tryz.func47, Tryz.ntmps47
  go_wp2_with fail
  go_ret
  exact ⟨rfl, rfl⟩
set_option maxRecDepth 100000 in
theorem told_r {E : Env} {n0 : Nat} {w : World} {v : Value} {k : Int} {m : List UInt8} (h : RErr E n0 w v k m) :
  Calls Tryz.prog 47 #[v] w fun e w' => ∃ va vm vc, e = .returned (.slice va vm vc) ∧ BytesAt (w.heap.size ≤ ·) w' (.slice va vm vc) m ∧ Keep (fun _ => False) w w' := by
 rcases h with ⟨h, rfl⟩ | ⟨⟨m0, q⟩, ⟨b, rfl, hb, hc, hm, hq1, hq2⟩, rfl, rfl⟩
 ·refine (told_none v w ?_).mono fun e w' ⟨h1, h2⟩ => ⟨none, 0, 0, h1, .inl ⟨rfl, _, _, rfl⟩, h2 ▸ Keep.refl _ _⟩
  rcases h with ⟨_, rfl⟩ | ⟨_, rfl⟩ | ⟨_, rfl⟩ | ⟨_, _, b, u, s, rfl, _⟩ | ⟨_, _, rfl⟩
  ·exact .inl rfl
  ·exact .inr (.inl ⟨_, rfl⟩)
  ·exact .inr (.inl ⟨_, rfl⟩)
  ·exact .inr (.inr (.inl ⟨_, rfl⟩))
  ·exact .inr (.inr (.inr ⟨_, rfl⟩))
 ·have h1 := ta_ae_ae
  have hmt := method_exc hc 541
  simp only [Nat.reduceAdd] at hmt
  simp only at hm
  obtain ⟨t, ht⟩ : ∃ t : ByteArray, ⟨(fltTxt (m0, q)).toArray⟩ = t := ⟨_, rfl⟩
  have hts : t.size ≤ 140737488355328 := by
   rw [← ht]
   show (fltTxt (m0, q)).toArray.size ≤ _
   simpa using fltTxt_le (m0, q) hm
  have htl : t.data.toList = fltTxt (m0, q) := by rw [← ht]
  have he := exc_error m0 q .nilIface
  rw [ht] at he
  go_enter Tryz.func47, Tryz.ntmps47
  go_wp2_with fail
  refine (he _).mono ?_
  rintro e w1 ⟨rfl, hk1⟩
  go_wp2_with (refine wpList_bytes rfl _ rfl t rfl ?_)
  intro va vm vc w2 hb2 hk2
  go_wp2_with fail
  go_ret
  refine ⟨va, vm, vc, rfl, ?_, hk1.then hk2⟩
  exact hb2.weak (fun i _ hi => Nat.le_trans hk1.size hi)
end Go.Proofs.YthehmlbolajljaaGreatDoor
