/- Part 28 of the proof: FltE. -/
import Derived.Test.YtnccjcbelcbgoaaGreatDoorA27
import Derived.MapKept
import Derived.Deep.RegionWith
set_option linter.unusedVariables false
set_option linter.unusedSimpArgs false
set_option linter.unusedSectionVars false
/- The text of an application exception, as the program tells it. -/
namespace Go.Proofs.YtnccjcbelcbgoaaGreatDoor
open Go Go.RowKit

/-- A new map. -/
theorem wpList_mkmap {w : World} {ops : Array Oper} {rest : List Oper} {o : Oper} {a : Act} {Q : Exit → Act → World → Prop} (hg : o.guard = none) (t : TypeId) (hop : o.op = Op.makeMap t none)
    (hK : ∀ w', w.alloc (.map #[] 0) = w' → wpList Tryz.prog ops Q rest (a.put o.dst (.map (some w.heap.size))) w') : wpList Tryz.prog ops Q (o :: rest) a w := by
  refine wpList_plain hg fun K hK' => ?_
  have hrun : (Instr.makeMap t none).run Tryz.prog w = .ok (.map (some w.heap.size)) (w.alloc (.map #[] 0)) := rfl
  unfold Oper.wp
  simp [execOp, hop, hrun, Result.andThen]
  exact hK' _ _ (hK _ rfl)

/-- An entry of a new key. -/
theorem wpList_ins {w : World} {ops : Array Oper} {rest : List Oper} {o : Oper} {a : Act} {Q : Exit → Act → World → Prop} (hg : o.guard = none) (m k x : Operand) (hop : o.op = Op.insert 289 m k x)
    (r : Nat) (hm : a.eval m = .map (some r)) (kk : Int) (hk : a.eval k = .int .i32 kk) (v : Value) (hx : a.eval x = v) (es : Array MapEntry) (n : Nat) (hb : w.heap[r]? = some (.map es n)) (hf : Instr.findNow (.int .i32) (.int .i32 kk) es.toList 0 = some none)
    (hK : ∀ w', w'.heap[r]? = some (.map (es.push ⟨.int .i32 kk, v, n⟩) (n + 1)) → Keep (r = ·) w w' → wpList Tryz.prog ops Q rest (a.put o.dst undef) w') : wpList Tryz.prog ops Q (o :: rest) a w := by
  refine wpList_plain hg fun K hK' => ?_
  have hrun : (Instr.mapUpdate 289 (.map (some r)) (.int .i32 kk) v).run Tryz.prog w = .ok () { w with heap := w.heap.setIfInBounds r (.map (es.push ⟨.int .i32 kk, v, n⟩) (n + 1)) } := by
    simp [Instr.mapUpdate, run_underlying Tryz.underlying289, MapKept.run_getObj_map hb, MapKept.run_checkKey Tryz.underlying21 (k := .int .i32 kk) rfl, MapKept.run_findKey Tryz.underlying21 hf, MapKept.run_setObj_map _ hb, Result.andThen]
  have hlt := lt_of_heap hb
  unfold Oper.wp
  simp [execOp, hop, hm, hk, hx, hrun, Result.andThen]
  refine hK' _ _ (hK _ (by simp [hlt]) ?_)
  exact ⟨rfl, rfl, rfl, by simp, fun i hi hne => by simp [Ne.symm (fun e => hne e.symm)]⟩

abbrev faultES : Array MapEntry := #[⟨.int .i32 0, .string ⟨#[117, 110, 107, 110, 111, 119, 110, 32, 97, 112, 112, 108, 105, 99, 97, 116, 105, 111, 110, 32, 101, 120, 99, 101, 112, 116, 105, 111, 110]⟩, 0⟩, ⟨.int .i32 1, .string ⟨#[117, 110, 107, 110, 111, 119, 110, 32, 109, 101, 116, 104, 111, 100]⟩, 1⟩, ⟨.int .i32 2, .string ⟨#[105, 110, 118, 97, 108, 105, 100, 32, 109, 101, 115, 115, 97, 103, 101, 32, 116, 121, 112, 101]⟩, 2⟩, ⟨.int .i32 3, .string ⟨#[119, 114, 111, 110, 103, 32, 109, 101, 116, 104, 111, 100, 32, 110, 97, 109, 101]⟩, 3⟩, ⟨.int .i32 4, .string ⟨#[98, 97, 100, 32, 115, 101, 113, 117, 101, 110, 99, 101, 32, 73, 68]⟩, 4⟩, ⟨.int .i32 5, .string ⟨#[109, 105, 115, 115, 105, 110, 103, 32, 114, 101, 115, 117, 108, 116]⟩, 5⟩, ⟨.int .i32 6, .string ⟨#[117, 110, 107, 110, 111, 119, 110, 32, 105, 110, 116, 101, 114, 110, 97, 108, 32, 101, 114, 114, 111, 114]⟩, 6⟩, ⟨.int .i32 7, .string ⟨#[117, 110, 107, 110, 111, 119, 110, 32, 112, 114, 111, 116, 111, 99, 111, 108, 32, 101, 114, 114, 111, 114]⟩, 7⟩, ⟨.int .i32 8, .string ⟨#[73, 110, 118, 97, 108, 105, 100, 32, 116, 114, 97, 110, 115, 102, 111, 114, 109]⟩, 8⟩, ⟨.int .i32 9, .string ⟨#[73, 110, 118, 97, 108, 105, 100, 32, 112, 114, 111, 116, 111, 99, 111, 108]⟩, 9⟩, ⟨.int .i32 10, .string ⟨#[85, 110, 115, 117, 112, 112, 111, 114, 116, 101, 100, 32, 99, 108, 105, 101, 110, 116, 32, 116, 121, 112, 101]⟩, 10⟩, ⟨.int .i32 11, .string ⟨#[118, 97, 108, 105, 100, 97, 116, 105, 111, 110, 32, 102, 97, 105, 108, 101, 100]⟩, 11⟩]

set_option maxRecDepth 100000 in
set_option maxHeartbeats 4000000 in
theorem fault_map (w : World) : Calls Tryz.prog 148 #[] w fun e w' => ∃ r, e = .returned (.map (some r)) ∧ w'.heap[r]? = some (.map faultES 12) ∧ Keep (fun _ => False) w w' := by
  go_enter Tryz.func148, Tryz.ntmps148
  go_wp2_with (first | refine wpList_mkmap rfl _ rfl ?_ | refine wpList_ins rfl (.tmp 1) _ _ rfl w.heap.size rfl 0 rfl _ rfl #[] 0 (heap_alloc_new w _) rfl ?_)
  intro w1 h1 k1
  have hk1 : Keep (fun _ => False) w w1 := ((Keep.refl _ w).alloc _).trans k1 (fun i hi e => by omega)
  clear k1
  obtain ⟨r, hr⟩ : ∃ r, w.heap.size = r := ⟨_, rfl⟩
  rw [hr] at h1 ⊢
  go_wp2_with (refine wpList_ins rfl (.tmp 1) _ _ rfl r rfl 1 rfl _ rfl _ 1 h1 rfl ?_)
  intro w2 h2 k2
  have hk2 : Keep (fun _ => False) w w2 := hk1.trans k2 (fun i hi e => by omega)
  clear h1 k2 hk1
  go_wp2_with (refine wpList_ins rfl (.tmp 1) _ _ rfl r rfl 2 rfl _ rfl _ 2 h2 rfl ?_)
  intro w3 h3 k3
  have hk3 : Keep (fun _ => False) w w3 := hk2.trans k3 (fun i hi e => by omega)
  clear h2 k3 hk2
  go_wp2_with (refine wpList_ins rfl (.tmp 1) _ _ rfl r rfl 3 rfl _ rfl _ 3 h3 rfl ?_)
  intro w4 h4 k4
  have hk4 : Keep (fun _ => False) w w4 := hk3.trans k4 (fun i hi e => by omega)
  clear h3 k4 hk3
  go_wp2_with (refine wpList_ins rfl (.tmp 1) _ _ rfl r rfl 4 rfl _ rfl _ 4 h4 rfl ?_)
  intro w5 h5 k5
  have hk5 : Keep (fun _ => False) w w5 := hk4.trans k5 (fun i hi e => by omega)
  clear h4 k5 hk4
  go_wp2_with (refine wpList_ins rfl (.tmp 1) _ _ rfl r rfl 5 rfl _ rfl _ 5 h5 rfl ?_)
  intro w6 h6 k6
  have hk6 : Keep (fun _ => False) w w6 := hk5.trans k6 (fun i hi e => by omega)
  clear h5 k6 hk5
  go_wp2_with (refine wpList_ins rfl (.tmp 1) _ _ rfl r rfl 6 rfl _ rfl _ 6 h6 rfl ?_)
  intro w7 h7 k7
  have hk7 : Keep (fun _ => False) w w7 := hk6.trans k7 (fun i hi e => by omega)
  clear h6 k7 hk6
  go_wp2_with (refine wpList_ins rfl (.tmp 1) _ _ rfl r rfl 7 rfl _ rfl _ 7 h7 rfl ?_)
  intro w8 h8 k8
  have hk8 : Keep (fun _ => False) w w8 := hk7.trans k8 (fun i hi e => by omega)
  clear h7 k8 hk7
  go_wp2_with (refine wpList_ins rfl (.tmp 1) _ _ rfl r rfl 8 rfl _ rfl _ 8 h8 rfl ?_)
  intro w9 h9 k9
  have hk9 : Keep (fun _ => False) w w9 := hk8.trans k9 (fun i hi e => by omega)
  clear h8 k9 hk8
  go_wp2_with (refine wpList_ins rfl (.tmp 1) _ _ rfl r rfl 9 rfl _ rfl _ 9 h9 rfl ?_)
  intro w10 h10 k10
  have hk10 : Keep (fun _ => False) w w10 := hk9.trans k10 (fun i hi e => by omega)
  clear h9 k10 hk9
  go_wp2_with (refine wpList_ins rfl (.tmp 1) _ _ rfl r rfl 10 rfl _ rfl _ 10 h10 rfl ?_)
  intro w11 h11 k11
  have hk11 : Keep (fun _ => False) w w11 := hk10.trans k11 (fun i hi e => by omega)
  clear h10 k11 hk10
  go_wp2_with (refine wpList_ins rfl (.tmp 1) _ _ rfl r rfl 11 rfl _ rfl _ 11 h11 rfl ?_)
  intro w12 h12 k12
  have hk12 : Keep (fun _ => False) w w12 := hk11.trans k12 (fun i hi e => by omega)
  clear h11 k12 hk11
  go_wp2_with fail
  go_ret
  exact ⟨r, rfl, h12, hk12⟩

theorem fault_find (q : Int) : Instr.findNow (.int .i32) (.int .i32 q) faultES.toList 0 = some (if 0 ≤ q ∧ q ≤ 11 then some (q.toNat, .string ⟨(faultTxt q).toArray⟩) else none) := by
  rcases fault_cases q with h | h | h
  · rw [if_neg (by omega)]
    simp [Instr.findNow, Instr.sameNow]
    repeat (rw [show (q == _) = false by simp; omega])
  · rw [if_neg (by omega)]
    simp [Instr.findNow, Instr.sameNow]
    repeat (rw [show (q == _) = false by simp; omega])
  · rcases h with rfl | rfl | rfl | rfl | rfl | rfl | rfl | rfl | rfl | rfl | rfl | rfl <;> rfl

theorem fault_look (w : World) (r : Nat) (q : Int) (h : w.heap[r]? = some (.map faultES 12)) : (Instr.lookup 289 (.map (some r)) (.int .i32 q) false).run Tryz.prog w = .ok (.string ⟨(faultTxt q).toArray⟩) w := by
  have hf := fault_find q
  have hz : (zeroValue 9).run Tryz.prog w = .ok (.string ⟨#[]⟩) w := by kernel_rfl
  by_cases hq : 0 ≤ q ∧ q ≤ 11
  · rw [if_pos hq] at hf
    simp [Instr.lookup, run_underlying Tryz.underlying289, MapKept.run_getObj_map h, MapKept.run_checkKey Tryz.underlying21 (k := .int .i32 q) rfl, MapKept.run_findKey Tryz.underlying21 hf, Result.andThen]
  · rw [if_neg hq] at hf
    have ht : faultTxt q = [] := faultTxt_out q (by omega)
    simp [Instr.lookup, run_underlying Tryz.underlying289, MapKept.run_getObj_map h, MapKept.run_checkKey Tryz.underlying21 (k := .int .i32 q) rfl, MapKept.run_findKey Tryz.underlying21 hf, hz, ht, Result.andThen]

set_option maxRecDepth 100000 in
set_option maxHeartbeats 4000000 in
/-- What an exception tells. -/
theorem exc_error (m : List UInt8) (q : Int) (ex : Value) (w : World) :
    Calls Tryz.prog 143 #[.agg (excC ⟨m.toArray⟩ q ex)] w fun e w' => e = .returned (.string ⟨(fltTxt (m, q)).toArray⟩) ∧ Keep (fun _ => False) w w' := by
  have hk0 : Keep (fun _ => False) w (w.alloc (.cells (excC ⟨m.toArray⟩ q ex) 103 (0, 0))) := (Keep.refl _ w).alloc _
  have hU0 := heap_alloc_new w (.cells (excC ⟨m.toArray⟩ q ex) 103 (0, 0))
  by_cases hm : m = []
  · subst hm
    have e : fltTxt ([], q) = faultTxt q := rfl
    rw [e]
    go_enter Tryz.func143, Tryz.ntmps143
    go_wp2_with fail
    obtain ⟨U, hU⟩ : ∃ U, w.heap.size = U := ⟨_, rfl⟩
    rw [hU] at hU0 ⊢
    generalize w.alloc (.cells (excC ⟨[].toArray⟩ q ex) 103 (0, 0)) = w1 at *
    have c1 := cellAt hU0 1
    simp at c1
    have HU := Lib.hid hU0
    go_region_with (go_at_call 148; refine (fault_map _).mono ?_; rintro e w2 ⟨r, rfl, hmap, hk2⟩; have hlook := fault_look w2 r q hmap; have d1 := (hk2.cell (p := ⟨U, 1, none⟩) (lt_of_heap HU.out) id).trans c1)
    all_goals
      go_wp2_with fail
      go_ret
      exact ⟨rfl, (hk0.drew).then hk2⟩
  · have e : fltTxt (m, q) = m := by unfold fltTxt; rw [if_neg hm]
    rw [e]
    obtain ⟨s, hs⟩ : ∃ s : ByteArray, ⟨m.toArray⟩ = s := ⟨_, rfl⟩
    have hs0 : ¬ s = ⟨#[]⟩ := by
      intro e0
      rw [← hs] at e0
      have : m.toArray = #[] := by simpa using e0
      exact hm (by simpa using this)
    rw [hs] at hk0 hU0 ⊢
    have hsl : s.toList.isEmpty = false := by
      rw [← hs, ByteArray.toList_eq]
      cases m with
      | nil => exact absurd rfl hm
      | cons x r => rfl
    go_enter Tryz.func143, Tryz.ntmps143
    go_wp2_with fail
    go_ret
    exact ⟨rfl, hk0⟩

end Go.Proofs.YtnccjcbelcbgoaaGreatDoor
