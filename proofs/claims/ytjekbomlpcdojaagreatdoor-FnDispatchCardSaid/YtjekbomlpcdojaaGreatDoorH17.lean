/- Part 17 of the proof: Sm0. -/
import Derived.Test.YtjekbomlpcdojaaGreatDoorH1
import Derived.MapKept
set_option linter.unusedVariables false
set_option linter.unusedSimpArgs false
set_option linter.unusedSectionVars false
set_option maxHeartbeats 16000000
namespace Go.Proofs.YtjekbomlpcdojaaGreatDoor
open Go Go.RowKit
abbrev strV (l : List UInt8) : Value := .string ⟨l.toArray⟩
theorem strV_inj {a b : List UInt8} (h : strV a = strV b) : a = b := by
 have h1 := Value.string.inj h
 have h2 := ByteArray.mk.inj h1
 simpa using h2
structure SMap (es : Array MapEntry) (n : Nat) (f : List UInt8 → Option Value) : Prop where
 st : MapKept.Stamped es n
 ky : ∀ x ∈ es.toList, MapKept.IsKey .string x.key
 mem : ∀ k v, f k = some v ↔ ∃ e ∈ es.toList, e.key = strV k ∧ e.val = v
theorem SMap.nil (n : Nat) : SMap #[] n (fun _ => none) := ⟨MapKept.stamped_empty n, by simp, by simp⟩
theorem SMap.find {es : Array MapEntry} {n : Nat} {f : List UInt8 → Option Value} (h : SMap es n f) (k : List UInt8) :
  ∃ r, Instr.findNow .string (strV k) es.toList 0 = some r ∧ r.map (·.2) = f k := by
 rcases MapKept.findNow_spec (d := .string) (k := strV k) trivial es.toList 0 h.ky with ⟨h1, h2⟩ | ⟨j, e, h1, h2, h3⟩
 ·refine ⟨none, h1, ?_⟩
  cases hf : f k with
  | none => rfl
  | some v =>
   obtain ⟨e, he, hk, _⟩ := (h.mem k v).1 hf
   exact absurd hk (h2 e he)
 ·exact ⟨_, h1, ((h.mem k e.val).2 ⟨e, List.mem_of_getElem? h2, h3, rfl⟩).symm⟩
theorem SMap.put {es : Array MapEntry} {n : Nat} {f : List UInt8 → Option Value} (h : SMap es n f) (k0 : List UInt8) (v : Value) {P : Program} {w : World} {r : Nat} {T kt et : TypeId} (hb : w.heap[r]? = some (.map es n)) (hm : P.underlying T = some (.map kt et)) (hd : P.underlying kt = some .string) :
  ∃ es' n', (Instr.mapUpdate T (.map (some r)) (strV k0) v).run P w = .ok () { w with heap := w.heap.setIfInBounds r (.map es' n') } ∧ SMap es' n' (fun k => if k = k0 then some v else f k) := by
 have hk : MapKept.IsKey .string (strV k0) := trivial
 rcases MapKept.findNow_spec (d := .string) (k := strV k0) hk es.toList 0 h.ky with ⟨h1, h2⟩ | ⟨j, e, h1, h2, h3⟩
 ·refine ⟨es.push ⟨strV k0, v, n⟩, n + 1, by simp [Instr.mapUpdate, run_underlying hm, MapKept.run_getObj_map hb, MapKept.run_checkKey hd hk, MapKept.run_findKey hd h1, MapKept.run_setObj_map _ hb, Result.andThen], MapKept.stamped_push h.st h2, ?_, ?_⟩
  ·intro x hx
   simp only [Array.toList_push, List.mem_append, List.mem_singleton] at hx
   rcases hx with hx | rfl
   ·exact h.ky x hx
   ·exact hk
  ·intro k u
   by_cases hkk : k = k0
   ·subst hkk
    rw [if_pos rfl]
    constructor
    ·intro hu
     exact ⟨⟨strV k, v, n⟩, by simp, rfl, Option.some.inj hu⟩
    ·rintro ⟨x, hx, hxk, hxv⟩
     simp only [Array.toList_push, List.mem_append, List.mem_singleton] at hx
     rcases hx with hx | rfl
     ·exact absurd hxk (h2 x hx)
     ·exact congrArg some hxv
   ·rw [if_neg hkk, h.mem]
    constructor
    ·rintro ⟨x, hx, hxk, hxv⟩
     exact ⟨x, by simp only [Array.toList_push, List.mem_append]; exact .inl hx, hxk, hxv⟩
    ·rintro ⟨x, hx, hxk, hxv⟩
     simp only [Array.toList_push, List.mem_append, List.mem_singleton] at hx
     rcases hx with hx | rfl
     ·exact ⟨x, hx, hxk, hxv⟩
     ·exact absurd (strV_inj hxk).symm hkk
 ·have hj : es[j]? = some e := by simpa using h2
  have hkey : ∀ e', es[j]? = some e' → ({ e' with key := strV k0, val := v } : MapEntry).key = e'.key := fun e' he' => by rw [hj] at he'; cases he'; exact h3.symm
  refine ⟨es.modify j (fun e => { e with key := strV k0, val := v }), n, by simp [Instr.mapUpdate, run_underlying hm, MapKept.run_getObj_map hb, MapKept.run_checkKey hd hk, MapKept.run_findKey hd h1, hj, h3, MapKept.run_keyThatStays hk, MapKept.run_setObj_map _ hb, Result.andThen], MapKept.stamped_modify h.st _ _ (fun _ _ => rfl) (fun e' _ he' => hkey e' he'), MapKept.isKey_modify h.ky _ _ hkey, ?_⟩
  have hmem : ∀ x, x ∈ (es.modify j (fun e => { e with key := strV k0, val := v } : MapEntry → MapEntry)).toList ↔ ∃ i, (if j = i then (es[i]?).map (fun e => ({ e with key := strV k0, val := v } : MapEntry)) else es[i]?) = some x := by
   intro x
   rw [List.mem_iff_getElem?]
   constructor
   ·rintro ⟨i, hi⟩
    exact ⟨i, by rw [Array.getElem?_toList, Array.getElem?_modify] at hi; exact hi⟩
   ·rintro ⟨i, hi⟩
    exact ⟨i, by rw [Array.getElem?_toList, Array.getElem?_modify]; exact hi⟩
  have hone : ∀ i x, es[i]? = some x → x.key = strV k0 → i = j := by
   intro i x hi hx
   have hnd := h.st.2.2
   have hil : i < (es.toList.map (·.key)).length := by
    have := (Array.getElem?_eq_some_iff.1 hi).1
    simpa using this
   refine (List.getElem?_inj hil hnd).1 ?_
   rw [List.getElem?_map, List.getElem?_map, Array.getElem?_toList, Array.getElem?_toList, hi, hj]
   simp [hx, h3]
  intro k u
  by_cases hkk : k = k0
  ·subst hkk
   rw [if_pos rfl]
   constructor
   ·intro hu
    exact ⟨{ e with key := strV k, val := v }, (hmem _).2 ⟨j, by rw [if_pos rfl, hj]; rfl⟩, rfl, Option.some.inj hu⟩
   ·rintro ⟨x, hx, hxk, hxv⟩
    obtain ⟨i, hi⟩ := (hmem x).1 hx
    by_cases hji : j = i
    ·subst hji
     rw [if_pos rfl, hj] at hi
     have : x.val = v := by rw [← Option.some.inj hi]
     rw [← hxv, this]
    ·rw [if_neg hji] at hi
     exact absurd (hone i x hi hxk).symm hji
  ·rw [if_neg hkk, h.mem]
   constructor
   ·rintro ⟨x, hx, hxk, hxv⟩
    obtain ⟨i, hi⟩ := List.mem_iff_getElem?.1 hx
    rw [Array.getElem?_toList] at hi
    refine ⟨x, (hmem x).2 ⟨i, ?_⟩, hxk, hxv⟩
    have hji : j ≠ i := by
     rintro rfl
     rw [hj] at hi
     cases hi
     exact hkk (strV_inj (hxk.symm.trans h3))
    rw [if_neg hji]
    exact hi
   ·rintro ⟨x, hx, hxk, hxv⟩
    obtain ⟨i, hi⟩ := (hmem x).1 hx
    by_cases hji : j = i
    ·subst hji
     rw [if_pos rfl, hj] at hi
     have : x.key = strV k0 := by rw [← Option.some.inj hi]
     exact absurd (strV_inj (hxk.symm.trans this)) hkk
    ·rw [if_neg hji] at hi
     exact ⟨x, by rw [List.mem_iff_getElem?]; exact ⟨i, by rw [Array.getElem?_toList]; exact hi⟩, hxk, hxv⟩
theorem SMap.get {es : Array MapEntry} {n : Nat} {f : List UInt8 → Option Value} (h : SMap es n f) (k : List UInt8) {P : Program} {w : World} {r : Nat} {T kt et : TypeId} {z : Value} (hb : w.heap[r]? = some (.map es n)) (hm : P.underlying T = some (.map kt et)) (hd : P.underlying kt = some .string) (hz : (zeroValue et).run P w = .ok z w) :
  (Instr.lookup T (.map (some r)) (strV k) true).run P w = .ok (.tuple #[(f k).getD z, .bool (f k).isSome]) w := by
 have hk : MapKept.IsKey .string (strV k) := trivial
 obtain ⟨q, hf, hq⟩ := h.find k
 rw [← hq]
 cases q with
 | none => simp [Instr.lookup, run_underlying hm, MapKept.run_getObj_map hb, MapKept.run_checkKey hd hk, MapKept.run_findKey hd hf, hz, Result.andThen]
 | some q => simp [Instr.lookup, run_underlying hm, MapKept.run_getObj_map hb, MapKept.run_checkKey hd hk, MapKept.run_findKey hd hf, hz, Result.andThen]
theorem wpList_mkmapS {w : World} {ops : Array Oper} {rest : List Oper} {o : Oper} {a : Act} {Q : Exit → Act → World → Prop} (hg : o.guard = none) (t : TypeId) (hop : o.op = Op.makeMap t none)
  (hK : ∀ w', w.alloc (.map #[] 0) = w' → wpList Tryz.prog ops Q rest (a.put o.dst (.map (some w.heap.size))) w') : wpList Tryz.prog ops Q (o :: rest) a w := by
 refine wpList_plain hg fun K hK' => ?_
 have hrun : (Instr.makeMap t none).run Tryz.prog w = .ok (.map (some w.heap.size)) (w.alloc (.map #[] 0)) := rfl
 unfold Oper.wp
 simp [execOp, hop, hrun, Result.andThen]
 exact hK' _ _ (hK _ rfl)
theorem wpList_putS {w : World} {ops : Array Oper} {rest : List Oper} {o : Oper} {a : Act} {Q : Exit → Act → World → Prop} (hg : o.guard = none) (T kt et : TypeId) (hT : Tryz.prog.underlying T = some (.map kt et)) (hkt : Tryz.prog.underlying kt = some .string) (m k x : Operand) (hop : o.op = Op.mapUpdate T m k x)
  (r : Nat) (hm : a.eval m = .map (some r)) (kk : List UInt8) (hk : a.eval k = strV kk) (v : Value) (hx : a.eval x = v) (es : Array MapEntry) (n : Nat) (f : List UInt8 → Option Value) (hb : w.heap[r]? = some (.map es n)) (hS : SMap es n f)
  (hK : ∀ w' es' n', w'.heap[r]? = some (.map es' n') → SMap es' n' (fun k => if k = kk then some v else f k) → Keep (r = ·) w w' → wpList Tryz.prog ops Q rest (a.put o.dst undef) w') : wpList Tryz.prog ops Q (o :: rest) a w := by
 refine wpList_plain hg fun K hK' => ?_
 obtain ⟨es', n', hrun, hS'⟩ := hS.put kk v hb hT hkt
 have hlt := lt_of_heap hb
 unfold Oper.wp
 simp [execOp, hop, hm, hk, hx, hrun, Result.andThen]
 refine hK' _ _ (hK _ es' n' (by simp [hlt]) hS' ?_)
 exact ⟨rfl, rfl, rfl, by simp, fun i hi hne => by simp [Ne.symm (fun e => hne e.symm)]⟩
end Go.Proofs.YtjekbomlpcdojaaGreatDoor
