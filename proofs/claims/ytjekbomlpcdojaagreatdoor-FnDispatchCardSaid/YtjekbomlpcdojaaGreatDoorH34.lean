/- Part 34 of the proof: Cmp9, Cmp10, Ci0, Ci1, Ci2, RpXCmp, SpC11. -/
import Derived.Test.YtjekbomlpcdojaaGreatDoorH29
import Derived.Test.YtjekbomlpcdojaaGreatDoorH33
import Derived.Test.YtjekbomlpcdojaaGreatDoorH14
import Derived.Test.YtjekbomlpcdojaaGreatDoorH26
import Derived.Test.YtjekbomlpcdojaaGreatDoorH16
import Derived.Deep.RegionWith
import Derived.Deep.Cut
import Derived.Deep.CutBlock
import Derived.Deep.RegionLaw
set_option linter.unusedVariables false
set_option linter.unusedSimpArgs false
set_option linter.unusedSectionVars false
set_option maxHeartbeats 16000000
namespace Go.Proofs.YtjekbomlpcdojaaGreatDoor
open Go Go.RowKit
theorem cnew_cells (w : World) (cs : Array Value) (T : TypeId) : ∀ j u, cs.toList[j]? = some u → (w.alloc (.cells cs T)).cell? ((⟨w.heap.size, 0, none⟩ : Addr).add j) = some u := by
 intro j u hj
 rw [Addr.add_lit, Nat.zero_add, cellAt (heap_alloc_new w _)]
 simpa using hj
theorem cown_shape {w : World} {B n size : Nat} {e : TypeId} {v : Value} {xs : List Value} (h : w.ownsRow B e size v n xs) : ∃ a m c, v = .slice a m c := by
 rcases h.2 with ⟨rfl, _⟩ | ⟨g, cap, cur, rfl, _⟩
 ·exact ⟨_, _, _, rfl⟩
 ·exact ⟨_, _, _, rfl⟩
section
variable {E : Env} {P MB B D : Nat} {a : Option Addr} {c : Cfg} {s s' : Cmp.St} {fv : Value} {sc sc' : List UInt8} {w w' : World}
def CSb (E : Env) (P MB B D : Nat) (a : Option Addr) (c : Cfg) (s : Cmp.St) (fv : Value) (sc : List UInt8) (w : World) (e : Ending) (w' : World) : Prop :=
 ∃ fv', e = .returned (.tuple #[.string ⟨#[]⟩, .nilIface]) ∧ CmpP E P MB B D a c (Cmp.sbS s) fv' sc w' ∧ Keep (fun i => P = i ∨ fv.ownBlock = some i) w w' ∧ (∀ j, fv'.ownBlock = some j → fv.ownBlock = some j ∨ w.heap.size ≤ j)
set_option maxRecDepth 100000 in
theorem cmp_structBegin (h : CmpP E P MB B D a c s fv sc w) (hd : s.outer.length < 1099511627776) :
  Calls Tryz.prog 237 #[.pointer (some ⟨P, 0, none⟩), ctxV] w (CSb E P MB B D a c s fv sc w) := by
 obtain ⟨_, _, _, c3, c4, _, _⟩ := h.cells
 have f3 := cell_free h.blk 3
 have f4 := cell_free h.blk 4
 have hlP := h.ltP
 obtain ⟨a0, m0, cc0, rfl⟩ := cown_shape h.row
 obtain ⟨fv, hfv⟩ : ∃ fv, Value.slice a0 m0 cc0 = fv := ⟨_, rfl⟩
 have HFV := hdd hfv
 obtain ⟨ii, hii, hiz, his, hib⟩ := int_info
 have hkA : Keep (fun _ => False) w (w.drew.alloc (.cells #[.int .i64 s.last] 3)) := ((Keep.refl _ w).drew).alloc _
 have HROW := hdd (row_keep h.row hkA (fun _ _ x => x))
 have hn1 := cnew_cells w.drew #[.int .i64 s.last] 3
 have hone1 : ∀ u ∈ [Value.int .i64 s.last], u.oneCell' = true := by
  intro u hu
  simp only [List.mem_cons, List.not_mem_nil, or_false] at hu
  subst hu; rfl
 have hmx : s.outer.length + 1 ≤ maxLen := by simp only [maxLen]; omega
 have hbase : E.base ≤ (w.drew.alloc (.cells #[.int .i64 s.last] 3)).heap.size := by have := h.base; have := hlP; simp; omega
 have HKA := hdd hkA
 have HH := hdd h
 clear h hkA hfv
 go_enter Tryz.func237, Tryz.ntmps237
 go_wp2_with fail
 go_region_law (refine step_append_own_at rfl (.tmp 10) (.tmp 15) 34 rfl E.base 3 ii (.int .i64 0) 1 8 Tryz.underlying34 hii hiz his hib rfl (by decide) (.slice a0 m0 cc0) s.outer.length (s.outer.map (Value.int .i64)) rfl HROW.out ⟨w.heap.size, 0, none⟩ 1 1 [.int .i64 s.last] rfl rfl hn1 hone1 hmx (by omega) hbase ?_; intro v' w2 hown hg hat; obtain ⟨va, vm, vc, rfl⟩ := cown_shape hown; have HOWN := hdd hown; have HG := hdd hg; have HAT := hdd hat; have hb2 := (hg.block P (by first | (simp; done) | (simp; omega)) (fun e => (HH.out.rowB P e.symm).1 rfl)).trans ((HKA.out.block P hlP id).trans HH.out.blk); have HB2 := hdd hb2; have f3 := cell_free hb2 3; have f4 := cell_free hb2 4; have c3 : w2.cell? ⟨P, 3, none⟩ = some (.slice a0 m0 cc0) := (by simp [cellAt hb2]); have c4 : w2.cell? ⟨P, 4, none⟩ = some (.int .i64 s.last) := (by simp [cellAt hb2]); clear hown hg hat hb2)
 all_goals
  have d4 : w2.cell? ⟨P, 4, none⟩ = some (.int .i64 s.last) := by simp [cellAt HB2.out]
  go_wp2_with fail
  go_ret2
  have hown := HOWN.out
  have hg := HG.out
  have hat := HAT.out
  have hs0 : w.heap.size ≤ w2.heap.size := Nat.le_trans HKA.out.size hg.size
  have hk2 : Keep (fun i => fv.ownBlock = some i) w w2 := (HKA.out.weak (fun _ _ x => x.elim)).grown hg (fun k e _ => by rw [← HFV.out]; exact e)
  have hk4 : Keep (fun i => P = i ∨ fv.ownBlock = some i) w ((w2.setCell ⟨P, 3, none⟩ (.slice va vm vc)).setCell ⟨P, 4, none⟩ (.int .i64 0)) := ((hk2.weak (fun _ _ x => .inr x)).set P 3 (fun _ => .inl rfl) _).set P 4 (fun _ => .inl rfl) _
  have hkP : Keep (fun i => P = i) w2 ((w2.setCell ⟨P, 3, none⟩ (.slice va vm vc)).setCell ⟨P, 4, none⟩ (.int .i64 0)) := ((Keep.refl _ w2).set P 3 (fun _ => rfl) _).set P 4 (fun _ => rfl) _
  have hb4 := heap_set_same (i := 4) (heap_set_same (i := 3) HB2.out (.slice va vm vc)) (.int .i64 0)
  have hH := HH.out
  have hnew : ∀ j, (Value.slice va vm vc).ownBlock = some j → fv.ownBlock = some j ∨ w.heap.size ≤ j := fun j e => by
   rcases hat with e2 | e2
   ·left; rw [← HFV.out, ← e2]; exact e
   ·right
    rw [e2] at e
    cases e
    exact HKA.out.size
  have hD := hH.mem.ltD
  have hMB := hH.mem.lts
  have hrb : ∀ i, fv.ownBlock = some i → i ≠ P ∧ i ≠ MB ∧ i ≠ B ∧ i ≠ D := fun i e => hH.rowB i (by rw [HFV.out]; exact e)
  refine ⟨_, rfl, ⟨hH.sc64, by simpa [Cmp.sbS] using hb4, ?_, ?_, ⟨show (-32768 : Int) ≤ 0 by decide, show (0 : Int) ≤ 32767 by decide⟩, ?_, ?_, ?_, ?_, hH.cok, hH.base, hH.neM, hH.neB, hH.neD⟩, ?_, ?_⟩
  ·have := row_keep hown hkP (fun i e x => by
    subst x
    rcases hnew _ e with e2 | e2
    ·exact (hrb _ e2).1 rfl
    ·omega)
   simpa [Cmp.sbS] using this
  ·intro i e
   rcases hnew i e with e2 | e2
   ·exact hrb i e2
   ·exact ⟨by omega, by omega, by omega, by omega⟩
  ·intro x hx
   simp only [Cmp.sbS, List.mem_append, List.mem_cons, List.not_mem_nil, or_false] at hx
   rcases hx with hx | rfl
   ·exact hH.out16 x hx
   ·exact hH.last16
  ·exact hH.mem.keep hk4 (fun e => e.elim (fun e => hH.neM e) (fun e => (hrb MB e).2.1 rfl)) (fun e => e.elim (fun e => hH.neB e) (fun e => (hrb B e).2.2.1 rfl)) (fun e => e.elim (fun e => hH.neD e) (fun e => (hrb D e).2.2.2 rfl))
  ·exact hH.glob.keep hk4 (fun i e => e.elim (fun e => by have := hH.base; omega) (fun e => (hH.row.lt i (by rw [HFV.out]; exact e)).1))
  ·have h1 : CfgAt (fun i => CM P B fv i ∨ CM P B (.slice va vm vc) i) w a c := (hH.cfg).weak (fun i hi x => by
    rw [HFV.out]
    rcases x with x | x
    ·exact x
    ·rcases x with x | x | x
     ·exact .inl x
     ·exact .inr (.inl x)
     ·rcases hnew i x with e2 | e2
      ·exact .inr (.inr e2)
      ·omega)
   exact (h1.keep hk4 (fun i e => .inl (e.elim (fun e => .inr (.inl e)) (fun e => .inr (.inr e))))).weak (fun i _ x => .inr x)
  ·rw [HFV.out]; exact hk4
  ·rw [HFV.out]; exact hnew
def CSe (E : Env) (P MB B D : Nat) (a : Option Addr) (c : Cfg) (s : Cmp.St) (fv : Value) (sc : List UInt8) (w : World) (e : Ending) (w' : World) : Prop :=
 ∃ fv', e = .returned .nilIface ∧ CmpP E P MB B D a c (Cmp.seS s) fv' sc w' ∧ Keep (fun i => P = i) w w' ∧ (∀ j, fv'.ownBlock = some j → fv.ownBlock = some j)
set_option maxRecDepth 100000 in
theorem cmp_structEnd (h : CmpP E P MB B D a c s fv sc w) (hd : 1 ≤ s.outer.length) :
  Calls Tryz.prog 238 #[.pointer (some ⟨P, 0, none⟩), ctxV] w (CSe E P MB B D a c s fv sc w) := by
 obtain ⟨rem, last, outer, pend, val⟩ := s
 obtain ⟨o', x, rfl⟩ : ∃ o' x, outer = o' ++ [x] := ⟨outer.dropLast, outer.getLast (by intro e; rw [e] at hd; simp at hd), (List.dropLast_concat_getLast _).symm⟩
 obtain ⟨k, hk⟩ : ∃ k, o'.length = k := ⟨_, rfl⟩
 rcases h.row.2 with ⟨hn, hn2⟩ | ⟨g, cap, cur, hfv, hbg, hg, hnc, hcm, hcs, htake⟩
 ·simp at hn2
 subst hfv
 have hlen : (o' ++ [x]).length = k + 1 := by simp [hk]
 have hn3 : ({ rem := rem, last := last, outer := o' ++ [x], pend := pend, val := val } : Cmp.St).outer.length = k + 1 := hlen
 rw [hn3] at h hnc htake
 have hkc : k + 1 ≤ cap := hnc
 have hcx : w.cell? ⟨g, k, none⟩ = some (.int .i64 x) := by
  have h1 := h.row.cells (g := g) rfl k (.int .i64 x) (by simp [← hk])
  rw [Addr.add_lit] at h1
  simpa using h1
 obtain ⟨_, _, _, c3, c4, _, _⟩ := h.cells
 have f3 := cell_free h.blk 3
 have f4 := cell_free h.blk 4
 have HH := hdd h
 have HT := hdd (And.intro hg (And.intro hbg (And.intro hcm (And.intro hcs htake))))
 have HK := hdd hk
 have hmax : (cap : Int) ≤ 9223372036854775807 := by simp only [maxLen] at hcm; omega
 have hw : IntKind.i64.wrap (((k + 1 : Nat) : Int) - 1) = (k : Nat) := by rw [show (((k + 1 : Nat) : Int) - 1) = (k : Nat) by omega]; exact IntWalk.i64_in _ (by omega)
 clear h hg hbg hcm hcs htake hk hnc hlen hn3 hd
 go_enter Tryz.func238, Tryz.ntmps238
 go_wp2_with fail
 go_cut [] from 13 to 27 (fun wx => wx.heap[P]? = some (.cells (cmpC MB a (.slice (some ⟨g, 0, none⟩) (k + 1) cap) x val pend sc).toArray 256 (0, 0)) ∧ Keep (fun i => P = i) w wx)
 case first =>
  go_region
  all_goals
   go_wp2_with fail
   go_simp
   go_meet
   have hb := heap_set_same (i := 4) HH.out.blk (.int .i64 x)
   have hk := (Keep.refl (fun i => P = i) w).set P 4 (fun _ => rfl) (.int .i64 x)
   first
   | exact ⟨(show (w.setCell ⟨P, 4, none⟩ (.int .i64 x)).heap[P]? = _ by simpa using hb), hk.drew⟩
   | exact ⟨by simpa using hb, ((Keep.refl (fun i => P = i) w).drew).set P 4 (fun _ => rfl) (.int .i64 x)⟩
 case rest =>
 obtain ⟨hb, hk⟩ := hcut
 have HB := hdd hb
 have HKC := hdd hk
 have c3' : wc.cell? ⟨P, 3, none⟩ = some (.slice (some ⟨g, 0, none⟩) (k + 1) cap) := by simp [cellAt hb]
 have f3' := cell_free hb 3
 clear hb hk
 go_wp2_with fail
 go_region
 all_goals
  go_wp2_with fail
  go_ret
  have hH := HH.out
  obtain ⟨hg, hbg, hcm, hcs, htake⟩ := HT.out
  have hgP : g ≠ P := (hH.rowB g rfl).1
  have hb5 := heap_set_same (i := 3) HB.out (.slice (some ⟨g, 0, none⟩) k cap)
  have hk5 : Keep (fun i => P = i) w (wc.setCell ⟨P, 3, none⟩ (.slice (some ⟨g, 0, none⟩) k cap)).drew := (HKC.out.set P 3 (fun _ => rfl) _).drew
  have hg5 : (wc.setCell ⟨P, 3, none⟩ (.slice (some ⟨g, 0, none⟩) k cap)).drew.heap[g]? = some (.cells cur 3 (0, 0)) := (hk5.block g (lt_of_heap hg) (fun e => hgP e.symm)).trans hg
  have hdl : (o' ++ [x]).dropLast = o' := by simp
  have hse : Cmp.seS ⟨rem, last, o' ++ [x], pend, val⟩ = ⟨rem, x, o', pend, val⟩ := by simp [Cmp.seS]
  refine ⟨.slice (some ⟨g, 0, none⟩) k cap, rfl, ?_, hk5, fun j e => e⟩
  rw [hse]
  refine ⟨hH.sc64, (show (wc.setCell ⟨P, 3, none⟩ (.slice (some ⟨g, 0, none⟩) k cap)).heap[P]? = _ by simpa using hb5), ?_, fun i e => hH.rowB i e, hH.out16 x (by simp), fun y hy => hH.out16 y (by simp [hy]), hH.mem.keep hk5 hH.neM (fun e => hH.neB e) hH.neD, hH.glob.keep hk5 (fun i e => by have := hH.base; omega), ?_, hH.cok, hH.base, hH.neM, hH.neB, hH.neD⟩
  ·refine ⟨by simp, .inr ⟨g, cap, cur, by rw [HK.out], hbg, hg5, by rw [HK.out]; omega, hcm, hcs, ?_⟩⟩
   have := congrArg (List.take k) htake
   rw [List.take_take] at this
   rw [HK.out, Nat.mul_one]
   rw [show min k ((k + 1) * 1) = k by omega] at this
   rw [this, List.map_append, List.take_append_of_le_length (by simp [HK.out]), List.take_of_length_le (by simp [HK.out])]
  ·exact ((hH.cfg).keep hk5 (fun i e => .inr (.inl e))).weak (fun i _ x => x)
theorem cmp_fieldEnd (p c : Value) (w : World) : Calls Tryz.prog 224 #[p, c] w fun e w' => e = .returned .nilIface ∧ w = w' := by
 go_enter Tryz.func224, Tryz.ntmps224
 go_wp2_with fail
 go_ret
 exact ⟨rfl, rfl⟩
theorem cmp_mapEnd (p c : Value) (w : World) : Calls Tryz.prog 231 #[p, c] w fun e w' => e = .returned .nilIface ∧ w = w' := by
 go_enter Tryz.func231, Tryz.ntmps231
 go_wp2_with fail
 go_ret
 exact ⟨rfl, rfl⟩
theorem cmp_listEnd (p c : Value) (w : World) : Calls Tryz.prog 229 #[p, c] w fun e w' => e = .returned .nilIface ∧ w = w' := by
 go_enter Tryz.func229, Tryz.ntmps229
 go_wp2_with fail
 go_ret
 exact ⟨rfl, rfl⟩
theorem cmp_setEnd (p c : Value) (w : World) : Calls Tryz.prog 235 #[p, c] w fun e w' => e = .returned .nilIface ∧ w = w' := by
 go_enter Tryz.func235, Tryz.ntmps235
 go_wp2_with fail
 go_ret
 exact ⟨rfl, rfl⟩
theorem cmp_msgEnd (p c : Value) (w : World) : Calls Tryz.prog 233 #[p, c] w fun e w' => e = .returned .nilIface ∧ w = w' := by
 go_enter Tryz.func233, Tryz.ntmps233
 go_wp2_with fail
 go_ret
 exact ⟨rfl, rfl⟩
end
theorem step_store_row {P : Program} {ops : Array Oper} {o : Oper} {a : Act} {w : World} {K : Act → World → Prop} {Q : Exit → Act → World → Prop} {E : Prop} (hgd : o.guard = none) (ty : TypeId) (x y : Operand) (ho : o.op = .store ty x y)
  (g : Nat) (cells : Array Value) (hx : a.eval x = .pointer (some ⟨g, 0, none⟩)) (hy : a.eval y = .agg cells)
  (t : TypeId) (old : Array Value) (hg : w.heap[g]? = some (.cells old t (0, 0))) (hi : (P.info? ty).map (·.size) = some cells.size)
  (hold : old.size = cells.size) (h1 : cells.all (·.oneCell') = true)
  (h : K (a.put o.dst undef) (w.setRow g cells)) : if Region.wanted o (yielded ops a.tmps) = true then Oper.wp P o a w K Q else E := by
 have hw : Region.wanted o (yielded ops a.tmps) = true := by simp [Region.wanted, hgd]
 rw [if_pos hw]
 exact wp_store_row ty x y ho g cells hx hy t old hg hi hold h1 h
theorem exec_load_row {P : Program} {e : Operand → Value} {w : World} {dst : Option Tmp} {tt : TypeId} {pos : String} {after : Array Edge} (ty : TypeId) (x : Operand)
  (g : Nat) (hx : e x = .pointer (some ⟨g, 0, none⟩)) (t : TypeId) (cs : Array Value) (fr : Nat × Nat) (d : TypeDesc) (hg : w.heap[g]? = some (.cells cs t fr))
  (hu : P.underlying ty = some d) (hd : (match d with | .struct _ | .array _ _ => true | _ => false) = true) (hi : (P.info? ty).map (·.size) = some cs.size) :
  (execOp e ⟨dst, .load ty x, tt, pos, after, none⟩).run P w = .ok (.value (.agg cs)) w := by
 unfold execOp
 simp only [hx, Instr.loadAt, Instr.sureAddr, Sem.run_bind, Sem.run_pure, Result.andThen_ok, run_loadVar_row w g t ty cs fr d hg hu hd hi]
section
variable {E : Env} {P MB B D : Nat} {a : Option Addr} {c : Cfg} {s s' : Cmp.St} {fv : Value} {sc sc' : List UInt8} {w w' : World}
theorem cmp_over {fv' : Value} {w2 w3 : World} {N M : Nat → Prop} (h : CmpP E P MB B D a c s fv sc w) (h2 : CmpP E P MB B D a c s' fv' sc' w2) (k2 : Keep M w w2) (k : Keep N w2 w3) (hM : ∀ i, i < w.heap.size → M i → CM P B fv i) (hfv : ∀ i, fv'.ownBlock = some i → fv.ownBlock = some i ∨ w.heap.size ≤ i)
  (hN : ∀ i, N i → w.heap.size ≤ i) (hF : ∀ i, fv'.ownBlock = some i → ¬ N i) : CmpP E P MB B D a c s' fv' sc' w3 := by
 have n1 : ∀ i, i < w.heap.size → ¬ N i := fun i hi x => by have := hN i x; omega
 have hl := h.mem.lts
 have hE := h.glob.size
 refine h2.keep k (n1 _ h.ltP) (n1 _ hl.1) (n1 _ hl.2) (n1 _ h.mem.ltD) hF (fun i x => by have := hN i x; omega) ?_
 have h1 : CfgAt (fun i => CM P B fv i ∨ M i ∨ N i ∨ CM P B fv' i) w a c := h.cfg.weak (fun i hi x => by
  rcases x with x | x | x | x
  ·exact x
  ·exact hM i hi x
  ·exact absurd x (n1 i hi)
  ·rcases x with x | x | x
   ·exact .inl x
   ·exact .inr (.inl x)
   ·rcases hfv i x with y | y
    ·exact .inr (.inr y)
    ·omega)
 exact ((h1.keep k2 (fun i x => .inr (.inl x))).keep k (fun i x => .inr (.inr (.inl x)))).weak (fun i _ x => .inr (.inr (.inr x)))
def CUuid (E : Env) (P MB B D : Nat) (a : Option Addr) (c : Cfg) (s : Cmp.St) (fv : Value) (w : World) (e : Ending) (w' : World) : Prop :=
 ∃ (l : List UInt8) (ev : Value) (sc' : List UInt8), e = .returned (.tuple #[.agg (bcells l).toArray, ev]) ∧ ErrAt E w.heap.size w' ev (fullK 16 s.rem) ∧ CmpP E P MB B D a c (s.at (s.rem.drop 16)) fv sc' w' ∧ Keep (MB2 P B) w w' ∧ l.length = 16 ∧ (16 ≤ s.rem.length → l = s.rem.take 16)
set_option maxRecDepth 100000 in
theorem cmp_readUUID (h : CmpP E P MB B D a c s fv sc w) :
  Calls Tryz.prog 239 #[.pointer (some ⟨P, 0, none⟩), ctxV] w (CUuid E P MB B D a c s fv w) := by
 obtain ⟨Z, hZ⟩ : ∃ Z : Array Value, #[.int .u8 0, .int .u8 0, .int .u8 0, .int .u8 0, .int .u8 0, .int .u8 0, .int .u8 0, .int .u8 0, .int .u8 0, .int .u8 0, .int .u8 0, .int .u8 0, .int .u8 0, .int .u8 0, .int .u8 0, .int .u8 0] = Z := ⟨_, rfl⟩
 have hZb : Z = (bcells (List.replicate 16 0)).toArray := by rw [← hZ]; rfl
 have hZs : Z.size = 16 := by rw [← hZ]; rfl
 have HZs := hdd hZs
 have HZb := hdd hZb
 have HZ := hdd hZ
 clear hZ hZb hZs
 have hBU := h.mem.lts
 have hltP := h.ltP
 obtain ⟨c0, _, _, _, _, _, _⟩ := h.cells
 have hsz0 : (Tryz.prog.info? 243).map (·.size) = some 16 := by kernel_rfl
 have HSZ := hdd hsz0
 clear hsz0
 go_enter Tryz.func239, Tryz.ntmps239
 go_wp2_with fail
 rw [HZ.out]
 have hkA : Keep (fun _ => False) w (w.alloc (.cells Z 243)) := (Keep.refl _ w).alloc _
 have hUA : (w.alloc (.cells Z 243)).heap[w.heap.size]? = some (.cells Z 243 (0, 0)) := heap_alloc_new w _
 have hAs : (w.alloc (.cells Z 243)).heap.size = w.heap.size + 1 := by simp
 obtain ⟨U, hU⟩ : ∃ U, w.heap.size = U := ⟨_, rfl⟩
 generalize w.alloc (.cells Z 243) = wA at *
 rw [hU] at hUA hltP hAs ⊢
 have hA := h.fresh hkA
 refine (cmp_readFull hA 16 64 (by omega) (by omega) (by omega)).mono ?_
 rintro e w1 ⟨ev, sc1, rfl, he1, h1, hk1, ht⟩
 have hU1 : w1.heap[U]? = some (.cells Z 243 (0, 0)) := (hk1.block U (lt_of_heap hUA) (by rintro (e | e) <;> omega)).trans hUA
 have hkw1 : Keep (MB2 P B) w w1 := (hkA.weak (fun _ _ x => x.elim)).then hk1
 have HU1 := hdd hU1
 have hUlt := lt_of_heap hU1
 have HKW1 := hdd hkw1
 clear hUA hU1 c0
 have HH := hdd h
 have HUS := hdd hU
 by_cases hl : 16 ≤ s.rem.length
 ·have hev : ev = .nilIface := by rw [show endK 16 (s.at s.rem).rem = endK 16 s.rem from rfl] at he1; rw [endK, if_pos hl] at he1; exact he1.isNil
  subst hev
  have hb := h1.blk
  have ht16 : sc1.take 16 = s.rem.take 16 := by
   have h9 := ht
   rw [show min 16 s.rem.length = 16 by omega] at h9
   exact h9
  have HL := hdd hl
  obtain ⟨V, hV⟩ : ∃ V : List Value, bcells (s.rem.take 16) = V := ⟨_, rfl⟩
  have hVl : V.length = Nat.min 16 16 := by rw [← hV]; simp; omega
  have hVo : ∀ v ∈ V, v.oneCell' = true := by
   intro v hv; rw [← hV] at hv; obtain ⟨x, _, rfl⟩ := List.mem_map.1 hv; rfl
  have hVs : ∀ j v, V[j]? = some v → w1.cell? ((⟨P, 10, none⟩ : Addr).add j) = some v := by
   intro j v hj
   rw [← hV] at hj
   obtain ⟨hj1, hj2⟩ := List.getElem?_eq_some_iff.1 hj
   simp at hj1
   have := cblk_cells hb ht16 j (by simp; omega)
   rw [Addr.add_lit, this, ← hj2]
   simp [bcells]
  have hU9 : w1.heap[U]? = some (.cells (bcells (List.replicate 16 0)).toArray 243 (0, 0)) := by rw [← HZb.out]; exact HU1.out
  obtain ⟨R, hR⟩ : ∃ R : List Value, bcells (List.replicate 16 0) = R := ⟨_, rfl⟩
  rw [hR] at hU9
  have hRl : R.length = 16 := by rw [← hR]; simp
  have hsp : splice R 0 V = V := by simp [splice]; rw [hRl, hVl]; decide
  have HSZV : Hid ((Tryz.prog.info? 243).map (·.size) = some V.toArray.size) := hdd (by
   have hv16 : V.toArray.size = 16 := by simp [hVl]
   rw [hv16]; exact HSZ.out)
  have HVL := hdd hVl
  have HVO := hdd hVo
  have HVS := hdd hVs
  have HU9 := hdd hU9
  have HFIT := hdd (show 0 + V.length ≤ R.length by rw [hVl, hRl]; decide)
  have HSP := hdd hsp
  have HV := hdd hV
  have HALL : Hid (V.toArray.all (·.oneCell') = true) := hdd (by rw [← hV]; exact bcells_one _)
  have HH1 := hdd h1
  have hmin : min 16 s.rem.length = 16 := by omega
  have hsA1 : w.heap.size + 1 ≤ w1.heap.size := by have := hk1.size; omega
  have HSA1 := hdd hsA1
  have HKW1' := hdd hkw1
  rw [show min 16 (s.at s.rem).rem.length = 16 from hmin]
  clear hV hVl hVo hVs hU9 hR hRl hsp ht ht16 hb he1 hl h1 hmin hsA1
  go_wp2_with (refine wpList_copy_row rfl (.tmp 24) (.tmp 25) 24 24 rfl 5 Tryz.underlying24 (by kernel_rfl) U 0 16 16 ⟨P, 10, none⟩ 16 64 rfl rfl R 243 HU9.out V HVL.out HVS.out HFIT.out HVO.out ?_)
  intro w2 Hw2
  have hU2 : Hid (w2.heap[U]? = some (.cells V.toArray 243 (0, 0))) := by
   show _ = _
   rw [Hw2.out.1, setRow_heap _ _ _ _ _ _ HU9.out, HSP.out]
  have hk12 : Keep (fun i => U = i) w1 w2 := ((Keep.refl _ w1).setRow U (fun _ => rfl) _).eqv Hw2.out
  have hUs2 := HUS.out
  have hkw2 : Keep (MB2 P B) w w2 := HKW1'.out.trans hk12 (fun i hi e => by omega)
  have HKW := hdd hkw2
  have HP := hdd (cmp_over HH.out HH1.out HKW1'.out hk12 (fun i _ x => x.elim .inl (fun y => .inr (.inl y))) (fun i e => .inl e) (fun i e => by omega) (fun i e x => by have := (HH.out.row.lt i e).2; omega))
  have HGL := hdd HP.out.glob
  have HSZW : Hid (w.heap.size + 1 ≤ w2.heap.size) := hdd (Nat.le_trans HSA1.out hk12.size)
  have hUlt2 := lt_of_heap hU2.out
  have HUW : Hid (∀ W, Keep (fun _ => False) w2 W → W.heap[U]? = some (.cells V.toArray 243 (0, 0))) := hdd (fun W k => (k.block U hUlt2 id).trans hU2.out)
  have HK0 : Hid (fullK 16 s.rem = 0) := hdd (by simp [fullK]; exact HL.out)
  clear hk12 hkw2
  go_wp2_with fail
  have hkd : Keep (fun _ => False) w2 w2.drew := (Keep.refl _ w2).drew
  refine wp_region_quiet (fun W => W.heap[U]? = some (.cells V.toArray 243 (0, 0))) [3] (by kernel_rfl) ?_
  have HUD := HUW.out _ hkd
  refine wpAnyP_plain 1 (some 28) .nilIface rfl (by kernel_rfl) (by kernel_rfl) (by kernel_rfl) (by kernel_rfl) (fun _ _ _ h => h) (fun W => ?_) (fun _ => HUD) ?_
  ·go_simp
  try simp only [Act.put, List.setIfInBounds_toArray, List.set_cons_zero, List.set_cons_succ]
  refine wpAnyP_load 0 [3] (some 27) (.agg V.toArray) rfl (by kernel_rfl) (by kernel_rfl) (by kernel_rfl) (by kernel_rfl) (fun _ _ _ h => h) (fun W hW => exec_load_row _ _ U rfl 243 V.toArray (0, 0) _ hW Tryz.underlying243 rfl HSZV.out) HUD ?_
  try simp only [Act.put, List.setIfInBounds_toArray, List.set_cons_zero, List.set_cons_succ]
  refine wpAnyP_ready [2] (by kernel_rfl) (by simp) ?_
  refine AllReadyP.cons (i := 2) (o := ⟨some 29, _, _, _, _, none⟩) rfl (fun K hK => ?_) ?_
  ·go_simp
   refine (newPExc (w := w2.drew) (HGL.out.keep hkd (fun _ x => x.elim)) (n0 := w.heap.size + 1) HSZW.out ((ErrAt.nil E (w.heap.size + 1) w2).eqv (Eqv.drew w2)) (by decide)).mono ?_
   rintro e w4 ⟨v4, rfl, hv4, hk4⟩
   have hk4w : Keep (fun _ => False) w2 w4 := hkd.then hk4
   refine hK.out _ _ (fun _ => HUW.out _ hk4w) ?_
   clear hK K
   try simp only [Act.put, List.setIfInBounds_toArray, List.set_cons_zero, List.set_cons_succ]
   refine wpAnyP_ready [3] (by kernel_rfl) (by simp) ?_
   refine AllReadyP.cons (i := 3) (o := ⟨none, _, _, _, _, none⟩) rfl (fun K hK => ?_) ?_
   ·refine step_store_row rfl 243 (.tmp 4) (.tmp 27) rfl U V.toArray rfl rfl 243 V.toArray (HUW.out _ hk4w) HSZV.out rfl HALL.out ?_
    refine hK.out _ _ (fun q => quiet_no q (by kernel_rfl)) ?_
    clear hK K
    try simp only [Act.put, List.setIfInBounds_toArray, List.set_cons_zero, List.set_cons_succ]
    refine wpAnyP_plain 4 (some 5) v4 rfl (by kernel_rfl) (by kernel_rfl) (by kernel_rfl) (by kernel_rfl) (fun _ _ _ h => h) (fun W => ?_) (fun q => quiet_no q (by kernel_rfl)) ?_
    ·go_simp
    try simp only [Act.put, List.setIfInBounds_toArray, List.set_cons_zero, List.set_cons_succ]
    refine wpAnyP_done (by kernel_rfl) ?_ _
    go_wp2_with fail
    have hU9 : (w4.setRow U V.toArray).heap[U]? = some (.cells V.toArray 243 (0, 0)) := setRow_heap _ _ _ _ _ _ (HUW.out _ hk4w)
    have hl9 := run_loadVar_row (P := Tryz.prog) (w4.setRow U V.toArray) U 243 243 V.toArray (0, 0) _ hU9 Tryz.underlying243 rfl HSZV.out
    have hkr : Keep (fun i => U = i) w4 (w4.setRow U V.toArray) := (Keep.refl _ w4).setRow U (fun _ => rfl) _
    have hUs := HUS.out
    have hkw4 : Keep (MB2 P B) w (w4.setRow U V.toArray) := (HKW.out.then (hk4w.weak (fun _ _ x => x.elim))).trans hkr (fun i hi e => by omega)
    refine bodyPost_ret (v := .tuple #[.agg V.toArray, v4]) (by simp [results, Tryz.results239, asAddr, hl9]) rfl ?_
    have hp9 := cmp_over HH.out ((HP.out).fresh hk4w) (HKW.out.then (hk4w.weak (fun _ _ x => x.elim))) hkr (fun i _ x => x.elim .inl (fun y => .inr (.inl y))) (fun i e => .inl e) (fun i e => by omega) (fun i e x => by have := (HH.out.row.lt i e).2; omega)
    exact ⟨s.rem.take 16, v4, _, by rw [HV.out], by rw [HK0.out]; exact (hv4.keep hkr (fun i hi e => by omega)).mono (Nat.le_succ _), hp9, hkw4, by simp; have := HL.out; omega, fun _ => rfl⟩
   ·exact AllReadyP.nil
  ·exact AllReadyP.nil
 ·have HL := hdd hl
  obtain ⟨t, x, rfl⟩ := he1.held (by unfold endK; rw [if_neg hl]; split <;> decide)
  have HUW : Hid (∀ W, Keep (fun _ => False) w1 W → W.heap[U]? = some (.cells Z 243 (0, 0))) := hdd (fun W k => (k.block U hUlt id).trans HU1.out)
  have HSZV := hdd (HSZ.out.trans (by rw [HZs.out]) : (Tryz.prog.info? 243).map (·.size) = some Z.size)
  have HALL : Hid (Z.all (·.oneCell') = true) := hdd (by rw [HZb.out]; exact bcells_one _)
  have HGL := hdd h1.glob
  have hsA : w.heap.size + 1 ≤ wA.heap.size := by omega
  have HSZW : Hid (w.heap.size + 1 ≤ w1.heap.size) := hdd (by have := hk1.size; omega)
  have HE := hdd (he1.mono (n1 := w.heap.size + 1) hsA)
  have HKW := hdd hkw1
  have HP := hdd h1
  clear hl he1 ht h1
  go_wp2_with fail
  have hkd : Keep (fun _ => False) w1 w1.drew := (Keep.refl _ w1).drew
  refine wp_region_quiet (fun W => W.heap[U]? = some (.cells Z 243 (0, 0))) [3] (by kernel_rfl) ?_
  have HUD := HUW.out _ hkd
  refine wpAnyP_plain 1 (some 28) (.iface t x) rfl (by kernel_rfl) (by kernel_rfl) (by kernel_rfl) (by kernel_rfl) (fun _ _ _ h => h) (fun W => ?_) (fun _ => HUD) ?_
  ·go_simp
  try simp only [Act.put, List.setIfInBounds_toArray, List.set_cons_zero, List.set_cons_succ]
  refine wpAnyP_load 0 [3] (some 27) (.agg Z) rfl (by kernel_rfl) (by kernel_rfl) (by kernel_rfl) (by kernel_rfl) (fun _ _ _ h => h) (fun W hW => exec_load_row _ _ U rfl 243 Z (0, 0) _ hW Tryz.underlying243 rfl HSZV.out) HUD ?_
  try simp only [Act.put, List.setIfInBounds_toArray, List.set_cons_zero, List.set_cons_succ]
  refine wpAnyP_ready [2] (by kernel_rfl) (by simp) ?_
  refine AllReadyP.cons (i := 2) (o := ⟨some 29, _, _, _, _, none⟩) rfl (fun K hK => ?_) ?_
  ·go_simp
   refine (newPExc (w := w1.drew) (HGL.out.keep hkd (fun _ x => x.elim)) (n0 := w.heap.size + 1) HSZW.out (HE.out.eqv (Eqv.drew w1)) (endK_lt 16 s.rem)).mono ?_
   rintro e w4 ⟨v4, rfl, hv4, hk4⟩
   have hk4w : Keep (fun _ => False) w1 w4 := hkd.then hk4
   refine hK.out _ _ (fun _ => HUW.out _ hk4w) ?_
   clear hK K
   try simp only [Act.put, List.setIfInBounds_toArray, List.set_cons_zero, List.set_cons_succ]
   refine wpAnyP_ready [3] (by kernel_rfl) (by simp) ?_
   refine AllReadyP.cons (i := 3) (o := ⟨none, _, _, _, _, none⟩) rfl (fun K hK => ?_) ?_
   ·refine step_store_row rfl 243 (.tmp 4) (.tmp 27) rfl U Z rfl rfl 243 Z (HUW.out _ hk4w) HSZV.out rfl HALL.out ?_
    refine hK.out _ _ (fun q => quiet_no q (by kernel_rfl)) ?_
    clear hK K
    try simp only [Act.put, List.setIfInBounds_toArray, List.set_cons_zero, List.set_cons_succ]
    refine wpAnyP_plain 4 (some 5) v4 rfl (by kernel_rfl) (by kernel_rfl) (by kernel_rfl) (by kernel_rfl) (fun _ _ _ h => h) (fun W => ?_) (fun q => quiet_no q (by kernel_rfl)) ?_
    ·go_simp
    try simp only [Act.put, List.setIfInBounds_toArray, List.set_cons_zero, List.set_cons_succ]
    refine wpAnyP_done (by kernel_rfl) ?_ _
    go_wp2_with fail
    have hU9 : (w4.setRow U Z).heap[U]? = some (.cells Z 243 (0, 0)) := setRow_heap _ _ _ _ _ _ (HUW.out _ hk4w)
    have hl9 := run_loadVar_row (P := Tryz.prog) (w4.setRow U Z) U 243 243 Z (0, 0) _ hU9 Tryz.underlying243 rfl HSZV.out
    have hkr : Keep (fun i => U = i) w4 (w4.setRow U Z) := (Keep.refl _ w4).setRow U (fun _ => rfl) _
    have hUs := HUS.out
    have hkw4 : Keep (MB2 P B) w (w4.setRow U Z) := (HKW.out.then (hk4w.weak (fun _ _ x => x.elim))).trans hkr (fun i hi e => by omega)
    refine bodyPost_ret (v := .tuple #[.agg Z, v4]) (by simp [results, Tryz.results239, asAddr, hl9]) rfl ?_
    have hp9 := cmp_over HH.out (HP.out.fresh hk4w) (HKW.out.then (hk4w.weak (fun _ _ x => x.elim))) hkr (fun i _ x => x.elim .inl (fun y => .inr (.inl y))) (fun i e => .inl e) (fun i e => by omega) (fun i e x => by have := (HH.out.row.lt i e).2; omega)
    exact ⟨List.replicate 16 0, v4, _, by rw [HZb.out], by rw [← pk_endK]; exact (hv4.keep hkr (fun i hi e => by omega)).mono (Nat.le_succ _), hp9, hkw4, by simp, fun hh => absurd hh HL.out⟩
   ·exact AllReadyP.nil
  ·exact AllReadyP.nil
end
structure Cmp.Ctx where
 E : Env
 P : Nat
 MB : Nat
 B : Nat
 D : Nat
 a : Option Addr
 c : Cfg
def Cmp.M (K : Cmp.Ctx) (w : World) : Nat → Prop := fun i => K.B = i ∨ K.P = i ∨ ∃ fv, w.cell? ⟨K.P, 3, none⟩ = some fv ∧ fv.ownBlock = some i
abbrev Cmp.At (K : Cmp.Ctx) (s : Cmp.St) (fv : Value) (sc : List UInt8) (w : World) : Prop := CmpP K.E K.P K.MB K.B K.D K.a K.c s fv sc w
structure Cmp.Inv (K : Cmp.Ctx) (s : Cmp.St) (w : World) : Prop where
 p : ∃ fv sc, Cmp.At K s fv sc w
 len : s.rem.length ≤ 140737488355328
def Cmp.Some (K : Cmp.Ctx) (w : World) : Prop := ∃ s fv sc, Cmp.At K s fv sc w
def Cmp.pr (K : Cmp.Ctx) : Pr Cmp.St := Cmp.prc K.c
theorem Cmp.ok (K : Cmp.Ctx) : (Cmp.pr K).Ok := Cmp.okc K.c
theorem Cmp.M_at {K : Cmp.Ctx} {s : Cmp.St} {fv : Value} {sc : List UInt8} {w : World} (h : Cmp.At K s fv sc w) (i : Nat) : Cmp.M K w i ↔ CM K.P K.B fv i := by
 obtain ⟨_, _, _, c3, _, _, _⟩ := h.cells
 unfold Cmp.M
 constructor
 ·rintro (e | e | ⟨fv', e1, e2⟩)
  ·exact .inl e
  ·exact .inr (.inl e)
  ·rw [c3] at e1
   cases e1
   exact .inr (.inr e2)
 ·rintro (e | e | e)
  ·exact .inl e
  ·exact .inr (.inl e)
  ·exact .inr (.inr ⟨fv, c3, e⟩)
structure Cmp.Post (K : Cmp.Ctx) (w w' : World) (k : Int) (ev : Value) (s : Cmp.St) : Prop where
 err : ErrAt K.E w.heap.size w' ev k
 inv : k = 0 → Cmp.Inv K s w'
 some : Cmp.Some K w'
 keep : Kpt (Cmp.M K) w w'
theorem Cmp.kpt {K : Cmp.Ctx} {s s' : Cmp.St} {fv fv' : Value} {sc sc' : List UInt8} {w w' : World} {N : Nat → Prop} (h : Cmp.At K s fv sc w) (h' : Cmp.At K s' fv' sc' w') (hk : Keep N w w') (hN : ∀ i, i < w.heap.size → N i → CM K.P K.B fv i) (hfv : ∀ i, fv'.ownBlock = some i → fv.ownBlock = some i ∨ w.heap.size ≤ i) : Kpt (Cmp.M K) w w' :=
 ⟨hk.weak (fun i hi x => (Cmp.M_at h i).2 (hN i hi x)), fun i hi x => (Cmp.M_at h i).2 (by
  rcases (Cmp.M_at h' i).1 x with e | e | e
  ·exact .inl e
  ·exact .inr (.inl e)
  ·rcases hfv i e with y | y
   ·exact .inr (.inr y)
   ·omega)⟩
theorem Cmp.mkPost {K : Cmp.Ctx} {s s0 s' : Cmp.St} {fv fv' : Value} {sc sc' : List UInt8} {w w' : World} {N : Nat → Prop} {k : Int} {ev : Value} (h0 : Cmp.Inv K s0 w) (h : Cmp.At K s0 fv sc w) (h' : Cmp.At K s' fv' sc' w') (he : ErrAt K.E w.heap.size w' ev k) (hk : Keep N w w') (hN : ∀ i, i < w.heap.size → N i → CM K.P K.B fv i) (hfv : ∀ i, fv'.ownBlock = some i → fv.ownBlock = some i ∨ w.heap.size ≤ i)
  (hs : k = 0 → s' = s ∧ s'.rem.length ≤ s0.rem.length) : Cmp.Post K w w' k ev s :=
 ⟨he, fun hz => ⟨⟨fv', sc', (hs hz).1 ▸ h'⟩, (hs hz).1 ▸ Nat.le_trans (hs hz).2 h0.len⟩, ⟨s', fv', sc', h'⟩, Cmp.kpt h h' hk hN hfv⟩
theorem Cmp.Inv.fresh {K : Cmp.Ctx} {w w' : World} {s : Cmp.St} (h : Cmp.Inv K s w) (k : Keep (fun _ => False) w w') : Cmp.Inv K s w' := let ⟨fv, sc, hp⟩ := h.p; ⟨⟨fv, sc, hp.fresh k⟩, h.len⟩
theorem Cmp.Inv.some {K : Cmp.Ctx} {w : World} {s : Cmp.St} (h : Cmp.Inv K s w) : Cmp.Some K w := let ⟨fv, sc, hp⟩ := h.p; ⟨_, _, _, hp⟩
theorem Cmp.Some.fresh {K : Cmp.Ctx} {w w' : World} (h : Cmp.Some K w) (k : Keep (fun _ => False) w w') : Cmp.Some K w' := let ⟨s, fv, sc, hp⟩ := h; ⟨s, fv, sc, hp.fresh k⟩
theorem Cmp.Inv.glob {K : Cmp.Ctx} {w : World} {s : Cmp.St} (h : Cmp.Inv K s w) : Glob K.E w := let ⟨_, _, hp⟩ := h.p; hp.glob
theorem Cmp.kept_some {K : Cmp.Ctx} {w w' : World} (h : Cmp.Some K w) (k : Keep (fun _ => False) w w') : Kpt (Cmp.M K) w w' := by
 obtain ⟨s, fv, sc, hp⟩ := h
 exact Cmp.kpt hp (hp.fresh k) k (fun _ _ x => x.elim) (fun _ e => .inl e)
theorem Cmp.Post.then {K : Cmp.Ctx} {w w1 w2 : World} {k k1 : Int} {e1 ev : Value} {s1 s : Cmp.St} (h1 : Cmp.Post K w w1 k1 e1 s1) (h2 : Cmp.Post K w1 w2 k ev s) : Cmp.Post K w w2 k ev s :=
 ⟨h2.err.mono h1.keep.size, h2.inv, h2.some, h1.keep.then h2.keep⟩
theorem Cmp.Post.re {K : Cmp.Ctx} {w w1 : World} {k : Int} {ev : Value} {s s' : Cmp.St} (h : Cmp.Post K w w1 k ev s) (e : k = 0 → s = s') : Cmp.Post K w w1 k ev s' :=
 ⟨h.err, fun hz => e hz ▸ h.inv hz, h.some, h.keep⟩
section
variable {K : Cmp.Ctx} {s : Cmp.St} {w : World}
theorem Cmp.k2 : (Cmp.pr K).scK 2 s = if s.pend = true then 0 else endK 1 s.rem := by show Cmp.scK K.c 2 s = _; unfold Cmp.scK; rw [if_pos rfl]
theorem Cmp.k3 : (Cmp.pr K).scK 3 s = fullK 1 s.rem := by show Cmp.scK K.c 3 s = _; unfold Cmp.scK; rw [if_neg (by decide), if_pos rfl]
theorem Cmp.k6 : (Cmp.pr K).scK 6 s = pk (vK s.rem) := by show Cmp.scK K.c 6 s = _; unfold Cmp.scK; rw [if_neg (by decide), if_neg (by decide), if_pos (by decide)]
theorem Cmp.k8 : (Cmp.pr K).scK 8 s = pk (vK s.rem) := by show Cmp.scK K.c 8 s = _; unfold Cmp.scK; rw [if_neg (by decide), if_neg (by decide), if_pos (by decide)]
theorem Cmp.k10 : (Cmp.pr K).scK 10 s = pk (vK s.rem) := by show Cmp.scK K.c 10 s = _; unfold Cmp.scK; rw [if_neg (by decide), if_neg (by decide), if_pos (by decide)]
theorem Cmp.k4 : (Cmp.pr K).scK 4 s = fullK 8 s.rem := by show Cmp.scK K.c 4 s = _; unfold Cmp.scK; rw [if_neg (by decide), if_neg (by decide), if_neg (by decide), if_pos rfl]
theorem Cmp.k11 : (Cmp.pr K).scK 11 s = cstrK s.rem K.c := by show Cmp.scK K.c 11 s = _; unfold Cmp.scK; rw [if_neg (by decide), if_neg (by decide), if_neg (by decide), if_neg (by decide), if_pos rfl]
theorem Cmp.k16 : (Cmp.pr K).scK 16 s = fullK 16 s.rem := by show Cmp.scK K.c 16 s = _; unfold Cmp.scK; rw [if_neg (by decide), if_neg (by decide), if_neg (by decide), if_neg (by decide), if_neg (by decide)]
theorem Cmp.r2 : Cmp.scR 2 s = if s.pend = true then s.rem else s.rem.drop 1 := by unfold Cmp.scR; rw [if_pos rfl]
theorem Cmp.r3 : Cmp.scR 3 s = s.rem.drop 1 := by unfold Cmp.scR; rw [if_neg (by decide), if_pos rfl]
theorem Cmp.r6 : Cmp.scR 6 s = vR s.rem := by unfold Cmp.scR; rw [if_neg (by decide), if_neg (by decide), if_pos (by decide)]
theorem Cmp.r8 : Cmp.scR 8 s = vR s.rem := by unfold Cmp.scR; rw [if_neg (by decide), if_neg (by decide), if_pos (by decide)]
theorem Cmp.r10 : Cmp.scR 10 s = vR s.rem := by unfold Cmp.scR; rw [if_neg (by decide), if_neg (by decide), if_pos (by decide)]
theorem Cmp.r4 : Cmp.scR 4 s = s.rem.drop 8 := by unfold Cmp.scR; rw [if_neg (by decide), if_neg (by decide), if_neg (by decide), if_pos rfl]
theorem Cmp.r11 : Cmp.scR 11 s = cstrRem s.rem := by unfold Cmp.scR; rw [if_neg (by decide), if_neg (by decide), if_neg (by decide), if_neg (by decide), if_pos rfl]
theorem Cmp.r16 : Cmp.scR 16 s = s.rem.drop 16 := by unfold Cmp.scR; rw [if_neg (by decide), if_neg (by decide), if_neg (by decide), if_neg (by decide), if_neg (by decide)]
theorem Cmp.sS (t : Int) (ht : ¬ t = 2) : (Cmp.pr K).scS t s = s.at (Cmp.scR t s) := by
 show Cmp.scS t s = _
 unfold Cmp.scS
 rw [if_neg ht]
theorem Cmp.s2 : (Cmp.pr K).scS 2 s = { s with rem := if s.pend = true then s.rem else s.rem.drop 1, pend := false } := by
 show Cmp.scS 2 s = _
 unfold Cmp.scS
 rw [if_pos rfl, Cmp.r2]
theorem Cmp.n2 : (Cmp.pr K).scN 2 s = if s.pend = true then (if s.val = true then 1 else 0) else (match s.rem with | b :: _ => if (b == 1) = true then 1 else 0 | _ => 0) := by show Cmp.scN 2 s = _; unfold Cmp.scN; rw [if_pos rfl]; rfl
theorem Cmp.n3 : (Cmp.pr K).scN 3 s = match s.rem with | b :: _ => IntKind.i8.wrap b.toNat | _ => 0 := by show Cmp.scN 3 s = _; unfold Cmp.scN; rw [if_neg (by decide), if_pos rfl]; rfl
theorem Cmp.n6 : (Cmp.pr K).scN 6 s = IntKind.i16.wrap (z32 s.rem) := by show Cmp.scN 6 s = _; unfold Cmp.scN; rw [if_neg (by decide), if_neg (by decide), if_pos rfl]
theorem Cmp.n8 : (Cmp.pr K).scN 8 s = z32 s.rem := by show Cmp.scN 8 s = _; unfold Cmp.scN; rw [if_neg (by decide), if_neg (by decide), if_neg (by decide), if_pos rfl]
theorem Cmp.n10 : (Cmp.pr K).scN 10 s = z64 s.rem := by show Cmp.scN 10 s = _; unfold Cmp.scN; rw [if_neg (by decide), if_neg (by decide), if_neg (by decide), if_neg (by decide), if_pos rfl]
theorem Cmp.n4 : (Cmp.pr K).scN 4 s = wrap64 (Lib.leNat (s.rem.take 8)) := by show Cmp.scN 4 s = _; unfold Cmp.scN; rw [if_neg (by decide), if_neg (by decide), if_neg (by decide), if_neg (by decide), if_neg (by decide), if_pos rfl]
theorem Cmp.b11 : (Cmp.pr K).scB 11 s = cstrS s.rem := by show Cmp.scB 11 s = _; unfold Cmp.scB; rw [if_pos rfl]
theorem Cmp.b16 : (Cmp.pr K).scB 16 s = s.rem.take 16 := by show Cmp.scB 16 s = _; unfold Cmp.scB; rw [if_neg (by decide), if_pos rfl]
end
theorem MB2_CM {P B : Nat} {fv : Value} {n : Nat} : ∀ i, i < n → MB2 P B i → CM P B fv i := fun _ _ x => x.elim .inl (fun y => .inr (.inl y))
theorem B_CM {P B : Nat} {fv : Value} {n : Nat} : ∀ i, i < n → B = i → CM P B fv i := fun _ _ x => .inl x
section
variable {K : Cmp.Ctx} {s : Cmp.St} {w : World}
theorem Cmp.readBool (h : Cmp.Inv K s w) :
  Calls Tryz.prog 220 #[.pointer (some ⟨K.P, 0, none⟩), ctxV] w fun e w' => ∃ v ev, e = .returned (.tuple #[.bool v, ev]) ∧ Cmp.Post K w w' ((Cmp.pr K).scK 2 s) ev ((Cmp.pr K).scS 2 s) ∧ ((Cmp.pr K).scK 2 s = 0 → (if v = true then 1 else 0) = (Cmp.pr K).scN 2 s) := by
 obtain ⟨fv, sc, hp⟩ := h.p
 rw [Cmp.k2, Cmp.s2, Cmp.n2]
 refine (cmp_readBool hp).mono ?_
 rintro e w' ⟨v, ev, rfl, he, hp', hk, hv1, hv2⟩
 refine ⟨v, ev, rfl, Cmp.mkPost h hp hp' he hk MB2_CM (fun _ e => .inl e) (fun _ => ⟨rfl, ?_⟩), fun hz => ?_⟩
 ·show (if s.pend = true then s.rem else s.rem.drop 1).length ≤ _
  split <;> simp
 ·cases hpd : s.pend with
  | true => rw [if_pos rfl, hv1 hpd]
  | false =>
   rw [hpd] at hz
   cases hr : s.rem with
   | nil => rw [hr] at hz; simp [endK] at hz
   | cons b r => rw [hv2 hpd b r hr]; simp
theorem Cmp.readByte (h : Cmp.Inv K s w) :
  Calls Tryz.prog 221 #[.pointer (some ⟨K.P, 0, none⟩), ctxV] w fun e w' => ∃ n ev, e = .returned (.tuple #[.int .i8 n, ev]) ∧ Cmp.Post K w w' ((Cmp.pr K).scK 3 s) ev ((Cmp.pr K).scS 3 s) ∧ ((Cmp.pr K).scK 3 s = 0 → n = (Cmp.pr K).scN 3 s) ∧ -128 ≤ n ∧ n ≤ 127 := by
 obtain ⟨fv, sc, hp⟩ := h.p
 rw [Cmp.k3, Cmp.sS 3 (by decide), Cmp.r3, Cmp.n3]
 refine (cmp_readByte hp).mono ?_
 rintro e w' ⟨n, ev, rfl, he, hp', hk, hv, hb⟩
 refine ⟨n, ev, rfl, Cmp.mkPost h hp hp' he hk B_CM (fun _ e => .inl e) (fun _ => ⟨rfl, by simp⟩), fun hz => ?_, hb⟩
 cases hr : s.rem with
 | nil => rw [hr] at hz; simp [fullK] at hz
 | cons b r => exact hv b r hr
theorem Cmp.readI16 (h : Cmp.Inv K s w) :
  Calls Tryz.prog 225 #[.pointer (some ⟨K.P, 0, none⟩), ctxV] w fun e w' => ∃ n ev, e = .returned (.tuple #[.int .i16 n, ev]) ∧ Cmp.Post K w w' ((Cmp.pr K).scK 6 s) ev ((Cmp.pr K).scS 6 s) ∧ ((Cmp.pr K).scK 6 s = 0 → n = (Cmp.pr K).scN 6 s) ∧ -32768 ≤ n ∧ n ≤ 32767 := by
 obtain ⟨fv, sc, hp⟩ := h.p
 rw [Cmp.k6, Cmp.sS 6 (by decide), Cmp.r6, Cmp.n6]
 refine (cmp_readI16 hp).mono ?_
 rintro e w' ⟨n, ev, rfl, he, hp', hk, hv, hb⟩
 exact ⟨n, ev, rfl, Cmp.mkPost h hp hp' he hk B_CM (fun _ e => .inl e) (fun _ => ⟨rfl, vR_le _⟩), fun hz => hv (pk_zero_iff hz), hb⟩
theorem Cmp.readI32 (h : Cmp.Inv K s w) :
  Calls Tryz.prog 226 #[.pointer (some ⟨K.P, 0, none⟩), ctxV] w fun e w' => ∃ n ev, e = .returned (.tuple #[.int .i32 n, ev]) ∧ Cmp.Post K w w' ((Cmp.pr K).scK 8 s) ev ((Cmp.pr K).scS 8 s) ∧ ((Cmp.pr K).scK 8 s = 0 → n = (Cmp.pr K).scN 8 s) ∧ -2147483648 ≤ n ∧ n ≤ 2147483647 := by
 obtain ⟨fv, sc, hp⟩ := h.p
 rw [Cmp.k8, Cmp.sS 8 (by decide), Cmp.r8, Cmp.n8]
 refine (cmp_readI32 hp).mono ?_
 rintro e w' ⟨n, ev, rfl, he, hp', hk, hv, hb⟩
 exact ⟨n, ev, rfl, Cmp.mkPost h hp hp' he hk B_CM (fun _ e => .inl e) (fun _ => ⟨rfl, vR_le _⟩), fun hz => hv (pk_zero_iff hz), hb⟩
theorem Cmp.readI64 (h : Cmp.Inv K s w) :
  Calls Tryz.prog 227 #[.pointer (some ⟨K.P, 0, none⟩), ctxV] w fun e w' => ∃ n ev, e = .returned (.tuple #[.int .i64 n, ev]) ∧ Cmp.Post K w w' ((Cmp.pr K).scK 10 s) ev ((Cmp.pr K).scS 10 s) ∧ ((Cmp.pr K).scK 10 s = 0 → n = (Cmp.pr K).scN 10 s) ∧ -9223372036854775808 ≤ n ∧ n ≤ 9223372036854775807 := by
 obtain ⟨fv, sc, hp⟩ := h.p
 rw [Cmp.k10, Cmp.sS 10 (by decide), Cmp.r10, Cmp.n10]
 refine (cmp_readI64 hp).mono ?_
 rintro e w' ⟨n, ev, rfl, he, hp', hk, hv, hb⟩
 exact ⟨n, ev, rfl, Cmp.mkPost h hp hp' he hk B_CM (fun _ e => .inl e) (fun _ => ⟨rfl, vR_le _⟩), fun hz => hv (pk_zero_iff hz), hb⟩
theorem Cmp.readDouble (h : Cmp.Inv K s w) :
  Calls Tryz.prog 222 #[.pointer (some ⟨K.P, 0, none⟩), ctxV] w fun e w' => ∃ n ev, e = .returned (.tuple #[.float .f64 n, ev]) ∧ Cmp.Post K w w' ((Cmp.pr K).scK 4 s) ev ((Cmp.pr K).scS 4 s) ∧ n < 18446744073709551616 ∧ ((Cmp.pr K).scK 4 s = 0 → wrap64 n = (Cmp.pr K).scN 4 s) := by
 obtain ⟨fv, sc, hp⟩ := h.p
 rw [Cmp.k4, Cmp.sS 4 (by decide), Cmp.r4, Cmp.n4]
 refine (cmp_readDouble hp).mono ?_
 rintro e w' ⟨n, ev, sc', rfl, he, hp', hk, hb, hv⟩
 exact ⟨n, ev, rfl, Cmp.mkPost h hp hp' he hk MB2_CM (fun _ e => .inl e) (fun _ => ⟨rfl, by simp⟩), hb, fun hz => by rw [hv (fullK_len hz)]⟩
theorem Cmp.readUUID (h : Cmp.Inv K s w) :
  Calls Tryz.prog 239 #[.pointer (some ⟨K.P, 0, none⟩), ctxV] w fun e w' => ∃ l ev, e = .returned (.tuple #[.agg (bcells l).toArray, ev]) ∧ Cmp.Post K w w' ((Cmp.pr K).scK 16 s) ev ((Cmp.pr K).scS 16 s) ∧ l.length = 16 ∧ ((Cmp.pr K).scK 16 s = 0 → l = (Cmp.pr K).scB 16 s) := by
 obtain ⟨fv, sc, hp⟩ := h.p
 rw [Cmp.k16, Cmp.sS 16 (by decide), Cmp.r16, Cmp.b16]
 refine (cmp_readUUID hp).mono ?_
 rintro e w' ⟨l, ev, sc', rfl, he, hp', hk, hb, hv⟩
 exact ⟨l, ev, rfl, Cmp.mkPost h hp hp' he hk MB2_CM (fun _ e => .inl e) (fun _ => ⟨rfl, by simp⟩), hb, fun hz => hv (fullK_len hz)⟩
theorem Cmp.readString (h : Cmp.Inv K s w) :
  Calls Tryz.prog 236 #[.pointer (some ⟨K.P, 0, none⟩), ctxV] w fun e w' => ∃ l ev, e = .returned (.tuple #[.string l, ev]) ∧ Cmp.Post K w w' ((Cmp.pr K).scK 11 s) ev ((Cmp.pr K).scS 11 s) ∧ ((Cmp.pr K).scK 11 s = 0 → l = ⟨((Cmp.pr K).scB 11 s).toArray⟩) := by
 obtain ⟨fv, sc, hp⟩ := h.p
 rw [Cmp.k11, Cmp.sS 11 (by decide), Cmp.r11, Cmp.b11]
 refine (cmp_readString hp).mono ?_
 rintro e w' ⟨l, ev, r', sc', rfl, he, hp', hl, hk, hv⟩
 exact ⟨l, ev, rfl, Cmp.mkPost h hp hp' he hk MB2_CM (fun _ e => .inl e) (fun hz => ⟨by rw [(hv hz).2], hl⟩), fun hz => (hv hz).1⟩
theorem Cmp.readFieldBegin (h : Cmp.Inv K s w) :
  Calls Tryz.prog 223 #[.pointer (some ⟨K.P, 0, none⟩), ctxV] w fun e w' => ∃ l t id ev, e = .returned (.tuple #[.string l, .int .u8 t, .int .i16 id, ev]) ∧ Cmp.Post K w w' ((Cmp.pr K).fK s) ev ((Cmp.pr K).fS s) ∧ ((Cmp.pr K).fK s = 0 → t = (Cmp.pr K).fT s ∧ id = (Cmp.pr K).fI s) := by
 obtain ⟨fv, sc, hp⟩ := h.p
 refine (cmp_fieldBegin hp).mono ?_
 rintro e w' ⟨t, id, ev, s', rfl, he, hp', hl, hk, hv⟩
 exact ⟨_, t, id, ev, rfl, Cmp.mkPost h hp hp' he hk MB2_CM (fun _ e => .inl e) (fun hz => ⟨(hv hz).2.2, hl⟩), fun hz => ⟨(hv hz).1, (hv hz).2.1⟩⟩
theorem Cmp.readMapBegin (h : Cmp.Inv K s w) :
  Calls Tryz.prog 230 #[.pointer (some ⟨K.P, 0, none⟩), ctxV] w fun e w' => ∃ kt t n ev, e = .returned (.tuple #[.int .u8 kt, .int .u8 t, .int .i64 n, ev]) ∧ Cmp.Post K w w' ((Cmp.pr K).mK s) ev ((Cmp.pr K).mS s) ∧ ((Cmp.pr K).mK s = 0 → kt = (Cmp.pr K).mKT s ∧ t = (Cmp.pr K).mT s ∧ n = (Cmp.pr K).mN s) := by
 obtain ⟨fv, sc, hp⟩ := h.p
 refine (cmp_mapBegin hp h.len).mono ?_
 rintro e w' ⟨kt, t, n, ev, s', rfl, he, hp', hl, hk, hv⟩
 exact ⟨kt, t, n, ev, rfl, Cmp.mkPost h hp hp' he hk MB2_CM (fun _ e => .inl e) (fun hz => ⟨(hv hz).2.2.2, hl⟩), fun hz => ⟨(hv hz).1, (hv hz).2.1, (hv hz).2.2.1⟩⟩
theorem Cmp.readListBegin (h : Cmp.Inv K s w) :
  Calls Tryz.prog 228 #[.pointer (some ⟨K.P, 0, none⟩), ctxV] w fun e w' => ∃ t n ev, e = .returned (.tuple #[.int .u8 t, .int .i64 n, ev]) ∧ Cmp.Post K w w' ((Cmp.pr K).lK s) ev ((Cmp.pr K).lS s) ∧ ((Cmp.pr K).lK s = 0 → t = (Cmp.pr K).lT s ∧ n = (Cmp.pr K).lN s) := by
 obtain ⟨fv, sc, hp⟩ := h.p
 refine (cmp_listBegin hp h.len).mono ?_
 rintro e w' ⟨t, n, ev, s', rfl, he, hp', hl, hk, hv⟩
 exact ⟨t, n, ev, rfl, Cmp.mkPost h hp hp' he hk MB2_CM (fun _ e => .inl e) (fun hz => ⟨(hv hz).2.2, hl⟩), fun hz => ⟨(hv hz).1, (hv hz).2.1⟩⟩
theorem Cmp.readSetBegin (h : Cmp.Inv K s w) :
  Calls Tryz.prog 234 #[.pointer (some ⟨K.P, 0, none⟩), ctxV] w fun e w' => ∃ t n ev, e = .returned (.tuple #[.int .u8 t, .int .i64 n, ev]) ∧ Cmp.Post K w w' ((Cmp.pr K).lK s) ev ((Cmp.pr K).lS s) ∧ ((Cmp.pr K).lK s = 0 → t = (Cmp.pr K).lT s ∧ n = (Cmp.pr K).lN s) := by
 obtain ⟨fv, sc, hp⟩ := h.p
 refine (cmp_setBegin hp h.len).mono ?_
 rintro e w' ⟨t, n, ev, s', rfl, he, hp', hl, hk, hv⟩
 exact ⟨t, n, ev, rfl, Cmp.mkPost h hp hp' he hk MB2_CM (fun _ e => .inl e) (fun hz => ⟨(hv hz).2.2, hl⟩), fun hz => ⟨(hv hz).1, (hv hz).2.1⟩⟩
theorem Cmp.nothing (h : Cmp.Inv K s w) : Cmp.Post K w w 0 .nilIface s := ⟨ErrAt.nil _ _ _, fun _ => h, h.some, Kpt.refl _ _⟩
theorem Cmp.readStructBegin (h : Cmp.Inv K s w) (hd : (Cmp.pr K).dep s < 1099511627776) :
  Calls Tryz.prog 237 #[.pointer (some ⟨K.P, 0, none⟩), ctxV] w fun e w' => ∃ l, e = .returned (.tuple #[.string l, .nilIface]) ∧ Cmp.Post K w w' 0 .nilIface ((Cmp.pr K).sbS s) := by
 obtain ⟨fv, sc, hp⟩ := h.p
 refine (cmp_structBegin hp hd).mono ?_
 rintro e w' ⟨fv', rfl, hp', hk, hfv⟩
 exact ⟨_, rfl, Cmp.mkPost h hp hp' (ErrAt.nil _ _ _) hk (fun _ _ x => x.elim (fun y => .inr (.inl y)) (fun y => .inr (.inr y))) hfv (fun _ => ⟨rfl, Nat.le_refl _⟩)⟩
theorem Cmp.readStructEnd (h : Cmp.Inv K s w) (hd : (Cmp.pr K).one ≤ (Cmp.pr K).dep s) :
  Calls Tryz.prog 238 #[.pointer (some ⟨K.P, 0, none⟩), ctxV] w fun e w' => e = .returned .nilIface ∧ Cmp.Post K w w' 0 .nilIface ((Cmp.pr K).seS s) := by
 obtain ⟨fv, sc, hp⟩ := h.p
 refine (cmp_structEnd hp hd).mono ?_
 rintro e w' ⟨fv', rfl, hp', hk, hfv⟩
 exact ⟨rfl, Cmp.mkPost h hp hp' (ErrAt.nil _ _ _) hk (fun _ _ x => .inr (.inl x)) (fun i e => .inl (hfv i e)) (fun _ => ⟨rfl, Nat.le_refl _⟩)⟩
theorem Cmp.readFieldEnd (h : Cmp.Inv K s w) :
  Calls Tryz.prog 224 #[.pointer (some ⟨K.P, 0, none⟩), ctxV] w fun e w' => e = .returned .nilIface ∧ Cmp.Post K w w' 0 .nilIface ((Cmp.pr K).feS s) := by
 refine (cmp_fieldEnd _ _ _).mono ?_
 rintro e w' ⟨rfl, rfl⟩
 exact ⟨rfl, Cmp.nothing h⟩
theorem Cmp.readMapEnd (h : Cmp.Inv K s w) :
  Calls Tryz.prog 231 #[.pointer (some ⟨K.P, 0, none⟩), ctxV] w fun e w' => e = .returned .nilIface ∧ Cmp.Post K w w' 0 .nilIface ((Cmp.pr K).meS s) := by
 refine (cmp_mapEnd _ _ _).mono ?_
 rintro e w' ⟨rfl, rfl⟩
 exact ⟨rfl, Cmp.nothing h⟩
theorem Cmp.readListEnd (h : Cmp.Inv K s w) :
  Calls Tryz.prog 229 #[.pointer (some ⟨K.P, 0, none⟩), ctxV] w fun e w' => e = .returned .nilIface ∧ Cmp.Post K w w' 0 .nilIface ((Cmp.pr K).leS s) := by
 refine (cmp_listEnd _ _ _).mono ?_
 rintro e w' ⟨rfl, rfl⟩
 exact ⟨rfl, Cmp.nothing h⟩
theorem Cmp.readSetEnd (h : Cmp.Inv K s w) :
  Calls Tryz.prog 235 #[.pointer (some ⟨K.P, 0, none⟩), ctxV] w fun e w' => e = .returned .nilIface ∧ Cmp.Post K w w' 0 .nilIface ((Cmp.pr K).leS s) := by
 refine (cmp_setEnd _ _ _).mono ?_
 rintro e w' ⟨rfl, rfl⟩
 exact ⟨rfl, Cmp.nothing h⟩
end
abbrev Cmp.V (K : Cmp.Ctx) : Value := .iface 154 (.pointer (some ⟨K.P, 0, none⟩))
theorem Cmp.at_lt {K : Cmp.Ctx} {s : Cmp.St} {fv : Value} {sc : List UInt8} {w : World} (h : Cmp.At K s fv sc w) : ∀ i, Cmp.M K w i → i < w.heap.size := by
 intro i hi
 have hl := h.mem.lts
 have hP := h.ltP
 rcases (Cmp.M_at h i).1 hi with e | e | e
 ·omega
 ·omega
 ·exact (h.row.lt i e).2
theorem Cmp.M_lt {K : Cmp.Ctx} {s : Cmp.St} {w : World} (h : Cmp.Inv K s w) : ∀ i, Cmp.M K w i → i < w.heap.size := by
 obtain ⟨_, _, hp⟩ := h.p
 exact Cmp.at_lt hp
theorem Cmp.M_new {K : Cmp.Ctx} {s : Cmp.St} {w w1 : World} (h : Cmp.Inv K s w) (k : Keep (fun _ => False) w w1) : ∀ i, Cmp.M K w1 i → i < w.heap.size := by
 obtain ⟨_, _, hp⟩ := h.p
 exact fun i hi => Cmp.at_lt hp i ((Cmp.M_at hp i).2 ((Cmp.M_at (hp.fresh k) i).1 hi))
theorem Cmp.Some.lt {K : Cmp.Ctx} {w : World} (h : Cmp.Some K w) : ∀ i, Cmp.M K w i → i < w.heap.size := by
 obtain ⟨s, _, _, h⟩ := h
 exact Cmp.at_lt h
theorem Cmp.kept {K : Cmp.Ctx} {s : Cmp.St} {w w1 : World} (h : Cmp.Inv K s w) (k : Keep (fun _ => False) w w1) : Kpt (Cmp.M K) w w1 := Cmp.kept_some h.some k
theorem Cmp.b2 (K : Cmp.Ctx) (s : Cmp.St) : (Cmp.pr K).scB 2 s = [] := by simp [Cmp.pr, Cmp.prc, Cmp.scB]
theorem Cmp.b3 (K : Cmp.Ctx) (s : Cmp.St) : (Cmp.pr K).scB 3 s = [] := by simp [Cmp.pr, Cmp.prc, Cmp.scB]
theorem Cmp.b4 (K : Cmp.Ctx) (s : Cmp.St) : (Cmp.pr K).scB 4 s = [] := by simp [Cmp.pr, Cmp.prc, Cmp.scB]
theorem Cmp.b6 (K : Cmp.Ctx) (s : Cmp.St) : (Cmp.pr K).scB 6 s = [] := by simp [Cmp.pr, Cmp.prc, Cmp.scB]
theorem Cmp.b8 (K : Cmp.Ctx) (s : Cmp.St) : (Cmp.pr K).scB 8 s = [] := by simp [Cmp.pr, Cmp.prc, Cmp.scB]
theorem Cmp.n11 (K : Cmp.Ctx) (s : Cmp.St) : (Cmp.pr K).scN 11 s = 0 := by simp [Cmp.pr, Cmp.prc, Cmp.scN]
theorem Cmp.n16 (K : Cmp.Ctx) (s : Cmp.St) : (Cmp.pr K).scN 16 s = 0 := by simp [Cmp.pr, Cmp.prc, Cmp.scN]
theorem Cmp.b_le {K : Cmp.Ctx} {s : Cmp.St} {w : World} (h : Cmp.Inv K s w) (t : Int) : ((Cmp.pr K).scB t s).length ≤ 140737488355328 := by
 have hl := h.len
 have hv := vR_le s.rem
 show (Cmp.scB t s).length ≤ _
 unfold Cmp.scB
 split
 ·simp [cstrS]; omega
 ·split
  ·simp; omega
  ·simp
theorem Cmp.lT_bd (K : Cmp.Ctx) (s : Cmp.St) : 0 ≤ (Cmp.pr K).lT s ∧ (Cmp.pr K).lT s ≤ 255 := by
 show 0 ≤ Cmp.lT s ∧ Cmp.lT s ≤ 255
 unfold Cmp.lT
 split
 ·omega
 ·rename_i b r _
  have := cty_bd (b.toNat % 16)
  omega
theorem Cmp.fT_bd (K : Cmp.Ctx) (s : Cmp.St) : 0 ≤ (Cmp.pr K).fT s ∧ (Cmp.pr K).fT s ≤ 255 := by
 show 0 ≤ Cmp.fT s ∧ Cmp.fT s ≤ 255
 unfold Cmp.fT
 split
 ·omega
 ·rename_i b r _
  have := cty_bd (b.toNat % 16)
  split <;> omega
theorem Cmp.mT_bd (K : Cmp.Ctx) (s : Cmp.St) : (0 ≤ (Cmp.pr K).mT s ∧ (Cmp.pr K).mT s ≤ 255) ∧ 0 ≤ (Cmp.pr K).mKT s ∧ (Cmp.pr K).mKT s ≤ 255 := by
 show (0 ≤ Cmp.mT s ∧ Cmp.mT s ≤ 255) ∧ 0 ≤ Cmp.mKT s ∧ Cmp.mKT s ≤ 255
 unfold Cmp.mT Cmp.mKT
 split
 ·omega
 ·split
  ·omega
  ·rename_i b r _
   have := cty_bd (b.toNat % 16)
   have := cty_bd (b.toNat / 16)
   omega
theorem Cmp.over1 {K : Cmp.Ctx} {s s' : Cmp.St} {fv' : Value} {sc' : List UInt8} {w w2 w3 : World} {N : Nat → Prop} (h : Cmp.Inv K s w) (h2 : Cmp.At K s' fv' sc' w2) (k2 : Kpt (Cmp.M K) w w2) (k : Keep N w2 w3) (hN : ∀ i, N i → w.heap.size ≤ i) (hF : ∀ i, N i → ¬ Cmp.M K w2 i) :
  Cmp.At K s' fv' sc' w3 ∧ Kpt (Cmp.M K) w w3 ∧ ∀ i, Cmp.M K w3 i → Cmp.M K w2 i := by
 obtain ⟨fv, sc, hp⟩ := h.p
 have h3 : Cmp.At K s' fv' sc' w3 := cmp_over hp h2 k2.keep k (fun i _ x => (Cmp.M_at hp i).1 x) (fun i e => by
  by_cases hi : i < w.heap.size
  ·rcases (Cmp.M_at hp i).1 (k2.grow i hi ((Cmp.M_at h2 i).2 (.inr (.inr e)))) with x | x | x
   ·exact absurd x.symm (h2.rowB i e).2.2.1
   ·exact absurd x.symm (h2.rowB i e).1
   ·exact .inl x
  ·exact .inr (by omega)) hN (fun i e x => hF i x ((Cmp.M_at h2 i).2 (.inr (.inr e))))
 have hm : ∀ i, Cmp.M K w3 i → Cmp.M K w2 i := fun i x => (Cmp.M_at h2 i).2 ((Cmp.M_at h3 i).1 x)
 exact ⟨h3, ⟨k2.keep.trans k (fun i hi x => absurd (hN i x) (by omega)), fun i hi x => k2.grow i hi (hm i x)⟩, hm⟩
theorem Cmp.turn {K : Cmp.Ctx} {s s' : Cmp.St} {w w2 w3 : World} {N : Nat → Prop} (h : Cmp.Inv K s w) (k2 : Kpt (Cmp.M K) w w2) (i2 : Cmp.Inv K s' w2) (hk : Keep N w2 w3) (hN : ∀ i, N i → w.heap.size ≤ i ∧ ¬ Cmp.M K w2 i) :
  Cmp.Inv K s' w3 ∧ Kpt (Cmp.M K) w w3 ∧ ∀ i, Cmp.M K w3 i → Cmp.M K w2 i := by
 obtain ⟨fv, sc, hp⟩ := i2.p
 obtain ⟨h3, hk3, hm⟩ := Cmp.over1 h hp k2 hk (fun i x => (hN i x).1) (fun i x => (hN i x).2)
 exact ⟨⟨⟨_, _, h3⟩, i2.len⟩, hk3, hm⟩
theorem Cmp.thru {K : Cmp.Ctx} {s s1 s' : Cmp.St} {w w1 w2 w3 : World} {k : Int} {ev : Value} {N : Nat → Prop} (h : Cmp.Inv K s w) (k1 : Kpt (Cmp.M K) w w1) (_ : Cmp.Inv K s1 w1) (hp : Cmp.Post K w1 w2 k ev s') (hk : Keep N w2 w3) (hN : ∀ i, N i → w.heap.size ≤ i ∧ i < w1.heap.size ∧ ¬ Cmp.M K w1 i) :
  Cmp.Post K w w3 k ev s' ∧ ∀ i, Cmp.M K w3 i → Cmp.M K w2 i := by
 have k02 : Kpt (Cmp.M K) w w2 := k1.then hp.keep
 have hF : ∀ i, N i → ¬ Cmp.M K w2 i := fun i x m => (hN i x).2.2 (hp.keep.grow i (hN i x).2.1 m)
 obtain ⟨s2, fv2, sc2, h2⟩ := hp.some
 obtain ⟨h3, hk3, hm⟩ := Cmp.over1 h h2 k02 hk (fun i x => (hN i x).1) hF
 exact ⟨⟨(hp.err.keep hk (fun i hi x => by have := (hN i x).2; omega)).mono k1.size, fun hz => (Cmp.turn h k02 (hp.inv hz) hk (fun i x => ⟨(hN i x).1, hF i x⟩)).1, ⟨_, _, _, h3⟩, hk3⟩, hm⟩
theorem Cmp.through {K : Cmp.Ctx} {s s' : Cmp.St} {w w1 w2 w3 : World} {k : Int} {ev : Value} {N : Nat → Prop} (h : Cmp.Inv K s w) (hk0 : Keep (fun _ => False) w w1) (hp : Cmp.Post K w1 w2 k ev s') (hk : Keep N w2 w3) (hN : ∀ i, N i → w.heap.size ≤ i ∧ i < w1.heap.size) : Cmp.Post K w w3 k ev s' :=
 (Cmp.thru h (Cmp.kept h hk0) (h.fresh hk0) hp hk (fun i x => ⟨(hN i x).1, (hN i x).2, fun m => by have := Cmp.M_new h hk0 i m; have := (hN i x).1; omega⟩)).1
theorem Cmp.through_M {K : Cmp.Ctx} {s s' : Cmp.St} {w w1 w2 w3 : World} {k : Int} {ev : Value} {N : Nat → Prop} (h : Cmp.Inv K s w) (hk0 : Keep (fun _ => False) w w1) (hp : Cmp.Post K w1 w2 k ev s') (hk : Keep N w2 w3) (hN : ∀ i, N i → w.heap.size ≤ i ∧ i < w1.heap.size) : ∀ i, Cmp.M K w3 i → Cmp.M K w2 i :=
 (Cmp.thru h (Cmp.kept h hk0) (h.fresh hk0) hp hk (fun i x => ⟨(hN i x).1, (hN i x).2, fun m => by have := Cmp.M_new h hk0 i m; have := (hN i x).1; omega⟩)).2
theorem i16_wrap_bd (n : Int) : -32768 ≤ IntKind.i16.wrap n ∧ IntKind.i16.wrap n ≤ 32767 := by
 have e : IntKind.i16.wrap n = if n % 65536 ≥ 32768 then n % 65536 - 65536 else n % 65536 := by
  simp [IntKind.wrap, IntKind.bits, IntKind.signed]
 rw [e]
 split <;> omega
theorem Cmp.fI_bd (K : Cmp.Ctx) (s : Cmp.St) : -32768 ≤ (Cmp.pr K).fI s ∧ (Cmp.pr K).fI s ≤ 32767 := by
 show -32768 ≤ Cmp.fI s ∧ Cmp.fI s ≤ 32767
 unfold Cmp.fI
 split
 ·omega
 ·split
  ·omega
  ·split
   ·exact i16_wrap_bd _
   ·exact i16_wrap_bd _
abbrev Cmp.rb (K : Cmp.Ctx) : Rp.Base Cmp.St where
 E := K.E
 T := 154
 P := K.P
 pr := Cmp.pr K
 Mh h := Cmp.M K { (default : World) with heap := h }
 Inv := Cmp.Inv K
 Some := Cmp.Some K
 fBool := 220
 fByte := 221
 fI16 := 225
 fI32 := 226
 fI64 := 227
 fDbl := 222
 fStr := 236
 fUuid := 239
 fFb := 223
 fMb := 230
 fLb := 228
 fTb := 234
 fSb := 237
 fSe := 238
 fFe := 224
 fMe := 231
 fLe := 229
 fTe := 235
theorem Cmp.Post.rp {K : Cmp.Ctx} {s : Cmp.St} {w w' : World} {k : Int} {ev : Value} (h : Cmp.Post K w w' k ev s) : Rp.Post (Cmp.rb K) w w' k ev s := ⟨h.err, h.inv, h.some, h.keep⟩
theorem Cmp.Post.of {K : Cmp.Ctx} {s : Cmp.St} {w w' : World} {k : Int} {ev : Value} (h : Rp.Post (Cmp.rb K) w w' k ev s) : Cmp.Post K w w' k ev s := ⟨h.err, h.inv, h.some, h.keep⟩
theorem Cmp.mBool (K : Cmp.Ctx) : Rp.Meth 154 K.P "ReadBool" 220 := ⟨fun w => by kernel_rfl, fun w => by kernel_rfl, fun args w => by kernel_rfl⟩
theorem Cmp.mByte (K : Cmp.Ctx) : Rp.Meth 154 K.P "ReadByte" 221 := ⟨fun w => by kernel_rfl, fun w => by kernel_rfl, fun args w => by kernel_rfl⟩
theorem Cmp.mI16 (K : Cmp.Ctx) : Rp.Meth 154 K.P "ReadI16" 225 := ⟨fun w => by kernel_rfl, fun w => by kernel_rfl, fun args w => by kernel_rfl⟩
theorem Cmp.mI32 (K : Cmp.Ctx) : Rp.Meth 154 K.P "ReadI32" 226 := ⟨fun w => by kernel_rfl, fun w => by kernel_rfl, fun args w => by kernel_rfl⟩
theorem Cmp.mI64 (K : Cmp.Ctx) : Rp.Meth 154 K.P "ReadI64" 227 := ⟨fun w => by kernel_rfl, fun w => by kernel_rfl, fun args w => by kernel_rfl⟩
theorem Cmp.mDbl (K : Cmp.Ctx) : Rp.Meth 154 K.P "ReadDouble" 222 := ⟨fun w => by kernel_rfl, fun w => by kernel_rfl, fun args w => by kernel_rfl⟩
theorem Cmp.mStr (K : Cmp.Ctx) : Rp.Meth 154 K.P "ReadString" 236 := ⟨fun w => by kernel_rfl, fun w => by kernel_rfl, fun args w => by kernel_rfl⟩
theorem Cmp.mUuid (K : Cmp.Ctx) : Rp.Meth 154 K.P "ReadUUID" 239 := ⟨fun w => by kernel_rfl, fun w => by kernel_rfl, fun args w => by kernel_rfl⟩
theorem Cmp.mFb (K : Cmp.Ctx) : Rp.Meth 154 K.P "ReadFieldBegin" 223 := ⟨fun w => by kernel_rfl, fun w => by kernel_rfl, fun args w => by kernel_rfl⟩
theorem Cmp.mMb (K : Cmp.Ctx) : Rp.Meth 154 K.P "ReadMapBegin" 230 := ⟨fun w => by kernel_rfl, fun w => by kernel_rfl, fun args w => by kernel_rfl⟩
theorem Cmp.mLb (K : Cmp.Ctx) : Rp.Meth 154 K.P "ReadListBegin" 228 := ⟨fun w => by kernel_rfl, fun w => by kernel_rfl, fun args w => by kernel_rfl⟩
theorem Cmp.mTb (K : Cmp.Ctx) : Rp.Meth 154 K.P "ReadSetBegin" 234 := ⟨fun w => by kernel_rfl, fun w => by kernel_rfl, fun args w => by kernel_rfl⟩
theorem Cmp.mSb (K : Cmp.Ctx) : Rp.Meth 154 K.P "ReadStructBegin" 237 := ⟨fun w => by kernel_rfl, fun w => by kernel_rfl, fun args w => by kernel_rfl⟩
theorem Cmp.mSe (K : Cmp.Ctx) : Rp.Meth 154 K.P "ReadStructEnd" 238 := ⟨fun w => by kernel_rfl, fun w => by kernel_rfl, fun args w => by kernel_rfl⟩
theorem Cmp.mFe (K : Cmp.Ctx) : Rp.Meth 154 K.P "ReadFieldEnd" 224 := ⟨fun w => by kernel_rfl, fun w => by kernel_rfl, fun args w => by kernel_rfl⟩
theorem Cmp.mMe (K : Cmp.Ctx) : Rp.Meth 154 K.P "ReadMapEnd" 231 := ⟨fun w => by kernel_rfl, fun w => by kernel_rfl, fun args w => by kernel_rfl⟩
theorem Cmp.mLe (K : Cmp.Ctx) : Rp.Meth 154 K.P "ReadListEnd" 229 := ⟨fun w => by kernel_rfl, fun w => by kernel_rfl, fun args w => by kernel_rfl⟩
theorem Cmp.mTe (K : Cmp.Ctx) : Rp.Meth 154 K.P "ReadSetEnd" 235 := ⟨fun w => by kernel_rfl, fun w => by kernel_rfl, fun args w => by kernel_rfl⟩
def Cmp.rp (K : Cmp.Ctx) : Rp.Ctx Cmp.St where
 toBase := Cmp.rb K
 ok := Cmp.ok K
 fresh h k := Cmp.Inv.fresh h k
 isSome h := Cmp.Inv.some h
 fresh1 h k := ⟨Cmp.Some.fresh (Cmp.Inv.some h) k, Cmp.kept h k, fun i m => Cmp.M_new h k i m⟩
 lt h i m := Cmp.Some.lt h i m
 glob h := Cmp.Inv.glob h
 turn := Cmp.turn
 thru h k1 i1 hp hk hN := let ⟨a, b⟩ := Cmp.thru h k1 i1 (Cmp.Post.of hp) hk hN; ⟨a.rp, b⟩
 b0 t s h1 h2 := by show Cmp.scB t s = []; unfold Cmp.scB; rw [if_neg h1, if_neg h2]
 n0 t s h := by rcases h with rfl | rfl; exact Cmp.n11 K s; exact Cmp.n16 K s
 b_le := Cmp.b_le
 lT_bd := Cmp.lT_bd K
 fT_bd := Cmp.fT_bd K
 mT_bd := Cmp.mT_bd K
 fI_bd := Cmp.fI_bd K
 mBool := Cmp.mBool K
 readBool h := (Cmp.readBool h).mono (fun e w' r => by obtain ⟨v, ev, rfl, hp, hv⟩ := r; exact ⟨v, ev, rfl, hp.rp, hv⟩)
 mByte := Cmp.mByte K
 readByte h := (Cmp.readByte h).mono (fun e w' r => by obtain ⟨n, ev, rfl, hp, hv⟩ := r; exact ⟨n, ev, rfl, hp.rp, hv⟩)
 mI16 := Cmp.mI16 K
 readI16 h := (Cmp.readI16 h).mono (fun e w' r => by obtain ⟨n, ev, rfl, hp, hv⟩ := r; exact ⟨n, ev, rfl, hp.rp, hv⟩)
 mI32 := Cmp.mI32 K
 readI32 h := (Cmp.readI32 h).mono (fun e w' r => by obtain ⟨n, ev, rfl, hp, hv⟩ := r; exact ⟨n, ev, rfl, hp.rp, hv⟩)
 mI64 := Cmp.mI64 K
 readI64 h := (Cmp.readI64 h).mono (fun e w' r => by obtain ⟨n, ev, rfl, hp, hv⟩ := r; exact ⟨n, ev, rfl, hp.rp, hv⟩)
 mDbl := Cmp.mDbl K
 readDouble h := (Cmp.readDouble h).mono (fun e w' r => by obtain ⟨n, ev, rfl, hp, hv⟩ := r; exact ⟨n, ev, rfl, hp.rp, hv⟩)
 mStr := Cmp.mStr K
 readString h := (Cmp.readString h).mono (fun e w' r => by obtain ⟨l, ev, rfl, hp, hv⟩ := r; exact ⟨l, ev, rfl, hp.rp, hv⟩)
 mUuid := Cmp.mUuid K
 readUUID h := (Cmp.readUUID h).mono (fun e w' r => by obtain ⟨l, ev, rfl, hp, hv⟩ := r; exact ⟨l, ev, rfl, hp.rp, hv⟩)
 mFb := Cmp.mFb K
 readFieldBegin h := (Cmp.readFieldBegin h).mono (fun e w' r => by obtain ⟨l, t, id, ev, rfl, hp, hv⟩ := r; exact ⟨l, t, id, ev, rfl, hp.rp, hv⟩)
 mMb := Cmp.mMb K
 readMapBegin h := (Cmp.readMapBegin h).mono (fun e w' r => by obtain ⟨kt, t, n, ev, rfl, hp, hv⟩ := r; exact ⟨kt, t, n, ev, rfl, hp.rp, hv⟩)
 mLb := Cmp.mLb K
 readListBegin h := (Cmp.readListBegin h).mono (fun e w' r => by obtain ⟨t, n, ev, rfl, hp, hv⟩ := r; exact ⟨t, n, ev, rfl, hp.rp, hv⟩)
 mTb := Cmp.mTb K
 readSetBegin h := (Cmp.readSetBegin h).mono (fun e w' r => by obtain ⟨t, n, ev, rfl, hp, hv⟩ := r; exact ⟨t, n, ev, rfl, hp.rp, hv⟩)
 mSb := Cmp.mSb K
 readStructBegin h d := (Cmp.readStructBegin h d).mono (fun e w' r => by obtain ⟨l, rfl, hp⟩ := r; exact ⟨l, rfl, hp.rp⟩)
 mSe := Cmp.mSe K
 readStructEnd h d := (Cmp.readStructEnd h d).mono (fun e w' r => by obtain ⟨rfl, hp⟩ := r; exact ⟨rfl, hp.rp⟩)
 mFe := Cmp.mFe K
 readFieldEnd h := (Cmp.readFieldEnd h).mono (fun e w' r => by obtain ⟨rfl, hp⟩ := r; exact ⟨rfl, hp.rp⟩)
 mMe := Cmp.mMe K
 readMapEnd h := (Cmp.readMapEnd h).mono (fun e w' r => by obtain ⟨rfl, hp⟩ := r; exact ⟨rfl, hp.rp⟩)
 mLe := Cmp.mLe K
 readListEnd h := (Cmp.readListEnd h).mono (fun e w' r => by obtain ⟨rfl, hp⟩ := r; exact ⟨rfl, hp.rp⟩)
 mTe := Cmp.mTe K
 readSetEnd h := (Cmp.readSetEnd h).mono (fun e w' r => by obtain ⟨rfl, hp⟩ := r; exact ⟨rfl, hp.rp⟩)
section
variable {R TB DT : Nat} {c : Cfg} {n : Int} {s s2 s' : Cmp.St} {fv fv2 : Value} {v v2 : Int} {w wA w1 w' : World} {k T KT SZ ID N : Int} {S : List UInt8}
variable {a1 a2 a3 a4 a5 : Int} {sv : Value}
set_option maxRecDepth 100000 in
theorem rd_stepc (op : Int) (h0 : 0 ≤ op) (h22 : op < 22) (h6 : ¬ op = 6) (h : RdC R TB DT c n s fv v w)
  (hcmp : ∀ w, RdC R TB DT c n s fv v w → Calls Tryz.prog 82 #[.pointer (some ⟨R, 0, none⟩), .agg (stepG op a1 a2 a3 a4 a5 sv)] w (GG R TB DT c n s fv w k s' T KT SZ ID N S)) :
  Calls Tryz.prog 49 #[.pointer (some ⟨R, 0, none⟩), .agg (stepG op a1 a2 a3 a4 a5 sv)] w (GG R TB DT c n s fv w k s' T KT SZ ID N S) := by
 obtain ⟨c0, c1, c2, c3, c4, c5, c6, c7, c8⟩ := h.p.cells
 have hTU := h.ltT
 have hRU := h.ltR
 have hDU := h.dlt
 have n22 : ¬ op = 22 := by omega
 have ncond : (decide (op < 0) || decide (22 < op) || op == 6) = false := by simp; omega
 have ncond1 : decide (op < 0) = false := by simp; omega
 have ncond2 : decide (22 < op) = false := by simp; omega
 have ncond3 : (op == 6) = false := by simp; omega
 have hk0 : Keep (fun _ => False) w ((w.alloc (.cells (stepG op a1 a2 a3 a4 a5 sv) 119)).alloc (.cells zGot 75)) := ((Keep.refl _ w).alloc _).alloc _
 have hU0 := heap_alloc_new (w.alloc (.cells (stepG op a1 a2 a3 a4 a5 sv) 119)) (.cells zGot 75)
 have HH := hdd h
 go_enter Tryz.func49, Tryz.ntmps49
 go_wp2_with fail
 obtain ⟨U, hU⟩ : ∃ U, w.heap.size + 1 = U := ⟨_, rfl⟩
 have hUs : ((w.alloc (.cells (stepG op a1 a2 a3 a4 a5 sv) 119)).alloc (.cells zGot 75)).heap.size = U + 1 := by simp [← hU]
 rw [show (w.alloc (.cells (stepG op a1 a2 a3 a4 a5 sv) 119)).heap.size = U by simp [← hU]] at hU0
 generalize (w.alloc (.cells (stepG op a1 a2 a3 a4 a5 sv) 119)).alloc (.cells zGot 75) = wA at *
 rw [hU]
 have HUS := hdd hU
 clear hU
 refine (hcmp wA (h.fresh hk0)).mono ?_
 rintro e w1 ⟨x, t, kt, size, id, N', S', rfl, ⟨Sa, Sm, Sc, rfl⟩, hx, hk1, s2, fv2, v2, h1, hs, ho, hv⟩
 have hUm : ¬ (RT R TB U ∨ fv.ownBlock = some U) := by
  have := HUS.out
  rintro ((e | e) | e)
  ·omega
  ·omega
  ·have := (HH.out.row.lt U e).2; omega
 have HU := hdd ((hk1.block U (lt_of_heap hU0) hUm).trans hU0)
 have HX := hdd hx
 have HS := hdd hs
 have HV := hdd hv
 have HO := hdd ho
 have HK1 := hdd hk1
 have HK0 := hdd hk0
 have H1 := hdd h1
 clear hx hs hv ho hk1 hk0 h1 hU0 hUm
 obtain ⟨u0, u1, u2, u3, u4, u5, u6⟩ := got_cells HU.out
 obtain ⟨f0, f1, f2, f3, f4, f5, f6⟩ := got_free HU.out
 go_wp2_with fail
 have hkU : Keep (fun i => U = i) w1 (gotW w1 U x t kt size id N' (.slice Sa Sm Sc)) := got_keep (Keep.refl _ w1) (fun _ => rfl) _ _ _ _ _ _ _
 have hsz := HUS.out
 have hUs' := hUs
 refine ret_got (U := U) Tryz.results49 rfl rfl (got_set HU.out _ _ _ _ _ _ _) ⟨_, _, _, _, _, _, _, rfl, ⟨_, _, _, rfl⟩, HX.out, ?_, s2, fv2, v2, ?_, HS.out, ?_, fun hz => ?_⟩
 ·exact ((HK0.out.weak (fun _ _ x => x.elim)).then HK1.out).trans hkU (fun i hi e => by omega)
 ·refine H1.out.keep hkU (by omega) (by omega) (by omega) (fun i e e2 => ?_)
  rcases HO.out i e with y | y
  ·have := (HH.out.row.lt i y).2; omega
  ·omega
 ·intro i e
  rcases HO.out i e with y | y
  ·exact .inl y
  ·exact .inr (by omega)
 ·obtain ⟨q1, q2, q3, q4, q5, q6⟩ := HV.out hz
  exact ⟨q1, q2, q3, q4, q5, (q6.keep hkU (fun i hi e => by omega)).weak (fun i _ hi => ⟨by omega, hi.2⟩)⟩
theorem c_plain_any (op t : Int) (h13 : 13 ≤ op ∧ op ≤ 21) (h : RdC R TB DT c n s fv v w)
  (hpl : ∀ w, RdC R TB DT c n s fv v w → Calls Tryz.prog 115 #[.pointer (some ⟨R, 0, none⟩), .int .i64 op] w (GC R TB DT c n s fv w k s' T KT SZ ID N S)) :
  Calls Tryz.prog 82 #[.pointer (some ⟨R, 0, none⟩), .agg (stepG op a1 a2 a3 a4 a5 sv)] w (GG R TB DT c n s fv w k s' T KT SZ ID N S) := by
 cases hp : s.pend with
 | false => exact (c_plain_d op h13 hp h hpl).mono (fun e w' hg => hg.gg h)
 | true =>
  by_cases h1 : op = 13
  ·subst h1
   exact (c_d13_true hp h hpl).mono (fun e w' hg => hg.gg h)
  ·exact (c_open op (by omega) h1 hp h).mono (fun e w' hg => hg.gg h)
theorem c_else (op : Int) (h5 : ¬ op = 5) (h13 : ¬ op = 13) (h : RdC R TB DT c n s fv v w)
  (hf : s.pend = false → Calls Tryz.prog 82 #[.pointer (some ⟨R, 0, none⟩), .agg (stepG op a1 a2 a3 a4 a5 sv)] w (GG R TB DT c n s fv w k s' T KT SZ ID N S)) :
  Calls Tryz.prog 82 #[.pointer (some ⟨R, 0, none⟩), .agg (stepG op a1 a2 a3 a4 a5 sv)] w (GG R TB DT c n s fv w k s' T KT SZ ID N S) := by
 cases hp : s.pend with
 | false => exact hf hp
 | true => exact (c_open op h5 h13 hp h).mono (fun e w' hg => hg.gg h)
end
def Cmp.rdr (R TB DT : Nat) (K : Cmp.Ctx) (n : Int) : Rdr Cmp.St where
 R := R
 pr := Cmp.pr K
 M := fun w i => RTD R TB DT i ∨ ∃ fv, w.cell? ⟨R, 10, none⟩ = some fv ∧ fv.ownBlock = some i
 Inv := fun s w => ∃ fv v, RdC R TB DT K.c n s fv v w
section
variable {R TB DT : Nat} {K : Cmp.Ctx} {n : Int} {s s2 s' : Cmp.St} {fv fv2 : Value} {v v2 : Int} {w wA w1 w' : World} {k T KT SZ ID N : Int} {S : List UInt8}
variable {a1 a2 a3 a4 a5 : Int} {sv : Value}
theorem Cmp.rM_at (h : RdC R TB DT K.c n s fv v w) (i : Nat) : (Cmp.rdr R TB DT K n).M w i ↔ RTD R TB DT i ∨ fv.ownBlock = some i := by
 obtain ⟨_, c10, _, _⟩ := h.ccells
 constructor
 ·rintro (e | ⟨fv', e1, e2⟩)
  ·exact .inl e
  ·rw [c10] at e1
   cases e1
   exact .inr e2
 ·rintro (e | e)
  ·exact .inl e
  ·exact .inr ⟨fv, c10, e⟩
theorem Cmp.rM_lt (h : RdC R TB DT K.c n s fv v w) (i : Nat) (hi : (Cmp.rdr R TB DT K n).M w i) : i < w.heap.size := by
 rcases (Cmp.rM_at h i).1 hi with (e | e | e) | e
 ·rw [e]; exact h.ltR
 ·rw [e]; exact h.ltT
 ·rw [e]; exact h.dlt
 ·exact (h.row.lt i e).2
theorem Cmp.gp {e : Ending} (h : RdC R TB DT K.c n s fv v w) (hg : GG R TB DT K.c n s fv w k s' T KT SZ ID N S e w') : (Cmp.rdr R TB DT K n).GP w k s' T KT SZ ID N S e w' := by
 obtain ⟨x, t, kt, size, id, N', S', rfl, hs, hx, hk, s2, fv2, v2, h1, hs2, ho, hv⟩ := hg
 refine ⟨x, t, kt, size, id, N', S', rfl, hs, hx, ⟨s2, ⟨fv2, v2, h1⟩, hs2⟩, ⟨hk.weak (fun i _ y => ?_), fun i hi y => ?_⟩, fun hz => ?_⟩
 ·refine (Cmp.rM_at h i).2 ?_
  rcases y with (y | y) | y
  ·exact .inl (.inl y.symm)
  ·exact .inl (.inr (.inl y.symm))
  ·exact .inr y
 ·refine (Cmp.rM_at h i).2 ?_
  rcases (Cmp.rM_at h1 i).1 y with y | y
  ·exact .inl y
  ·rcases ho i y with z | z
   ·exact .inr z
   ·omega
 ·obtain ⟨q1, q2, q3, q4, q5, q6⟩ := hv hz
  refine ⟨q1, q2, q3, q4, q5, q6.weak (fun i _ hi => ⟨hi.1, fun y => ?_⟩)⟩
  rcases (Cmp.rM_at h1 i).1 y with z | z
  ·have := Cmp.rM_lt h i ((Cmp.rM_at h i).2 (.inl z)); have := hi.1; omega
  ·exact hi.2 z
theorem Cmp.rstep (op : Int) (h0 : 0 ≤ op) (h22 : op < 22) (h6 : ¬ op = 6) (h : RdC R TB DT K.c n s fv v w)
  (hcmp : ∀ {b1 b2 b3 b4 b5 : Int} {bv : Value} (w : World), RdC R TB DT K.c n s fv v w → Calls Tryz.prog 82 #[.pointer (some ⟨R, 0, none⟩), .agg (stepG op b1 b2 b3 b4 b5 bv)] w (GG R TB DT K.c n s fv w k s' T KT SZ ID N S)) : (Cmp.rdr R TB DT K n).Step op w ((Cmp.rdr R TB DT K n).GP w k s' T KT SZ ID N S) :=
 fun {_ _ _ _ _ _} => (rd_stepc op h0 h22 h6 h (fun w hw => hcmp w hw)).mono (fun e w' hg => Cmp.gp h hg)
theorem Cmp.rscalar (t : Int) (ht : isSc t = true) (h : RdC R TB DT K.c n s fv v w) : (Cmp.rdr R TB DT K n).Step (opOf t) w ((Cmp.rdr R TB DT K n).GP w (Cmp.scK K.c t s) (Cmp.scS t s) 0 0 0 0 (Cmp.scN t s) (Cmp.scB t s)) := by
 have ht : t = 2 ∨ t = 3 ∨ t = 6 ∨ t = 8 ∨ t = 10 ∨ t = 4 ∨ t = 11 ∨ t = 16 := by simpa [isSc, or_assoc] using ht
 rcases ht with rfl | rfl | rfl | rfl | rfl | rfl | rfl | rfl
 ·exact fun {_ _ _ _ _ _} => Cmp.rstep 13 (by omega) (by omega) (by omega) h (fun w h => c_plain_any 13 2 (by omega) h (fun w h => c_op13 h))
 ·exact fun {_ _ _ _ _ _} => Cmp.rstep 14 (by omega) (by omega) (by omega) h (fun w h => c_plain_any 14 3 (by omega) h (fun w h => c_op14 h))
 ·exact fun {_ _ _ _ _ _} => Cmp.rstep 15 (by omega) (by omega) (by omega) h (fun w h => c_plain_any 15 6 (by omega) h (fun w h => c_op15 h))
 ·exact fun {_ _ _ _ _ _} => Cmp.rstep 16 (by omega) (by omega) (by omega) h (fun w h => c_plain_any 16 8 (by omega) h (fun w h => c_op16 h))
 ·exact fun {_ _ _ _ _ _} => Cmp.rstep 17 (by omega) (by omega) (by omega) h (fun w h => c_plain_any 17 10 (by omega) h (fun w h => c_op17 h))
 ·exact fun {_ _ _ _ _ _} => Cmp.rstep 18 (by omega) (by omega) (by omega) h (fun w h => c_plain_any 18 4 (by omega) h (fun w h => c_op18 h))
 ·exact fun {_ _ _ _ _ _} => Cmp.rstep 19 (by omega) (by omega) (by omega) h (fun w h => c_plain_any 19 11 (by omega) h (fun w h => c_op19 h))
 ·exact fun {_ _ _ _ _ _} => Cmp.rstep 21 (by omega) (by omega) (by omega) h (fun w h => c_plain_any 21 16 (by omega) h (fun w h => c_op21 h))
theorem Cmp.rdr_ok : (Cmp.rdr R TB DT K n).Ok where
 pr := Cmp.ok K
 lt := by
  rintro s w ⟨fv, v, h⟩ i hi
  exact Cmp.rM_lt h i hi
 turn := by
  rintro s w w' N ⟨fv, v, h⟩ hk hN
  have hN' : ∀ i, N i → ¬ (RTD R TB DT i ∨ fv.ownBlock = some i) := fun i x y => hN i x ((Cmp.rM_at h i).2 y)
  have h1 := h.keep hk (fun x => hN' _ x (.inl (.inl rfl))) (fun x => hN' _ x (.inl (.inr (.inl rfl)))) (fun x => hN' _ x (.inl (.inr (.inr rfl)))) (fun i e x => hN' i x (.inr e))
  exact ⟨⟨fv, v, h1⟩, fun i x => (Cmp.rM_at h i).2 ((Cmp.rM_at h1 i).1 x)⟩
 sc := by
  rintro s w t ht ⟨fv, v, h⟩
  exact Cmp.rscalar t ht h
 sb := by
  rintro s w ⟨fv, v, h⟩ hd
  exact fun {_ _ _ _ _ _} => Cmp.rstep 2 (by omega) (by omega) (by omega) h (fun w h => c_else 2 (by omega) (by omega) h (fun hp => c_d2_false hp hd h))
 se := by
  rintro s w ⟨fv, v, h⟩ hd
  exact fun {_ _ _ _ _ _} => Cmp.rstep 3 (by omega) (by omega) (by omega) h (fun w h => c_else 3 (by omega) (by omega) h (fun hp => c_d3_false hp hd h))
 f := by
  rintro s w ⟨fv, v, h⟩
  exact fun {_ _ _ _ _ _} => Cmp.rstep 4 (by omega) (by omega) (by omega) h (fun w h => c_else 4 (by omega) (by omega) h (fun hp => (c_d4_false hp h).mono (fun e w' hg => hg.gg h)))
 fe := by
  rintro s w ⟨fv, v, h⟩
  refine Cmp.rstep 5 (by omega) (by omega) (by omega) h (fun w h => ?_)
  cases hp : s.pend with
  | false => exact (c_d5_false hp h).mono (fun e w' hg => hg.gg h)
  | true => exact (c_d5_true hp h).mono (fun e w' hg => hg.gg h)
 m := by
  rintro s w ⟨fv, v, h⟩
  exact fun {_ _ _ _ _ _} => Cmp.rstep 7 (by omega) (by omega) (by omega) h (fun w h => c_else 7 (by omega) (by omega) h (fun hp => (c_d7_false hp h).mono (fun e w' hg => hg.gg h)))
 me := by
  rintro s w ⟨fv, v, h⟩
  exact fun {_ _ _ _ _ _} => Cmp.rstep 8 (by omega) (by omega) (by omega) h (fun w h => c_else 8 (by omega) (by omega) h (fun hp => (c_d8_false hp h).mono (fun e w' hg => hg.gg h)))
 l := by
  rintro s w ⟨fv, v, h⟩
  exact fun {_ _ _ _ _ _} => Cmp.rstep 9 (by omega) (by omega) (by omega) h (fun w h => c_else 9 (by omega) (by omega) h (fun hp => (c_d9_false hp h).mono (fun e w' hg => hg.gg h)))
 le := by
  rintro s w ⟨fv, v, h⟩
  exact fun {_ _ _ _ _ _} => Cmp.rstep 10 (by omega) (by omega) (by omega) h (fun w h => c_else 10 (by omega) (by omega) h (fun hp => (c_d10_false hp h).mono (fun e w' hg => hg.gg h)))
 t := by
  rintro s w ⟨fv, v, h⟩
  exact fun {_ _ _ _ _ _} => Cmp.rstep 11 (by omega) (by omega) (by omega) h (fun w h => c_else 11 (by omega) (by omega) h (fun hp => (c_d11_false hp h).mono (fun e w' hg => hg.gg h)))
 te := by
  rintro s w ⟨fv, v, h⟩
  exact fun {_ _ _ _ _ _} => Cmp.rstep 12 (by omega) (by omega) (by omega) h (fun w h => c_else 12 (by omega) (by omega) h (fun hp => (c_d12_false hp h).mono (fun e w' hg => hg.gg h)))
end
end Go.Proofs.YtjekbomlpcdojaaGreatDoor
