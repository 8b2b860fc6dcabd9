/- Part 33 of the proof: Two, SpC10. -/
import Derived.Test.YtjekbomlpcdojaaGreatDoorH26
import Derived.Test.YtjekbomlpcdojaaGreatDoorH30
import Derived.Test.YtjekbomlpcdojaaGreatDoorH32
import Derived.Deep.RegionLaw
import Derived.Maps.AppendAt
set_option linter.unusedVariables false
set_option linter.unusedSimpArgs false
set_option linter.unusedSectionVars false
set_option maxHeartbeats 16000000
namespace Go.Proofs.YtjekbomlpcdojaaGreatDoor
open Go Go.RowKit
structure Grw (TV : TypeId) (B0 : Nat) (iv lv : Value) (w0 : World) (iv' lv' : Value) (ni : Nat) (is : List Value) (nl : Nat) (ls : List Value) (w : World) : Prop where
 kp : Keep (fun i => iv.ownBlock = some i ∨ lv.ownBlock = some i) w0 w
 own1 : w.ownsRow B0 3 1 iv' ni is
 own2 : w.ownsRow B0 TV 7 lv' nl ls
 new1 : ∀ i, iv'.ownBlock = some i → iv.ownBlock = some i ∨ w0.heap.size ≤ i
 new2 : ∀ i, lv'.ownBlock = some i → lv.ownBlock = some i ∨ w0.heap.size ≤ i
 ne : iv'.ownBlock = none ∨ iv'.ownBlock ≠ lv'.ownBlock
variable {TV : TypeId} {B0 : Nat} {iv lv iv' lv' v' : Value} {w0 w w' : World} {ni nl ni' nl' : Nat} {is ls is' ls' : List Value}
theorem Grw.keep (h : Grw TV B0 iv lv w0 iv' lv' ni is nl ls w) (k : Keep (fun _ => False) w w') : Grw TV B0 iv lv w0 iv' lv' ni is nl ls w' :=
 ⟨h.kp.trans k (fun _ _ x => x.elim), ownsRow_keep h.own1 k (fun _ _ x => x), ownsRow_keep h.own2 k (fun _ _ x => x), h.new1, h.new2, h.ne⟩
theorem Grw.alloc (h : Grw TV B0 iv lv w0 iv' lv' ni is nl ls w) (o : Obj) : Grw TV B0 iv lv w0 iv' lv' ni is nl ls (w.alloc o) := h.keep ((Keep.refl _ w).alloc o)
theorem Grw.done {d U : Nat} {A A' : Nat → Prop} {T K E : Int} {ids : List Int} {id : Int} {x : V} {cs : List Value} {vs : List V} {rows : List (List Value)} (h : VB TV d B0 U A T K E ids vs iv lv rows w0)
  (hx : ValAt d (fun i => A i ∧ i ≠ U ∧ iv.ownBlock ≠ some i ∧ lv.ownBlock ≠ some i) w0 cs x)
  (g : Grw TV B0 iv lv w0 iv' lv' (ids.length + 1) (ids.map (Value.int .i64) ++ [.int .i64 id]) (vs.length + 1) (rows.flatten ++ cs) w)
  (hA : ∀ i, i < w0.heap.size → A i → A' i) (hN : ∀ i, w0.heap.size ≤ i → i < w.heap.size → A' i) (hB : ∀ i, A' i → B0 ≤ i) :
  VB TV d B0 U A' T K E (ids ++ [id]) (vs ++ [x]) iv' lv' (rows ++ [cs]) ((w.setCell ⟨U, 5, none⟩ iv').setCell ⟨U, 6, none⟩ lv') := by
 have hU : U < w0.heap.size := lt_of_heap h.blk
 have hb2 : w.heap[U]? = some (.cells (valC T 0 nilB K E iv lv) TV (0, 0)) := (g.kp.block U hU (fun e => e.elim h.neI h.neL)).trans h.blk
 refine VB.grow h rfl (fun j y hj => ?_) (by simpa using g.own1) (by simpa using g.own2) g.kp g.new1 g.new2 g.ne
  (heap_set_same (i := 6) (heap_set_same (i := 5) hb2 iv') lv') (((Keep.refl _ w).set U 5 (fun _ => rfl) iv').set U 6 (fun _ => rfl) lv') hA hN hB
 cases j with
 | zero => simp at hj; subst hj; exact ⟨cs, rfl, hx⟩
 | succ j => simp at hj
theorem int_info : ∃ i, Tryz.prog.info? 3 = some i ∧ i.zero = some (.int .i64 0) ∧ i.size = 1 ∧ i.bytes = 8 := ⟨Tryz.t3, by kernel_rfl, by kernel_rfl, by kernel_rfl, by kernel_rfl⟩
theorem LRow.cells {w : World} {g cap : Nat} {xs : List Int} {cs : Array Value} {T : TypeId} (hg : w.heap[g]? = some (.cells cs T (0, 0))) (hc : ∀ (j : Nat) (x : Int), xs[j]? = some x → cs[j]? = some (.int .i64 x)) :
  ∀ j u, (xs.map (Value.int .i64))[j]? = some u → w.cell? ((⟨g, 0, none⟩ : Addr).add j) = some u := by
 intro j u hj
 rw [List.getElem?_map] at hj
 obtain ⟨x, hx, rfl⟩ := Option.map_eq_some_iff.1 hj
 rw [Addr.add_lit, Nat.zero_add, cellAt hg]
 exact hc j x hx
theorem run_append_lrow {P : Program} (w : World) (t ty : TypeId) (i : TypeInfo) (ht : P.underlying t = some (.slice 3)) (hi : P.info? 3 = some i) (hz : i.zero = some (.int .i64 0)) (hsize : i.size = 1) (hby : i.bytes = 8)
  {fv : Value} {xs : List Int} {Bad : Nat → Prop} (h : LRow w fv xs Bad) (hBad : ∀ i, Bad i → i < w.heap.size) (ad : Addr) (x : Int) (hx : ∀ j u, [Value.int .i64 x][j]? = some u → w.cell? (ad.add j) = some u) (hlen : xs.length < 1099511627776) :
  ∃ v' w', (Builtin.append_ #[t, t] ty #[fv, .slice (some ad) 1 1]).run P w = .ok v' w' ∧ LRow w' v' (xs ++ [x]) Bad ∧ w.grownBy w' fv.ownBlock ∧ (v'.ownBlock = fv.ownBlock ∨ v'.ownBlock = some w.heap.size) := by
 have hone : ∀ u ∈ [Value.int .i64 x], u.oneCell' = true := by
  intro u hu
  simp only [List.mem_cons, List.not_mem_nil, or_false] at hu
  subst hu; rfl
 have hmx : xs.length + 1 ≤ maxLen := by simp only [maxLen]; omega
 rcases h with ⟨rfl, rfl⟩ | ⟨g, cap, cs, rfl, hb, hg, hnc, hcs, hcm, hcells⟩
 ·obtain ⟨v', w', hr, h2, h3, _, h5⟩ := run_append_own_at (P := P) w w.heap.size t ty 3 i (.int .i64 0) 1 8 ht hi hz hsize hby rfl (by decide) (.slice none 0 0) 0 [] (World.ownsRow_nil w _ _ _) ad 1 1 [.int .i64 x] rfl hx hone (by decide) (by decide) (Nat.le_refl _)
  refine ⟨v', w', hr, ?_, h3, h5⟩
  rcases h2.2 with ⟨_, hn⟩ | ⟨g, cap, cur, rfl, hb, hg, hnc, hcm, hcs, htake⟩
  ·simp at hn
  ·refine .inr ⟨g, cap, cur, rfl, fun hB => by have := hBad g hB; omega, hg, hnc, by omega, hcm, ?_⟩
   intro j y hj
   have e := congrArg (fun l => l[j]?) htake
   simp only [List.nil_append] at e hj
   cases j with
   | succ j => simp at hj
   | zero =>
    simp at hj
    subst hj
    simpa using e
 ·by_cases hroom : xs.length + 1 ≤ cap
  ·have hr := run_append_room (P := P) w t ty 3 i ht hi g xs.length cap cs hg ad 1 1 [.int .i64 x] (by simp [hsize]) hx hone hroom (by simp [hsize]; omega)
   rw [hsize] at hr
   refine ⟨_, _, hr, .inr ⟨g, cap, _, by simp, hb, setRow_heap w g cs _ 3 _ hg, by simpa using hroom, ?_, hcm, ?_⟩, ⟨rfl, rfl, rfl, by simp, fun k _ hk => setRow_other w g k _ (fun e => hk (by simp [Value.ownBlock, e]))⟩, .inl rfl⟩
   ·simp; omega
   ·intro j y hj
    by_cases hjn : j < xs.length
    ·rw [List.getElem?_append_left hjn] at hj
     have := hcells j y hj
     simp only [List.getElem?_toArray, Nat.mul_one]
     rw [List.append_assoc, List.getElem?_append_left (by simp; omega), List.getElem?_take_of_lt hjn]
     simpa using this
    ·have hjl : j < (xs ++ [x]).length := (List.getElem?_eq_some_iff.1 hj).1
     have hje : j = xs.length := by simp at hjl; omega
     subst hje
     simp at hj
     subst hj
     simp only [List.getElem?_toArray, Nat.mul_one]
     rw [List.append_assoc, List.getElem?_append_right (by rw [List.length_take]; omega)]
     have : min xs.length cs.size = xs.length := by omega
     simp [this]
  ·have hr := run_append_grow (P := P) w t ty 3 i (.int .i64 0) ht hi hz ⟨g, 0, none⟩ xs.length cap (xs.map (Value.int .i64)) (by simp [hsize]) (LRow.cells (cap := cap) hg hcells) ad 1 1 [.int .i64 x] (by simp [hsize]) hx (by omega) (by omega) (growslice_fits (by omega) (by rw [hby]; omega))
   have hge := grownCap_ge w (xs.length + 1) cap 3
   refine ⟨_, _, hr, .inr ⟨w.heap.size, _, _, by simp, fun hB => by have := hBad _ hB; omega, heap_alloc_new w.drew _, by simpa using hge, ?_, grownCap_le_maxLen w _ cap 3 hmx, ?_⟩, ⟨rfl, rfl, rfl, by simp, fun k hk _ => heap_alloc_old w.drew _ hk⟩, .inr rfl⟩
   ·simp only [Array.size_append, List.size_toArray, size_zeroCells, List.length_map, List.length_cons, List.length_nil]
    have : (Value.int .i64 0).cells.size = 1 := rfl
    rw [this]
    omega
   ·intro j y hj
    have hjl : j < (xs ++ [x]).length := (List.getElem?_eq_some_iff.1 hj).1
    rw [Array.getElem?_append_left (by simpa using hjl)]
    have : ((xs.map (Value.int .i64)).toArray ++ [Value.int .i64 x].toArray) = ((xs ++ [x]).map (Value.int .i64)).toArray := by simp
    rw [this, List.getElem?_toArray, List.getElem?_map, hj]
    rfl
theorem step_append_lrow {P : Program} {Q : Exit → Act → World → Prop} {ops : Array Oper} {o : Oper} {a : Act} {w : World} {K : Act → World → Prop} {E : Prop} (hgd : o.guard = none) (sx x : Operand) (t : TypeId)
  (ho : o.op = .call { callee := .builtin .append, args := #[sx, x], argTypes := #[t, t] })
  (i : TypeInfo) (ht : P.underlying t = some (.slice 3)) (hi : P.info? 3 = some i) (hz : i.zero = some (.int .i64 0)) (hsize : i.size = 1) (hby : i.bytes = 8)
  (fv : Value) (xs : List Int) (Bad : Nat → Prop) (hs : a.eval sx = fv) (hrow : LRow w fv xs Bad) (hBad : ∀ i, Bad i → i < w.heap.size)
  (ad : Addr) (y : Int) (hx : a.eval x = .slice (some ad) 1 1) (hnews : ∀ j u, [Value.int .i64 y][j]? = some u → w.cell? (ad.add j) = some u) (hlen : xs.length < 1099511627776)
  (h : ∀ v' w', LRow w' v' (xs ++ [y]) Bad → w.grownBy w' fv.ownBlock → (v'.ownBlock = fv.ownBlock ∨ v'.ownBlock = some w.heap.size) → K (a.put o.dst v') w') :
  if Region.wanted o (yielded ops a.tmps) = true then Oper.wp P o a w K Q else E := by
 have hw : Region.wanted o (yielded ops a.tmps) = true := by simp [Region.wanted, hgd]
 rw [if_pos hw]
 obtain ⟨v', w', hr, h2, h3, h5⟩ := run_append_lrow (P := P) w t o.type i ht hi hz hsize hby hrow hBad ad y hnews hlen
 unfold Oper.wp execOp
 simp only [ho, resolve, invoke, builtin, Sem.run_bind, Sem.run_pure, Result.andThen_ok, List.map_toArray, List.map_cons, List.map_nil, hs, hx, hr]
 exact h v' w' h2 h3 h5
theorem LRow.shape {w : World} {fv : Value} {xs : List Int} {Bad : Nat → Prop} (h : LRow w fv xs Bad) : ∃ a m c, fv = .slice a m c := by
 rcases h with ⟨rfl, _⟩ | ⟨g, cap, cs, rfl, _⟩
 ·exact ⟨_, _, _, rfl⟩
 ·exact ⟨_, _, _, rfl⟩
def GG (R TB DT : Nat) (c : Cfg) (n : Int) (s : Cmp.St) (fv : Value) (w : World) (k : Int) (s' : Cmp.St) (T KT SZ ID N : Int) (S : List UInt8) (e : Ending) (w' : World) : Prop :=
 ∃ x t kt size id N' S', e = .returned (gotV x t kt size id N' S') ∧ (∃ a m cc, S' = .slice a m cc) ∧ Sk k x ∧ Keep (fun i => RT R TB i ∨ fv.ownBlock = some i) w w' ∧
  ∃ s2 fv2 v2, RdC R TB DT c n s2 fv2 v2 w' ∧ (x = 0 → s2 = s') ∧ (∀ i, fv2.ownBlock = some i → fv.ownBlock = some i ∨ w.heap.size ≤ i) ∧
   (x = 0 → t = T ∧ kt = KT ∧ size = SZ ∧ id = ID ∧ N' = N ∧ BytesAt (fun i => w.heap.size ≤ i ∧ ¬ fv2.ownBlock = some i) w' S' S)
section
variable {R TB DT : Nat} {c : Cfg} {n : Int} {s s2 s' : Cmp.St} {fv fv2 : Value} {v v2 : Int} {w wA w1 w' : World} {k T KT SZ ID N : Int} {S : List UInt8}
variable {a1 a2 a3 a4 a5 : Int} {sv : Value}
theorem GC.gg {e : Ending} (h : RdC R TB DT c n s fv v w) (hg : GC R TB DT c n s fv w k s' T KT SZ ID N S e w') : GG R TB DT c n s fv w k s' T KT SZ ID N S e w' := by
 obtain ⟨x, t, kt, size, id, N', S', rfl, hs, hx, ⟨s2, v2, h1, hs2⟩, hk, hv⟩ := hg
 refine ⟨x, t, kt, size, id, N', S', rfl, hs, hx, hk.weak (fun i _ y => .inl y), s2, fv, v2, h1, hs2, fun i e => .inl e, fun hz => ?_⟩
 obtain ⟨q1, q2, q3, q4, q5, q6⟩ := hv hz
 exact ⟨q1, q2, q3, q4, q5, q6.weak (fun i _ hi => ⟨hi, fun e => by have := (h.row.lt i e).2; omega⟩)⟩
theorem RdC.setS {s9 : Cmp.St} (h : RdC R TB DT c n s fv v w) {N0 : Nat → Prop} (k : Keep N0 w w') (hT : ¬ N0 TB) (hD : ¬ N0 DT) (hrem : s9.rem = s.rem) (hp : s9.pend = s.pend) (hvv : s9.val = s.val) (hb : w'.heap[R]? = some (.cells (.int .i64 1 :: .bool c.plain :: .bool c.sr :: .bool c.sw :: .int .i32 c.msg :: .int .i32 c.cont :: .int .i32 c.frame :: .pointer (some ⟨TB, 0, none⟩) :: .int .i64 n :: crT s9 fv2 v).toArray 216 (0, 0)))
  (hrow : LRow w' fv2 s9.outer (RTD R TB DT)) (hl : -32768 ≤ s9.last ∧ s9.last ≤ 32767) (ho : ∀ x ∈ s9.outer, -32768 ≤ x ∧ x ≤ 32767) : RdC R TB DT c n s9 fv2 v w' :=
 ⟨⟨hb, hrem ▸ h.p.tube.keep k hT (fun _ => hD), h.p.ne, h.p.cok, hrem ▸ h.p.size⟩, fun e => hvv ▸ h.val (hp ▸ e), hrow, hl, ho, Nat.lt_of_lt_of_le h.dlt k.size, h.neD⟩
theorem gg_ret_new {f : Func} {slot : Nat} {a : Act} {U : Nat} (hf : f.results = #[.cell slot 75]) (hd : a.defers = []) (ha : a.tmps[slot]?.getD undef = .pointer (some ⟨U, 0, none⟩))
  (hU : w1.heap.size = U) (h1 : RdC R TB DT c n s' fv2 v2 w1) (hk : Keep (fun i => RT R TB i ∨ fv.ownBlock = some i) w w1) (ho : ∀ i, fv2.ownBlock = some i → fv.ownBlock = some i ∨ w.heap.size ≤ i) : bodyPost Tryz.prog f (GG R TB DT c n s fv w 0 s' 0 0 0 0 0 []) Exit.ret a (w1.alloc (.cells (gotA 0 0 0 0 0 0 (.slice none 0 0)) 75)) := by
 have hkU : Keep (fun _ => False) w1 (w1.alloc (.cells (gotA 0 0 0 0 0 0 (.slice none 0 0)) 75)) := (Keep.refl _ w1).alloc _
 exact ret_got (U := U) hf hd ha (by rw [← hU]; exact heap_alloc_new w1 _) ⟨_, _, _, _, _, _, _, rfl, ⟨_, _, _, rfl⟩, .inr (.inr rfl), hk.trans hkU (fun i hi e => e.elim), s', fv2, v2, h1.fresh hkU, fun _ => rfl, ho, fun _ => ⟨rfl, rfl, rfl, rfl, rfl, BytesAt.nil _ _⟩⟩
theorem gg_ret {f : Func} {slot : Nat} {a : Act} {U : Nat} {v0 v1 v2' v3 v4 v5 v6 : Value} (hf : f.results = #[.cell slot 75]) (hd : a.defers = []) (ha : a.tmps[slot]?.getD undef = .pointer (some ⟨U, 0, none⟩))
  (hU : w.heap.size ≤ U) (HU : w1.heap[U]? = some (.cells #[v0, v1, v2', v3, v4, v5, v6] 75 (0, 0))) (hUn : ¬ (RTD R TB DT U ∨ fv2.ownBlock = some U)) (h1 : RdC R TB DT c n s' fv2 v2 w1) (hk : Keep (fun i => RT R TB i ∨ fv.ownBlock = some i) w w1) (ho : ∀ i, fv2.ownBlock = some i → fv.ownBlock = some i ∨ w.heap.size ≤ i) : bodyPost Tryz.prog f (GG R TB DT c n s fv w 0 s' 0 0 0 0 0 []) Exit.ret a (gotW w1 U 0 0 0 0 0 0 (.slice none 0 0)) := by
 have hkU : Keep (fun i => U = i) w1 (gotW w1 U 0 0 0 0 0 0 (.slice none 0 0)) := got_keep (Keep.refl _ w1) (fun _ => rfl) _ _ _ _ _ _ _
 exact ret_got (U := U) hf hd ha (got_set HU _ _ _ _ _ _ _) ⟨_, _, _, _, _, _, _, rfl, ⟨_, _, _, rfl⟩, .inr (.inr rfl), hk.trans hkU (fun i hi e => by omega), s', fv2, v2, h1.keep hkU (fun e => hUn (.inl (.inl e))) (fun e => hUn (.inl (.inr (.inl e)))) (fun e => hUn (.inl (.inr (.inr e)))) (fun i e e2 => hUn (.inr (e2 ▸ e))), fun _ => rfl, ho, fun _ => ⟨rfl, rfl, rfl, rfl, rfl, BytesAt.nil _ _⟩⟩
set_option maxRecDepth 100000 in
theorem c_d3_false (hp : s.pend = false) (hd : 1 ≤ s.outer.length) (h : RdC R TB DT c n s fv v w) :
  Calls Tryz.prog 82 #[.pointer (some ⟨R, 0, none⟩), .agg (stepG 3 a1 a2 a3 a4 a5 sv)] w (GG R TB DT c n s fv w 0 (Cmp.seS s) 0 0 0 0 0 []) := by
 obtain ⟨rem, last, outer, pend, val⟩ := s
 obtain ⟨o', x, rfl⟩ : ∃ o' x, outer = o' ++ [x] := ⟨outer.dropLast, outer.getLast (by intro e; rw [e] at hd; simp at hd), (List.dropLast_concat_getLast _).symm⟩
 obtain ⟨m, hm⟩ : ∃ m, o'.length = m := ⟨_, rfl⟩
 have hrow := h.row
 rcases hrow with ⟨_, hn2⟩ | ⟨g, cap, cs, hfv, hbg, hg, hnc, hcs, hcm, hcells⟩
 ·simp at hn2
 subst hfv
 have hlen : (o' ++ [x]).length = m + 1 := by simp [hm]
 rw [hlen] at h hnc ⊢
 have hcx : w.cell? ⟨g, m, none⟩ = some (.int .i64 x) := by
  rw [cellAt hg]
  exact hcells m x (by simp [← hm])
 have hTU := h.ltT
 have hRU := h.ltR
 obtain ⟨c9, c10, c11, c12⟩ := h.ccells
 have f9 := cell_free h.p.blk 9
 have f10 := cell_free h.p.blk 10
 simp only [] at hp
 subst hp
 have HH := hdd h
 have HT := hdd (And.intro hg (And.intro hbg (And.intro hcs (And.intro hcm hcells))))
 have HM := hdd hm
 have hmax : (cap : Int) ≤ 9223372036854775807 := by simp only [maxLen] at hcm; omega
 have hw : IntKind.i64.wrap (((m + 1 : Nat) : Int) - 1) = (m : Nat) := by rw [show (((m + 1 : Nat) : Int) - 1) = (m : Nat) by omega]; exact IntWalk.i64_in _ (by omega)
 have hz : (((m + 1 : Nat) : Int) == 0) = false := by simpa using (show ¬ ((m + 1 : Nat) : Int) = 0 by omega)
 have hgR : ¬ g = R := fun e => hbg (.inl e)
 have hgl := lt_of_heap hg
 clear hg hbg hcs hcm hcells hm hlen hd
 go_enter Tryz.func82, Tryz.ntmps82
 go_wp2_with fail
 have hH := HH.out
 obtain ⟨hg, hbg, hcs, hcm, hcells⟩ := HT.out
 have hse : Cmp.seS ⟨rem, last, o' ++ [x], false, val⟩ = ⟨rem, x, o', false, val⟩ := by simp [Cmp.seS]
 rw [hse]
 have hkS : Keep (fun i => R = i) w ((w.setCell ⟨R, 9, none⟩ (.int .i64 x)).setCell ⟨R, 10, none⟩ (.slice (some ⟨g, 0, none⟩) m m)) := ((Keep.refl _ w).set R 9 (fun _ => rfl) _).set R 10 (fun _ => rfl) _
 have hb := heap_set_same (i := 10) (heap_set_same (i := 9) hH.p.blk (.int .i64 x)) (.slice (some ⟨g, 0, none⟩) m m)
 have h1 : RdC R TB DT c n ⟨rem, x, o', false, val⟩ (.slice (some ⟨g, 0, none⟩) m m) v ((w.setCell ⟨R, 9, none⟩ (.int .i64 x)).setCell ⟨R, 10, none⟩ (.slice (some ⟨g, 0, none⟩) m m)) := by
  refine hH.setS hkS (fun e => hH.p.ne e) hH.neD rfl rfl rfl (by simpa using hb) (.inr ⟨g, m, cs, by rw [HM.out], hbg, (hkS.block g hgl (fun e => hgR e.symm)).trans hg, Nat.le_of_eq HM.out, by omega, by omega, fun j y hj => hcells j y ?_⟩) (hH.out16 x (by simp)) (fun y hy => hH.out16 y (by simp at hy ⊢; exact .inl hy))
  rw [List.getElem?_append_left (List.getElem?_eq_some_iff.1 hj).1]
  exact hj
 exact gg_ret_new (U := w.heap.size + 1) Tryz.results82 rfl rfl (by simp) (h1.fresh ((Keep.refl _ _).alloc _)) ((hkS.weak (fun i _ e => .inl (.inl e))).alloc _) (fun i e => .inl e)
set_option maxRecDepth 100000 in
theorem c_d2_false (hp : s.pend = false) (hd : s.outer.length < 1099511627776) (h : RdC R TB DT c n s fv v w) :
  Calls Tryz.prog 82 #[.pointer (some ⟨R, 0, none⟩), .agg (stepG 2 a1 a2 a3 a4 a5 sv)] w (GG R TB DT c n s fv w 0 (Cmp.sbS s) 0 0 0 0 0 []) := by
 obtain ⟨rem, last, outer, pend, val⟩ := s
 have hTU := h.ltT
 have hRU := h.ltR
 obtain ⟨c9, c10, c11, c12⟩ := h.ccells
 have f9 := cell_free h.p.blk 9
 have f10 := cell_free h.p.blk 10
 simp only [] at hp
 subst hp
 have HH := hdd h
 have HD := hdd hd
 obtain ⟨ii, hii, hiz, his, hib⟩ := int_info
 obtain ⟨a0, m0, cc0, hfv0⟩ := h.row.shape
 subst hfv0
 obtain ⟨fv, hfv⟩ : ∃ fv, Value.slice a0 m0 cc0 = fv := ⟨_, rfl⟩
 have HFV := hdd hfv
 clear hfv
 have hk0 : Keep (fun _ => False) w ((w.alloc (.cells (stepG 2 a1 a2 a3 a4 a5 sv) 119)).alloc (.cells zGot 75)) := ((Keep.refl _ w).alloc _).alloc _
 have hU0 := heap_alloc_new (w.alloc (.cells (stepG 2 a1 a2 a3 a4 a5 sv) 119)) (.cells zGot 75)
 go_enter Tryz.func82, Tryz.ntmps82
 go_wp2_with fail
 obtain ⟨U, hU⟩ : ∃ U, w.heap.size + 1 = U := ⟨_, rfl⟩
 have hsA : ((w.alloc (.cells (stepG 2 a1 a2 a3 a4 a5 sv) 119)).alloc (.cells zGot 75)).heap.size = U + 1 := by simp [← hU]
 rw [show (w.alloc (.cells (stepG 2 a1 a2 a3 a4 a5 sv) 119)).heap.size = U by simp [← hU]] at hU0
 generalize (w.alloc (.cells (stepG 2 a1 a2 a3 a4 a5 sv) 119)).alloc (.cells zGot 75) = wA at *
 rw [hU]
 have HUS := hdd hU
 clear hU
 have hA := h.fresh hk0
 obtain ⟨c9, c10, c11, c12⟩ := hA.ccells
 have f9 := cell_free hA.p.blk 9
 have f10 := cell_free hA.p.blk 10
 have hkB : Keep (fun _ => False) wA (wA.drew.alloc (.cells #[.int .i64 last] 3)) := ((Keep.refl _ wA).drew).alloc _
 have HROW := hdd (hA.row.keep hkB (fun _ _ => id))
 have hn1 : ∀ j u, [Value.int .i64 last][j]? = some u → (wA.drew.alloc (.cells #[.int .i64 last] 3)).cell? ((⟨wA.heap.size, 0, none⟩ : Addr).add j) = some u := cell_one_new wA.drew _ _
 have hBad : ∀ i, RTD R TB DT i → i < (wA.drew.alloc (.cells #[.int .i64 last] 3)).heap.size := by
  intro i hi
  have := hA.ltR
  have := hA.ltT
  have := hA.dlt
  simp
  rcases hi with rfl | rfl | rfl <;> omega
 have HBad := hdd hBad
 have HA := hdd hA
 have HKB := hdd hkB
 have HK0 := hdd hk0
 have HU0 := hdd hU0
 have HN1 := hdd hn1
 have hRA := hA.ltR
 have hneR : ¬ (Value.slice a0 m0 cc0).ownBlock = some R := fun e => (hA.row.lt R e).1 (.inl rfl)
 have hneU : ¬ (Value.slice a0 m0 cc0).ownBlock = some U := fun e => by have := (HH.out.row.lt U e).2; have := HUS.out; omega
 have HNR := hdd hneR
 have HNU := hdd hneU
 have HSA := hdd hsA
 clear hBad hA hkB hk0 hU0 hn1 h hneR hneU hsA
 go_region_law (refine step_append_lrow rfl (.tmp 38) (.tmp 44) 34 rfl ii Tryz.underlying34 hii hiz his hib (.slice a0 m0 cc0) outer (RTD R TB DT) rfl HROW.out HBad.out ⟨wA.heap.size, 0, none⟩ last rfl HN1.out HD.out ?_; intro v' w2 hrow hg hat; obtain ⟨va, vm, vc, rfl⟩ := hrow.shape; have HROW2 := hdd hrow; have HG := hdd hg; have HAT := hdd hat; have hb2 := (hg.block R (by have := HSA.out; simp; omega) (fun e => HNR.out e.symm)).trans ((HKB.out.block R hRA id).trans HA.out.p.blk); have HB2 := hdd hb2; have hu2 := (hg.block U (by have := HSA.out; simp; omega) (fun e => HNU.out e.symm)).trans ((HKB.out.block U (by have := HSA.out; omega) id).trans HU0.out); have HU2 := hdd hu2; have f9 := cell_free hb2 9; have f10 := cell_free hb2 10; have c9 : w2.cell? ⟨R, 9, none⟩ = some (.int .i64 last) := (by simp [cellAt hb2]); have c10 : w2.cell? ⟨R, 10, none⟩ = some (.slice a0 m0 cc0) := (by simp [cellAt hb2]); obtain ⟨u0, u1, u2, u3, u4, u5, u6⟩ := got_cells hu2; obtain ⟨f0, f1, f2, f3, f4, f5, f6⟩ := got_free hu2; clear hrow hg hat hb2 hu2)
 all_goals
  go_wp2_with fail
  have hH := HH.out
  have hsU := HUS.out
  have hsA := HSA.out
  have hg := HG.out
  have hat := HAT.out
  have hlR := hH.ltR
  have hlT := hH.ltT
  have hlD := hH.dlt
  have hkA2 : Keep (fun i => (Value.slice a0 m0 cc0).ownBlock = some i) wA w2 := (HKB.out.weak (fun _ _ x => x.elim)).grown hg (fun k e _ => e)
  have hkw : Keep (fun i => (Value.slice a0 m0 cc0).ownBlock = some i) w w2 := (HK0.out.weak (fun _ _ x => x.elim)).then hkA2
  have hkS : Keep (fun i => R = i) w2 ((w2.setCell ⟨R, 10, none⟩ (.slice va vm vc)).setCell ⟨R, 9, none⟩ (.int .i64 0)) := ((Keep.refl _ w2).set R 10 (fun _ => rfl) _).set R 9 (fun _ => rfl) _
  have hk3 : Keep (fun i => RT R TB i ∨ (Value.slice a0 m0 cc0).ownBlock = some i) w ((w2.setCell ⟨R, 10, none⟩ (.slice va vm vc)).setCell ⟨R, 9, none⟩ (.int .i64 0)) := (hkw.weak (fun _ _ x => .inr x)).trans hkS (fun i _ e => .inl (.inl e))
  have hk4 : Keep (fun i => R = i ∨ (Value.slice a0 m0 cc0).ownBlock = some i) w ((w2.setCell ⟨R, 10, none⟩ (.slice va vm vc)).setCell ⟨R, 9, none⟩ (.int .i64 0)) := (hkw.weak (fun _ _ x => .inr x)).trans hkS (fun i _ e => .inl e)
  have hb3 := heap_set_same (i := 9) (heap_set_same (i := 10) HB2.out (.slice va vm vc)) (.int .i64 0)
  have hsz2 : wA.heap.size + 1 ≤ w2.heap.size := by have := hg.size; simpa using this
  have hnew : ∀ j, (Value.slice va vm vc).ownBlock = some j → (Value.slice a0 m0 cc0).ownBlock = some j ∨ U < j := fun j e => by
   rcases hat with e2 | e2
   ·exact .inl (e2 ▸ e)
   ·right
    rw [e2] at e
    simp at e
    omega
  have h1 : RdC R TB DT c n (Cmp.sbS ⟨rem, last, outer, false, val⟩) (.slice va vm vc) v ((w2.setCell ⟨R, 10, none⟩ (.slice va vm vc)).setCell ⟨R, 9, none⟩ (.int .i64 0)) := by
   refine hH.setS hk4 ?_ ?_ rfl rfl rfl (by simpa [Cmp.sbS] using hb3) (HROW2.out.keep hkS (fun i e x => (HROW2.out.lt i e).1 (.inl x.symm))) ⟨show (-32768 : Int) ≤ 0 by decide, show (0 : Int) ≤ 32767 by decide⟩ (fun y hy => ?_)
   ·rintro (e | e)
    ·exact hH.p.ne e
    ·exact (hH.row.lt TB e).1 (.inr (.inl rfl))
   ·rintro (e | e)
    ·exact hH.neD e
    ·exact (hH.row.lt DT e).1 (.inr (.inr rfl))
   ·simp only [Cmp.sbS, List.mem_append, List.mem_cons, List.not_mem_nil, or_false] at hy
    rcases hy with hy | rfl
    ·exact hH.out16 y hy
    ·exact hH.last16
  refine gg_ret (U := U) Tryz.results82 rfl rfl (by omega) ((hkS.block U (lt_of_heap HU2.out) (fun e => by omega)).trans HU2.out) ?_ h1 hk3 (fun i e => (hnew i e).imp id (fun h => by omega))
  rintro ((e | e | e) | e)
  ·omega
  ·omega
  ·omega
  ·rcases hnew U e with e2 | e2
   ·exact HNU.out e2
   ·omega
end
end Go.Proofs.YtjekbomlpcdojaaGreatDoor
