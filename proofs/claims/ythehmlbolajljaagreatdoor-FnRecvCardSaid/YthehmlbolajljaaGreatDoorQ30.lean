/- Part 30 of the proof: Rg0, Gg2, FrmR, GetLR, GetTR. -/
import Derived.Test.YthehmlbolajljaaGreatDoorQ23
import Derived.Test.YthehmlbolajljaaGreatDoorQ21
import Derived.Test.YthehmlbolajljaaGreatDoorQ20
import Derived.Test.YthehmlbolajljaaGreatDoorQ15
import Derived.Test.YthehmlbolajljaaGreatDoorQ29
import Derived.Maps.AppendAt
import Derived.Deep.LoopGhost
set_option linter.unusedVariables false
set_option linter.unusedSimpArgs false
set_option linter.unusedSectionVars false
set_option maxHeartbeats 16000000
namespace Go.Proofs.YthehmlbolajljaaGreatDoor
open Go Go.RowKit
abbrev Rdr.Own {σ : Type} (r : Rdr σ) (n : Nat) (S : List (Nat × Array Value × TypeId)) (w : World) : Nat → Prop := fun i => n ≤ i ∧ (∀ p ∈ S, i ≠ p.1) ∧ ¬ r.M w i
structure Rdr.Frame {σ : Type} (r : Rdr σ) (w : World) (U : Nat) (S : List (Nat × Array Value × TypeId)) (d : Nat) (T KT E : Int) (ids : List Int) (vs : List V) (iv lv : Value) (rows : List (List Value)) (wr : World) : Prop where
 kp : Kpt r.M w wr
 vb : VB 34 d w.heap.size U (r.Own w.heap.size S wr) T KT E ids vs iv lv rows wr
 still : ∀ p ∈ S, w.heap.size ≤ p.1 ∧ wr.heap[p.1]? = some (.cells p.2.1 p.2.2 (0, 0)) ∧ ¬ r.M wr p.1
section
variable {σ : Type} {r : Rdr σ} {w wr w3 w6 w7 : World} {U : Nat} {S : List (Nat × Array Value × TypeId)} {d : Nat} {T KT E : Int} {ids : List Int} {vs : List V} {iv lv lv' : Value} {rows : List (List Value)} {s s1 s' : σ}
theorem Rdr.Frame.call (f : r.Frame w U S d T KT E ids vs iv lv rows wr) (hk : Kpt r.M wr w3) : r.Frame w U S d T KT E ids vs iv lv rows w3 :=
 ⟨f.kp.then hk, ((f.vb.weak (A' := fun i => r.Own w.heap.size S wr i ∧ i < wr.heap.size) (fun i hi x => ⟨x, hi⟩) (fun i x => x.1.1)).keep hk.keep (fun i x => x.1.2.2)).weak (fun i _ x => ⟨x.1.1, x.1.2.1, fun m => x.1.2.2 (hk.grow i x.2 m)⟩) (fun i x => x.1),
  fun p hp => let ⟨h1, h2, h3⟩ := f.still p hp; ⟨h1, (hk.block p.1 (lt_of_heap h2) h3).trans h2, hk.not (lt_of_heap h2) h3⟩⟩
theorem Rdr.Frame.fresh (ok : r.Ok) (f : r.Frame w U S d T KT E ids vs iv lv rows wr) (i1 : r.Inv s1 wr) (hk : Keep (fun _ => False) wr w3) : r.Frame w U S d T KT E ids vs iv lv rows w3 :=
 f.call (ok.kept i1 hk)
theorem Rdr.Frame.mine (f : r.Frame w U S d T KT E ids vs iv lv rows wr) : ∀ i, U = i ∨ iv.ownBlock = some i ∨ lv.ownBlock = some i → w.heap.size ≤ i ∧ i < wr.heap.size ∧ (∀ p ∈ S, i ≠ p.1) ∧ ¬ r.M wr i := by
 rintro i (rfl | e | e)
 ·exact ⟨f.vb.inA.1, lt_of_heap f.vb.blk, f.vb.inA.2⟩
 ·exact ⟨(f.vb.inI i e).1, (f.vb.ids.lt i e).2, (f.vb.inI i e).2⟩
 ·exact ⟨(f.vb.inL i e).1, (f.vb.parts.lt i e).2, (f.vb.inL i e).2⟩
theorem Rdr.Frame.part {x : V} {cs : List Value} (ok : r.Ok) (f : r.Frame w U S d T KT E ids vs iv lv rows w6) (i6 : r.Inv s' w6)
  (hx : ValAt d (fun i => (∀ j, U = j ∨ iv.ownBlock = some j ∨ lv.ownBlock = some j → i ≠ j) ∧ r.Own w.heap.size S w6 i) w6 cs x)
  (hown : w7.ownsRow w.heap.size 34 7 lv' (vs.length + 1) (rows.flatten ++ cs)) (hg : w6.grownBy w7 lv.ownBlock) (hat : lv'.ownBlock = lv.ownBlock ∨ lv'.ownBlock = some w6.heap.size) :
  r.Frame w U S d T KT E ids (vs ++ [x]) iv lv' (rows ++ [cs]) (w7.setCell ⟨U, 6, none⟩ lv') ∧ r.Inv s' (w7.setCell ⟨U, 6, none⟩ lv') := by
 have hmine := f.mine
 have hk : Keep (fun i => U = i ∨ lv.ownBlock = some i) w6 (w7.setCell ⟨U, 6, none⟩ lv') := ((Keep.refl _ w6).grown hg (fun k e _ => .inr e)).set U 6 (fun _ => .inl rfl) lv'
 obtain ⟨t1, t3⟩ := ok.turn i6 hk (fun i e => by
  have := hmine i (e.elim .inl (fun y => .inr (.inr y)))
  exact this.2.2.2)
 have t2 : Kpt r.M w (w7.setCell ⟨U, 6, none⟩ lv') := Kpt.turned f.kp hk (fun i e => (hmine i (e.elim .inl (fun y => .inr (.inr y)))).1) t3
 have hlt := ok.lt i6
 have hs67 := hg.size
 refine ⟨⟨t2, ?_, ?_⟩, t1⟩
 ·refine VB.part f.vb (hx.weak (fun i _ y => ⟨y.2, y.1 U (.inl rfl), fun e => y.1 i (.inr (.inl e)) rfl, fun e => y.1 i (.inr (.inr e)) rfl⟩)) hown hg (fun i e => ?_) (fun i hi y => ⟨y.1, y.2.1, fun m => y.2.2 (t3 i m)⟩) (fun i hi _ => ⟨?_, fun p hp e => ?_, fun m => ?_⟩) (fun i y => y.1)
  ·rcases hat with e2 | e2
   ·exact .inl (e2 ▸ e)
   ·rw [e2] at e
    cases e
    exact .inr (Nat.le_refl _)
  ·have := f.kp.size
   omega
  ·have := lt_of_heap (f.still p hp).2.1
   omega
  ·have := hlt i (t3 i m)
   omega
 ·intro p hp
  obtain ⟨h1, h2, h3⟩ := f.still p hp
  refine ⟨h1, (hk.block p.1 (lt_of_heap h2) ?_).trans h2, fun m => h3 (t3 p.1 m)⟩
  intro e
  exact (hmine p.1 (e.elim .inl (fun y => .inr (.inr y)))).2.2.1 p hp rfl
end
theorem vb_start {TV : TypeId} {d B0 U : Nat} {A : Nat → Prop} {T KT E : Int} {w : World} (h : w.heap[U]? = some (.cells (valC T 0 nilB KT E (.slice none 0 0) (.slice none 0 0)) TV (0, 0))) (hU : A U) (hB : ∀ i, A i → B0 ≤ i) :
  VB TV d B0 U A T KT E [] [] (.slice none 0 0) (.slice none 0 0) [] w :=
 ⟨h, hU, hB, World.ownsRow_nil _ _ _ _, World.ownsRow_nil _ _ _ _, fun i e => (by cases e), fun i e => (by cases e), rfl, fun j x hj => (by simp at hj), fun e => (by cases e), fun e => (by cases e), .inl rfl⟩
theorem Rdr.Frame.drop {σ : Type} {r : Rdr σ} {w wr : World} {U : Nat} {p : Nat × Array Value × TypeId} {S : List (Nat × Array Value × TypeId)} {d : Nat} {T KT E : Int} {ids : List Int} {vs : List V} {iv lv : Value} {rows : List (List Value)}
  (f : r.Frame w U (p :: S) d T KT E ids vs iv lv rows wr) : r.Frame w U S d T KT E ids vs iv lv rows wr :=
 ⟨f.kp, f.vb.weak (fun i _ x => ⟨x.1, fun q hq => x.2.1 q (List.mem_cons_of_mem _ hq), x.2.2⟩) (fun i x => x.1), fun q hq => f.still q (List.mem_cons_of_mem _ hq)⟩
theorem Rdr.Frame.add {σ : Type} {r : Rdr σ} {w wr : World} {U : Nat} {S : List (Nat × Array Value × TypeId)} {d : Nat} {T KT E : Int} {ids : List Int} {vs : List V} {iv lv : Value} {rows : List (List Value)} {s1 : σ} (ok : r.Ok) (i1 : r.Inv s1 wr)
  (f : r.Frame w U S d T KT E ids vs iv lv rows wr) (cs : Array Value) (TT : TypeId) : r.Frame w U ((wr.heap.size, cs, TT) :: S) d T KT E ids vs iv lv rows (wr.alloc (.cells cs TT (0, 0))) := by
 have hk : Keep (fun _ => False) wr (wr.alloc (.cells cs TT (0, 0))) := (Keep.refl _ wr).alloc _
 have hkp := ok.kept i1 hk
 have hnew := ok.new i1 hk
 have f2 := f.call hkp
 refine ⟨f2.kp, ?_, ?_⟩
 ·refine ((f.vb.weak (A' := fun i => r.Own w.heap.size S wr i ∧ i < wr.heap.size) (fun i hi x => ⟨x, hi⟩) (fun i x => x.1.1)).keep hk (fun _ _ => id)).weak (fun i _ x => ⟨x.1.1, fun q hq e => ?_, fun m => x.1.2.2 (hkp.grow i x.2 m)⟩) (fun i x => x.1)
  rcases List.mem_cons.1 hq with rfl | hq
  ·have := x.2
   simp at e
   omega
  ·exact x.1.2.1 q hq e
 ·intro q hq
  rcases List.mem_cons.1 hq with rfl | hq
  ·exact ⟨f.kp.size, heap_alloc_new wr _, hnew _ (Nat.le_refl _)⟩
  ·exact f2.still q hq
theorem sval_info : ∃ i, Tryz.prog.info? 34 = some i ∧ i.zero = some (.agg (valC 0 0 nilB 0 0 (.slice none 0 0) (.slice none 0 0))) ∧ i.size = 7 ∧ i.bytes = 104 := ⟨Tryz.t34, by kernel_rfl, by kernel_rfl, by kernel_rfl, by kernel_rfl⟩
theorem sval_size : (Tryz.prog.info? 34).map (·.size) = some 7 := by kernel_rfl
def Rdr.GetP {σ : Type} (r : Rdr σ) (d : Nat) (w : World) (q : Int × σ × V) (e : Ending) (w' : World) : Prop :=
 ∃ T N Sa Sm Sc KT E Ia Im Ic La Lm Lc x, e = .returned (.tuple #[.agg (valC T N (.slice Sa Sm Sc) KT E (.slice Ia Im Ic) (.slice La Lm Lc)), .int .i64 x]) ∧ Sk q.1 x ∧ (∃ s2, r.Inv s2 w' ∧ (x = 0 → s2 = q.2.1)) ∧ Kpt r.M w w' ∧
  (x = 0 → ValAt d (fun i => w.heap.size ≤ i ∧ ¬ r.M w' i) w' (valC T N (.slice Sa Sm Sc) KT E (.slice Ia Im Ic) (.slice La Lm Lc)).toList q.2.2)
abbrev Rdr.Gets {σ : Type} (r : Rdr σ) (d : Nat) : Prop := ∀ (deep t : Int) (s : σ) (w : World), deep.toNat = d → -9223372036854775808 ≤ deep → deep ≤ 9223372036854775807 → r.Inv s w → r.pr.Room s →
 Calls Tryz.prog 64 #[.pointer (some ⟨r.R, 0, none⟩), .int .i64 t, .int .i64 deep] w (r.GetP d w (gt r.pr d t s))
theorem ivb_start {TV : TypeId} {d B0 U : Nat} {A : Nat → Prop} {T KT E : Int} {w : World} (h : w.heap[U]? = some (.cells (valC T 0 nilB KT E (.slice none 0 0) (.slice none 0 0)) TV (0, 0))) (hU : A U) (hB : ∀ i, A i → B0 ≤ i) :
  VB TV d B0 U A T KT E [] [] (.slice none 0 0) (.slice none 0 0) [] w :=
 ⟨h, hU, hB, World.ownsRow_nil _ _ _ _, World.ownsRow_nil _ _ _ _, fun i e => (by cases e), fun i e => (by cases e), rfl, fun j x hj => (by simp at hj), fun e => (by cases e), fun e => (by cases e), .inl rfl⟩
theorem wpList_named {P : Program} {w : World} {ops : Array Oper} {rest : List Oper} {o : Oper} {a : Act} {Q : Exit → Act → World → Prop} (t : Nat) (_ : o.dst = some t) (h : ∀ W, w = W → wpList P ops Q (o :: rest) a W) : wpList P ops Q (o :: rest) a w := h w rfl
theorem val_keep {M : Nat → Prop} {a w : World} {R : Nat} (h : Keep M a w) (hR : R < a.heap.size → M R) (x0 x1 x2 x3 x4 x5 x6 : Value) :
  Keep M a (((((((w.setCell ⟨R, 0, none⟩ x0).setCell ⟨R, 1, none⟩ x1).setCell ⟨R, 2, none⟩ x2).setCell ⟨R, 3, none⟩ x3).setCell ⟨R, 4, none⟩ x4).setCell ⟨R, 5, none⟩ x5).setCell ⟨R, 6, none⟩ x6) :=
 ((((((h.set R 0 hR x0).set R 1 hR x1).set R 2 hR x2).set R 3 hR x3).set R 4 hR x4).set R 5 hR x5).set R 6 hR x6
theorem own_shape {w : World} {B n size : Nat} {e : TypeId} {v : Value} {xs : List Value} (h : w.ownsRow B e size v n xs) : ∃ a m c, v = .slice a m c := by
 rcases h.2 with ⟨rfl, _⟩ | ⟨g, cap, cur, rfl, _⟩
 ·exact ⟨_, _, _, rfl⟩
 ·exact ⟨_, _, _, rfl⟩
theorem ival_info : ∃ i, Tryz.prog.info? 29 = some i ∧ i.zero = some (.agg zVal) ∧ i.size = 7 ∧ i.bytes = 104 := ⟨Tryz.t29, by kernel_rfl, by kernel_rfl, by kernel_rfl, by kernel_rfl⟩
theorem ty8_id {t : Int} (h : 0 ≤ t ∧ t ≤ 255) : ty8 t = t := by
 simp [ty8, IntKind.wrap, IntKind.bits, IntKind.signed]
 omega
theorem new_cells (w : World) (cs : Array Value) (T : TypeId) : ∀ j u, cs.toList[j]? = some u → (w.alloc (.cells cs T)).cell? ((⟨w.heap.size, 0, none⟩ : Addr).add j) = some u := by
 intro j u hj
 rw [Addr.add_lit, Nat.zero_add, cellAt (heap_alloc_new w _)]
 simpa using hj
abbrev Rp.Gets {St : Type} (K : Rp.Ctx St) (d : Nat) : Prop := ∀ (deep t : Int) (s : St) (w : World), deep.toNat = d → -9223372036854775808 ≤ deep → deep ≤ 9223372036854775807 → 0 ≤ t → t ≤ 255 → K.Inv s w → K.pr.Room s →
 Calls Tryz.prog 29 #[K.V, .int .u8 t, .int .i64 deep] w (Rp.GetP K d w (gt K.pr d t s))
abbrev Rp.Own {St : Type} (K : Rp.Ctx St) (n : Nat) (S : List (Nat × Array Value × TypeId)) (w : World) : Nat → Prop := fun i => n ≤ i ∧ (∀ p ∈ S, i ≠ p.1) ∧ ¬ K.M w i
structure Rp.Frame {St : Type} (K : Rp.Ctx St) (w : World) (U : Nat) (S : List (Nat × Array Value × TypeId)) (d : Nat) (T KT E : Int) (ids : List Int) (vs : List _root_.Go.Proofs.YthehmlbolajljaaGreatDoor.V) (iv lv : Value) (rows : List (List Value)) (wr : World) : Prop where
 kp : Kpt (K.M) w wr
 vb : VB 29 d w.heap.size U (Rp.Own K w.heap.size S wr) T KT E ids vs iv lv rows wr
 still : ∀ p ∈ S, w.heap.size ≤ p.1 ∧ wr.heap[p.1]? = some (.cells p.2.1 p.2.2 (0, 0)) ∧ ¬ K.M wr p.1
section
variable {St : Type} {K : Rp.Ctx St} {w wr w3 w6 w7 : World} {U : Nat} {S : List (Nat × Array Value × TypeId)} {d : Nat} {T KT E : Int} {ids : List Int} {vs : List _root_.Go.Proofs.YthehmlbolajljaaGreatDoor.V} {iv lv lv' : Value} {rows : List (List Value)} {s s1 s' : St}
theorem Rp.Frame.call (f : Rp.Frame K w U S d T KT E ids vs iv lv rows wr) (hk : Kpt (K.M) wr w3) : Rp.Frame K w U S d T KT E ids vs iv lv rows w3 :=
 ⟨f.kp.then hk, ((f.vb.weak (A' := fun i => Rp.Own K w.heap.size S wr i ∧ i < wr.heap.size) (fun i hi x => ⟨x, hi⟩) (fun i x => x.1.1)).keep hk.keep (fun i x => x.1.2.2)).weak (fun i _ x => ⟨x.1.1, x.1.2.1, fun m => x.1.2.2 (hk.grow i x.2 m)⟩) (fun i x => x.1),
  fun p hp => let ⟨h1, h2, h3⟩ := f.still p hp; ⟨h1, (hk.block p.1 (lt_of_heap h2) h3).trans h2, hk.not (lt_of_heap h2) h3⟩⟩
theorem Rp.Frame.fresh (h : K.Inv s w) (f : Rp.Frame K w U S d T KT E ids vs iv lv rows wr) (i1 : K.Inv s1 wr) (hk : Keep (fun _ => False) wr w3) : Rp.Frame K w U S d T KT E ids vs iv lv rows w3 :=
 f.call (Rp.kept i1 hk)
theorem Rp.Frame.mine (f : Rp.Frame K w U S d T KT E ids vs iv lv rows wr) : ∀ i, U = i ∨ iv.ownBlock = some i ∨ lv.ownBlock = some i → w.heap.size ≤ i ∧ i < wr.heap.size ∧ (∀ p ∈ S, i ≠ p.1) ∧ ¬ K.M wr i := by
 rintro i (rfl | e | e)
 ·exact ⟨f.vb.inA.1, lt_of_heap f.vb.blk, f.vb.inA.2⟩
 ·exact ⟨(f.vb.inI i e).1, (f.vb.ids.lt i e).2, (f.vb.inI i e).2⟩
 ·exact ⟨(f.vb.inL i e).1, (f.vb.parts.lt i e).2, (f.vb.inL i e).2⟩
theorem Rp.Frame.part {x : _root_.Go.Proofs.YthehmlbolajljaaGreatDoor.V} {cs : List Value} (h : K.Inv s w) (f : Rp.Frame K w U S d T KT E ids vs iv lv rows w6) (i6 : K.Inv s' w6)
  (hx : ValAt d (fun i => (∀ j, U = j ∨ iv.ownBlock = some j ∨ lv.ownBlock = some j → i ≠ j) ∧ Rp.Own K w.heap.size S w6 i) w6 cs x)
  (hown : w7.ownsRow w.heap.size 29 7 lv' (vs.length + 1) (rows.flatten ++ cs)) (hg : w6.grownBy w7 lv.ownBlock) (hat : lv'.ownBlock = lv.ownBlock ∨ lv'.ownBlock = some w6.heap.size) :
  Rp.Frame K w U S d T KT E ids (vs ++ [x]) iv lv' (rows ++ [cs]) (w7.setCell ⟨U, 6, none⟩ lv') ∧ K.Inv s' (w7.setCell ⟨U, 6, none⟩ lv') := by
 have hmine := f.mine
 have hk : Keep (fun i => U = i ∨ lv.ownBlock = some i) w6 (w7.setCell ⟨U, 6, none⟩ lv') := ((Keep.refl _ w6).grown hg (fun k e _ => .inr e)).set U 6 (fun _ => .inl rfl) lv'
 obtain ⟨t1, t2, t3⟩ := K.turn h f.kp i6 hk (fun i e => by
  have := hmine i (e.elim .inl (fun y => .inr (.inr y)))
  exact ⟨this.1, this.2.2.2⟩)
 have hlt := Rp.M_lt i6
 have hs67 := hg.size
 refine ⟨⟨t2, ?_, ?_⟩, t1⟩
 ·refine VB.part f.vb (hx.weak (fun i _ y => ⟨y.2, y.1 U (.inl rfl), fun e => y.1 i (.inr (.inl e)) rfl, fun e => y.1 i (.inr (.inr e)) rfl⟩)) hown hg (fun i e => ?_) (fun i hi y => ⟨y.1, y.2.1, fun m => y.2.2 (t3 i m)⟩) (fun i hi _ => ⟨?_, fun p hp e => ?_, fun m => ?_⟩) (fun i y => y.1)
  ·rcases hat with e2 | e2
   ·exact .inl (e2 ▸ e)
   ·rw [e2] at e
    cases e
    exact .inr (Nat.le_refl _)
  ·have := f.kp.size
   omega
  ·have := lt_of_heap (f.still p hp).2.1
   omega
  ·have := hlt i (t3 i m)
   omega
 ·intro p hp
  obtain ⟨h1, h2, h3⟩ := f.still p hp
  refine ⟨h1, (hk.block p.1 (lt_of_heap h2) ?_).trans h2, fun m => h3 (t3 p.1 m)⟩
  intro e
  exact (hmine p.1 (e.elim .inl (fun y => .inr (.inr y)))).2.2.1 p hp rfl
end
def Rp.GRel {St : Type} (K : Rp.Ctx St) (w : World) (U : Nat) (S : List (Nat × Array Value × TypeId)) (d : Nat) (T KT E : Int) (f : St → List _root_.Go.Proofs.YthehmlbolajljaaGreatDoor.V → Nat → Int × St × List _root_.Go.Proofs.YthehmlbolajljaaGreatDoor.V) (n m : Int) (tot : Int × St × List _root_.Go.Proofs.YthehmlbolajljaaGreatDoor.V) (k : Nat) (v : Value) (wr : World) : Prop :=
 ∃ i s1 vs lv rows, v = .int .i64 i ∧ 0 ≤ i ∧ k = (n - i).toNat ∧ (vs.length : Int) ≤ m * i ∧ K.Inv s1 wr ∧ Rp.Frame K w U S d T KT E [] vs (.slice none 0 0) lv rows wr ∧ f s1 vs k = tot ∧ K.pr.Room s1
set_option maxRecDepth 100000 in
theorem Rp.getList9 {St : Type} (K : Rp.Ctx St) (d : Nat) (ih : Rp.Gets K d) (deep : Int) (s : St) (w : World) (hdq : deep.toNat = d + 1) (hd : 0 < deep) (hhi : deep ≤ 9223372036854775807) (h : K.Inv s w) (hroom : K.pr.Room s) :
  Calls Tryz.prog 61 #[K.V, .agg (valC 15 0 nilB 0 0 (.slice none 0 0) (.slice none 0 0)), .int .i64 9, .int .i64 deep] w (Rp.GetP K (d + 1) w (gt K.pr (d + 1) 15 s)) := by
 have hk0 : Keep (fun _ => False) w ((w.alloc (.cells (valC 15 0 nilB 0 0 (.slice none 0 0) (.slice none 0 0)) 29 (0, 0))).alloc (.cells zVal 29 (0, 0))) := ((Keep.refl _ w).alloc _).alloc _
 have hU0 : ((w.alloc (.cells (valC 15 0 nilB 0 0 (.slice none 0 0) (.slice none 0 0)) 29 (0, 0))).alloc (.cells zVal 29 (0, 0))).heap[w.heap.size]? = some (.cells (valC 15 0 nilB 0 0 (.slice none 0 0) (.slice none 0 0)) 29 (0, 0)) := (Below.heap_alloc _ _ _ (by simp)).trans (heap_alloc_new w _)
 have hR0 : ((w.alloc (.cells (valC 15 0 nilB 0 0 (.slice none 0 0) (.slice none 0 0)) 29 (0, 0))).alloc (.cells zVal 29 (0, 0))).heap[w.heap.size + 1]? = some (.cells zVal 29 (0, 0)) := heap_alloc_at (by simp) _
 have hs0 : ((w.alloc (.cells (valC 15 0 nilB 0 0 (.slice none 0 0) (.slice none 0 0)) 29 (0, 0))).alloc (.cells zVal 29 (0, 0))).heap.size = w.heap.size + 2 := by simp
 by_cases hz : K.pr.lK s = 0
 ·by_cases hbig : K.pr.lN s > 100000
  ·have e0 : gt K.pr (d + 1) 15 s = (52, K.pr.lS s, V.zero) := by simp [gt, isSc, hz, hbig]
   rw [e0]
   have HZ := hdd hz
   have HB := hdd hbig
   clear hroom hdq hz hbig e0
   go_enter Tryz.func61, Tryz.ntmps61
   go_wp2_with fail
   obtain ⟨n0, hn⟩ : ∃ n0, w.heap.size = n0 := ⟨_, rfl⟩
   rw [hn] at hU0 hR0 hs0 ⊢
   generalize (w.alloc (.cells (valC 15 0 nilB 0 0 (.slice none 0 0) (.slice none 0 0)) 29 (0, 0))).alloc (.cells zVal 29 (0, 0)) = w1 at *
   have HN := hdd hn
   have HU0 := hdd hU0
   have HR0 := hdd hR0
   have HS0 := hdd hs0
   have HM := hdd (Rp.M_new h hk0)
   clear hn hU0 hR0 hs0
   refine (Rp.begun9 K s w1 (h.fresh hk0)).mono ?_
   rintro e w2 ⟨t, n, ev, rfl, hp, hv⟩
   have hU2 := (hp.keep.block n0 (lt_of_heap HU0.out) (fun x => by have := HM.out _ x; have := HN.out; omega)).trans HU0.out
   have hR2 := (hp.keep.block (n0 + 1) (lt_of_heap HR0.out) (fun x => by have := HM.out _ x; have := HN.out; omega)).trans HR0.out
   have HP := hdd hp
   have HU2 := hdd hU2
   have HR2 := hdd hR2
   obtain ⟨ht, hn⟩ := hv HZ.out
   have hev : ev = .nilIface := by have := hp.err; rw [HZ.out] at this; exact this.isNil
   subst hev
   have hnb : 100000 < n := by have := HB.out; omega
   have hlt2 := lt_of_heap hU2
   have hU3 := (Below.heap_alloc w2 (.cells (gotA 0 t 0 n 0 0 nilB) 139 (0, 0)) _ hlt2).trans hU2
   have hne1 : ¬ n0 = w2.heap.size := by omega
   have hne2 : ¬ w2.heap.size = n0 := by omega
   obtain ⟨x0, x1, x2, x3, x4, x5, x6⟩ := got_cells hU3
   obtain ⟨y0, y1, y2, y3, y4, y5, y6⟩ := got_free hU3
   clear hv ht hn hp hU2 hR2 hU3
   go_wp2_with (with_reducible refine wpList_named 31 rfl ?_)
   intro w4 hw4
   have hk3 : Keep (fun i => n0 = i) w2 w4 := by rw [← hw4]; exact ((Keep.refl _ w2).set n0 4 (fun _ => rfl) _).alloc _
   have hU4 : w4.heap[n0]? = some (.cells (valC 15 0 nilB 0 t (.slice none 0 0) (.slice none 0 0)) 29 (0, 0)) := by rw [← hw4]; exact (Below.heap_alloc _ _ _ (by simpa [World.setCell] using hlt2)).trans (by simpa using heap_set_same (i := 4) HU2.out (.int .i64 t))
   have hR4 := (hk3.block (n0 + 1) (lt_of_heap HR2.out) (by omega)).trans HR2.out
   clear hw4 x0 x1 x2 x3 x4 x5 x6 y0 y1 y2 y3 y4 y5 y6
   have HK3 := hdd hk3
   have HR4 := hdd hR4
   obtain ⟨p0, p1, p2, p3, p4, p5, p6⟩ := got_cells hU4
   obtain ⟨q0, q1, q2, q3, q4, q5, q6⟩ := got_cells hR4
   obtain ⟨o0, o1, o2, o3, o4, o5, o6⟩ := got_free hR4
   clear hU4 hR4 hk3
   go_wp2_with fail
   have hk9 := val_keep (M := fun i => n0 ≤ i ∧ i < n0 + 2) (HK3.out.weak (fun i _ e => by omega)) (R := n0 + 1) (fun _ => by omega) (.int .i64 15) (.int .i64 0) (.slice none 0 0) (.int .i64 0) (.int .i64 t) (.slice none 0 0) (.slice none 0 0)
   refine ret_cell2 (U := n0 + 1) (T := 29) Tryz.results61 rfl rfl rfl (val_set HR4.out (.int .i64 15) (.int .i64 0) (.slice none 0 0) (.int .i64 0) (.int .i64 t) (.slice none 0 0) (.slice none 0 0)) Tryz.underlying29 ival_size ?_
   have hn0 := HN.out
   have hs1 := HS0.out
   exact ⟨15, 0, none, 0, 0, 0, t, none, 0, 0, none, 0, 0, _, rfl, Rp.through h hk0 (HP.out.own 52 (by decide) (by decide)) hk9 (fun i hi => by omega), fun hz => absurd hz (by show ¬ (52 : Int) = 0; decide)⟩
  ·obtain ⟨tot, htot⟩ : ∃ tot, gseq (gt K.pr d (K.pr.lT s)) (K.pr.lN s).toNat (K.pr.lS s) [] = tot := ⟨_, rfl⟩
   have e0 : gt K.pr (d + 1) 15 s = gend K.pr.leS (fun l => .mk 15 0 [] 0 (K.pr.lT s) [] l) tot := by rw [← htot]; simp [gt, isSc, hz, hbig]
   rw [e0]
   have HT := hdd htot
   have HRM := hdd hroom
   have hd1 : (deep - 1).toNat = d := by omega
   have HD := hdd hd1
   have HDD := hdd hdq
   have HZ := hdd hz
   have HB := hdd hbig
   clear htot hroom hd1 hdq hz hbig e0
   go_enter Tryz.func61, Tryz.ntmps61
   go_wp2_with fail
   obtain ⟨n0, hn⟩ : ∃ n0, w.heap.size = n0 := ⟨_, rfl⟩
   rw [hn] at hU0 hR0 hs0 ⊢
   generalize (w.alloc (.cells (valC 15 0 nilB 0 0 (.slice none 0 0) (.slice none 0 0)) 29 (0, 0))).alloc (.cells zVal 29 (0, 0)) = w1 at *
   have HN := hdd hn
   have HU0 := hdd hU0
   have HR0 := hdd hR0
   have HS0 := hdd hs0
   have HM := hdd (Rp.M_new h hk0)
   clear hn hU0 hR0 hs0
   refine (Rp.begun9 K s w1 (h.fresh hk0)).mono ?_
   rintro e w2 ⟨t, n, ev, rfl, hp, hv⟩
   obtain ⟨ht, hn⟩ := hv HZ.out
   have hev : ev = .nilIface := by have := hp.err; rw [HZ.out] at this; exact this.isNil
   subst hev
   have hnb : n ≤ 100000 := by have := HB.out; omega
   have HTT := hdd ht
   have HNN := hdd hn
   have hU2 := (hp.keep.block n0 (lt_of_heap HU0.out) (fun x => by have := HM.out _ x; have := HN.out; omega)).trans HU0.out
   have hR2 := (hp.keep.block (n0 + 1) (lt_of_heap HR0.out) (fun x => by have := HM.out _ x; have := HN.out; omega)).trans HR0.out
   have HP := hdd hp
   have HU2 := hdd hU2
   have HR2 := hdd hR2
   have hlt2 := lt_of_heap hU2
   have hU3 := (Below.heap_alloc w2 (.cells (gotA 0 t 0 n 0 0 nilB) 139 (0, 0)) _ hlt2).trans hU2
   have hne1 : ¬ n0 = w2.heap.size := by omega
   have hne2 : ¬ w2.heap.size = n0 := by omega
   obtain ⟨x0, x1, x2, x3, x4, x5, x6⟩ := got_cells hU3
   obtain ⟨y0, y1, y2, y3, y4, y5, y6⟩ := got_free hU3
   clear hv ht hn hp hU2 hR2 hU3
   go_wp2_with fail
   have hk3 : Keep (fun i => n0 = i) w2 ((w2.setCell ⟨n0, 4, none⟩ (.int .i64 t)).alloc (.cells (gotA 0 t 0 n 0 0 nilB) 139 (0, 0))) := ((Keep.refl _ w2).set n0 4 (fun _ => rfl) _).alloc _
   have hU4 : ((w2.setCell ⟨n0, 4, none⟩ (.int .i64 t)).alloc (.cells (gotA 0 t 0 n 0 0 nilB) 139 (0, 0))).heap[n0]? = some (.cells (valC 15 0 nilB 0 t (.slice none 0 0) (.slice none 0 0)) 29 (0, 0)) := (Below.heap_alloc _ _ _ (by simpa [World.setCell] using hlt2)).trans (by simpa using heap_set_same (i := 4) HU2.out (.int .i64 t))
   have hG4 : ((w2.setCell ⟨n0, 4, none⟩ (.int .i64 t)).alloc (.cells (gotA 0 t 0 n 0 0 nilB) 139 (0, 0))).heap[w2.heap.size]? = some (.cells (gotA 0 t 0 n 0 0 nilB) 139 (0, 0)) := heap_alloc_at (by simp [World.setCell]) _
   have hR4 := (hk3.block (n0 + 1) (lt_of_heap HR2.out) (by omega)).trans HR2.out
   generalize hw4 : (w2.setCell ⟨n0, 4, none⟩ (.int .i64 t)).alloc (.cells (gotA 0 t 0 n 0 0 nilB) 139 (0, 0)) = w4 at *
   clear hw4 x0 x1 x2 x3 x4 x5 x6 y0 y1 y2 y3 y4 y5 y6
   obtain ⟨G, hG⟩ : ∃ G, w2.heap.size = G := ⟨_, rfl⟩
   rw [hG] at hG4 hne1 hne2 hlt2 ⊢
   have HG := hdd hG
   have HU4 := hdd hU4
   have HG4 := hdd hG4
   have HR4 := hdd hR4
   have HK3 := hdd hk3
   clear hU4 hG4 hR4 hk3 hG
   go_loopg [35] n.toNat (fun k v wr => Rp.GRel K w n0 [(n0 + 1, zVal, 29), (G, gotA 0 t 0 n 0 0 nilB, 139)] d 15 0 t (fun q l k => gseq (gt K.pr d (K.pr.lT s)) k q l) n 1 tot k v wr)
   case atStart =>
    have hN := HN.out
    have hnM : ∀ j, n0 ≤ j → j < w1.heap.size → ¬ K.M w2 j := fun j hj hl => HP.out.keep.not hl (fun x => by have := HM.out _ x; omega)
    have hs1 := HS0.out
    obtain ⟨j1, j2, j3⟩ := K.turn h ((Rp.kept h hk0).then HP.out.keep) (HP.out.inv HZ.out) HK3.out (fun i e => by subst e; exact ⟨by omega, hnM _ (Nat.le_refl _) (by omega)⟩)
    have hlt := Rp.M_lt (HP.out.inv HZ.out)
    have hGs := HG.out
    have hp2 := HP.out.keep.size
    refine ⟨0, _, [], _, [], rfl, by omega, by rw [Int.sub_zero], by simp, j1, ⟨j2, ivb_start HU4.out ⟨by omega, by simp; omega, fun m => hnM _ (Nat.le_refl _) (by omega) (j3 _ m)⟩ (fun i x => x.1), ?_⟩, by rw [HNN.out]; show gseq _ _ _ _ = _; exact HT.out, ?_⟩
    ·intro p hp
     simp only [List.mem_cons, List.not_mem_nil, or_false] at hp
     rcases hp with rfl | rfl
     ·exact ⟨by show w.heap.size ≤ n0 + 1; omega, HR4.out, fun m => hnM _ (by omega) (by omega) (j3 _ m)⟩
     ·exact ⟨by show w.heap.size ≤ G; omega, HG4.out, fun m => by have := hlt _ (j3 _ m); omega⟩
    ·have a1 := K.ok.l s HZ.out
     have a2 := K.ok.dl s HZ.out
     have a3 : _ + _ < _ := HRM.out
     show _ + _ < _
     omega
   case round =>
    obtain ⟨i, s1, vs, lv, rows, rfl, hi0, hk, hvl, hi1, hfr, hgs, hrm⟩ := hrel
    obtain ⟨hR1, hR2, hR3⟩ := hfr.still (n0 + 1, zVal, 29) (by simp)
    obtain ⟨hG1, hG2, hG3⟩ := hfr.still (G, gotA 0 t 0 n 0 0 nilB, 139) (by simp)
    by_cases hin : i < n
    ·cases gk with
     | zero => omega
     | succ k =>
     have HK := hdd hk
     have HGS := hdd hgs
     have HFR := hdd hfr
     have HVL := hdd hvl
     obtain ⟨u0, u1, u2, u3, u4, u5, u6⟩ := got_cells hG2
     clear hk hgs hfr hR1 hR2 hR3 hG1 hG2 hG3
     go_wp2_with fail
     refine (typ_at t _).mono ?_
     rintro e w' ⟨rfl, rfl⟩
     go_wp2_with fail
     have hb8 := K.lT_bd s
     have h8 : ty8 t = K.pr.lT s := by rw [HTT.out]; exact ty8_id hb8
     rw [h8]
     clear h8
     refine (ih (deep - 1) _ s1 wr HD.out (by omega) (by omega) hb8.1 hb8.2 hi1 hrm).mono ?_
     rintro e w3 ⟨T', N', Sa, Sm, Sc, KT', E', Ia, Im, Ic, La, Lm, Lc, ev, rfl, hp3, hval⟩
     have HF3 := hdd (HFR.out.call hp3.keep)
     have hU5 := HF3.out.vb.blk
     have hUl := lt_of_heap hU5
     have hU6 := (Below.heap_alloc w3 (.cells (valC T' N' (.slice Sa Sm Sc) KT' E' (.slice Ia Im Ic) (.slice La Lm Lc)) 29 (0, 0)) _ hUl).trans hU5
     have hne3 : ¬ n0 = w3.heap.size := by omega
     have hne4 : ¬ w3.heap.size = n0 := by omega
     have HP3 := hdd hp3
     have HVAL := hdd hval
     obtain ⟨x0, x1, x2, x3, x4, x5, x6⟩ := got_cells hU6
     clear hp3 hval hU6 hU5 hb8
     obtain ⟨vi, hvi, hvz, hvs, hvb⟩ := ival_info
     have hvs1 : vs.length + 1 ≤ 100000 := by have := HVL.out; omega
     have hnews := new_cells (w3.alloc (.cells (valC T' N' (.slice Sa Sm Sc) KT' E' (.slice Ia Im Ic) (.slice La Lm Lc)) 29)) (valC T' N' (.slice Sa Sm Sc) KT' E' (.slice Ia Im Ic) (.slice La Lm Lc)) 29
     rw [show (w3.alloc (.cells (valC T' N' (.slice Sa Sm Sc) KT' E' (.slice Ia Im Ic) (.slice La Lm Lc)) 29)).heap.size = w3.heap.size + 1 by simp] at hnews
     have hone : ∀ u ∈ ((valC T' N' (.slice Sa Sm Sc) KT' E' (.slice Ia Im Ic) (.slice La Lm Lc))).toList, u.oneCell' = true := by
      intro u hu
      simp only [List.mem_cons, List.not_mem_nil, or_false] at hu
      rcases hu with rfl | rfl | rfl | rfl | rfl | rfl | rfl <;> rfl
     have hb0 : w.heap.size ≤ ((w3.alloc (.cells (valC T' N' (.slice Sa Sm Sc) KT' E' (.slice Ia Im Ic) (.slice La Lm Lc)) 29)).alloc (.cells (valC T' N' (.slice Sa Sm Sc) KT' E' (.slice Ia Im Ic) (.slice La Lm Lc)) 29)).heap.size := by have := HF3.out.kp.size; simp; omega
     have hmx : vs.length + 1 ≤ maxLen := by simp only [maxLen]; omega
     go_wp2_with (at_builtin; refine wpList_append_own_at _ rfl (.tmp 48) (.tmp 50) 27 rfl w.heap.size 29 vi (.agg zVal) 7 104 Tryz.underlying27 hvi hvz hvs hvb rfl (by decide) lv vs.length rows.flatten rfl ((HF3.out.vb.parts.alloc _).alloc _) ⟨w3.heap.size + 1, 0, none⟩ 1 1 ((valC T' N' (.slice Sa Sm Sc) KT' E' (.slice Ia Im Ic) (.slice La Lm Lc))).toList rfl rfl hnews hone hmx (by omega) hb0 ?_)
     intro v' w7 hown hgrow hnil hat
     obtain ⟨va, vm, vc, rfl⟩ := own_shape hown
     have hmn := HFR.out.mine
     have hkk : Keep (fun _ => False) w3 ((w3.alloc (.cells (valC T' N' (.slice Sa Sm Sc) KT' E' (.slice Ia Im Ic) (.slice La Lm Lc)) 29)).alloc (.cells (valC T' N' (.slice Sa Sm Sc) KT' E' (.slice Ia Im Ic) (.slice La Lm Lc)) 29)) := ((Keep.refl _ w3).alloc _).alloc _
     have hk7 : Keep (fun i => lv.ownBlock = some i) w3 w7 := (hkk.weak (fun _ _ x => x.elim)).grown hgrow (fun k e _ => e)
     have hU7 := (hk7.block n0 hUl HF3.out.vb.neL).trans HF3.out.vb.blk
     obtain ⟨hR1, hR2, hR3⟩ := HF3.out.still (n0 + 1, zVal, 29) (by simp)
     have hR7 := (hk7.block (n0 + 1) (lt_of_heap hR2) (fun e => (hmn _ (.inr (.inr e))).2.2.1 (n0 + 1, zVal, 29) (by simp) rfl)).trans hR2
     have HOWN := hdd hown
     have HGROW := hdd hgrow
     have HAT := hdd hat
     have HK7 := hdd hk7
     have HKK := hdd hkk
     have HR7 := hdd hR7
     have HMN := hdd hmn
     clear x0 x1 x2 x3 x4 x5 x6 hnews hone hb0 hmx hown hgrow hat hnil hk7 hkk hR1 hR2 hR3 hmn hvi hvz hvs hvb
     obtain ⟨x0, x1, x2, x3, x4, x5, x6⟩ := got_cells hU7
     obtain ⟨y0, y1, y2, y3, y4, y5, y6⟩ := got_free hU7
     clear hU7
     by_cases hz3 : (gt K.pr d (K.pr.lT s) s1).1 = 0
     ·have hev : ev = .nilIface := by have := HP3.out.err; rw [hz3] at this; exact this.isNil
      subst hev
      have HZ3 := hdd hz3
      clear hz3
      go_wp2_with fail
      go_roundg k
      case measure => exact Nat.lt_succ_self _
      case rel =>
       have i3 := HP3.out.inv HZ3.out
       have hM6 := (K.turn h HF3.out.kp i3 HKK.out (fun _ x => x.elim)).2.2
       obtain ⟨F8, I8⟩ := Rp.Frame.part (x := (gt K.pr d (K.pr.lT s) s1).2.2) h (Rp.Frame.fresh h HF3.out i3 HKK.out) (i3.fresh HKK.out)
        (((HVAL.out HZ3.out).keep HKK.out (fun _ _ => id)).weak (fun i _ hi => ⟨fun j hj e => by have := (HMN.out j hj).2.1; have := hi.1; omega, by have := hi.1; have := HFR.out.kp.size; omega, fun p hp e => by have := lt_of_heap (HFR.out.still p hp).2.1; have := hi.1; omega, fun m => hi.2 (hM6 i m)⟩)) HOWN.out HGROW.out (by simpa using HAT.out)
       refine ⟨i + 1, _, _, _, _, rfl, by omega, by have := HK.out; omega, by have := HVL.out; simp; omega, I8, F8, ?_, ?_⟩
       ·show gseq _ _ _ _ = _
        rw [← HGS.out]
        exact (gseq_ok HZ3.out).symm
       ·have a1 := gt_len K.ok d _ _ HZ3.out
        have a2 := gt_dep K.ok d _ _ HZ3.out
        have a3 : _ + _ < _ := hrm
        show _ + _ < _
        omega
     ·obtain ⟨tt, x, rfl⟩ := HP3.out.err.held hz3
      have HZ3 := hdd hz3
      clear hz3
      obtain ⟨r0, r1, r2, r3, r4, r5, r6⟩ := got_cells HR7.out
      obtain ⟨z0, z1, z2, z3, z4, z5, z6⟩ := got_free HR7.out
      go_wp2_with fail
      have hR8 : (w7.setCell ⟨n0, 6, none⟩ (.slice va vm vc)).heap[n0 + 1]? = some (.cells zVal 29 (0, 0)) := (heap_set_other (p := ⟨n0, 6, none⟩) _ (by simp)).trans HR7.out
      have hk9 := val_keep (M := fun i => n0 = i ∨ lv.ownBlock = some i ∨ n0 + 1 = i) ((HK7.out.weak (fun i _ e => .inr (.inl e))).set n0 6 (fun _ => .inl rfl) (.slice va vm vc)) (R := n0 + 1) (fun _ => .inr (.inr rfl)) (.int .i64 15) (.int .i64 0) (.slice none 0 0) (.int .i64 0) (.int .i64 t) (.slice none 0 0) (.slice va vm vc)
      refine ret_cell2 (U := n0 + 1) (T := 29) Tryz.results61 rfl rfl rfl (val_set hR8 (.int .i64 15) (.int .i64 0) (.slice none 0 0) (.int .i64 0) (.int .i64 t) (.slice none 0 0) (.slice va vm vc)) Tryz.underlying29 ival_size ?_
      have hth := K.thru h HFR.out.kp hi1 HP3.out hk9 (fun i e => by
       rcases e with e | e | e
       ·have := HMN.out i (.inl e); exact ⟨this.1, this.2.1, this.2.2.2⟩
       ·have := HMN.out i (.inr (.inr e)); exact ⟨this.1, this.2.1, this.2.2.2⟩
       ·subst e
        obtain ⟨q1, q2, q3⟩ := HFR.out.still (n0 + 1, zVal, 29) (by simp)
        exact ⟨q1, lt_of_heap q2, q3⟩)
      have e1 : gend K.pr.leS (fun l => .mk 15 0 [] 0 (K.pr.lT s) [] l) tot = ((gt K.pr d (K.pr.lT s) s1).1, (gt K.pr d (K.pr.lT s) s1).2.1, V.zero) := by
       have e2 : tot = ((gt K.pr d (K.pr.lT s) s1).1, (gt K.pr d (K.pr.lT s) s1).2.1, vs) := by rw [← HGS.out]; exact gseq_bad HZ3.out
       rw [e2]
       exact gend_bad HZ3.out
      rw [e1]
      exact ⟨15, 0, none, 0, 0, 0, t, none, 0, 0, va, vm, vc, _, rfl, hth.1, fun hz => absurd hz HZ3.out⟩
    ·have hgk : gk = 0 := by omega
     subst hgk
     obtain ⟨La, Lm, Lc, rfl⟩ := own_shape hfr.vb.parts
     have HGS := hdd hgs
     have HFR := hdd hfr
     clear hk hgs hfr hR1 hR2 hR3 hG1 hG2 hG3
     go_wp2_with fail
     refine (Rp.begun10 K s1 wr hi1).mono ?_
     rintro e w5 ⟨v, rfl, hp5⟩
     have HF5 := hdd (HFR.out.call hp5.keep)
     obtain ⟨hR1, hR2, hR3⟩ := HF5.out.still (n0 + 1, zVal, 29) (by simp)
     have HR5 := hdd hR2
     have HP5 := hdd hp5
     obtain ⟨x0, x1, x2, x3, x4, x5, x6⟩ := got_cells HF5.out.vb.blk
     obtain ⟨r0, r1, r2, r3, r4, r5, r6⟩ := got_cells hR2
     obtain ⟨z0, z1, z2, z3, z4, z5, z6⟩ := got_free hR2
     clear hR1 hR2 hR3 hp5
     go_wp2_with fail
     have hk9 := val_keep (M := fun i => n0 + 1 = i) (Keep.refl _ w5) (R := n0 + 1) (fun _ => rfl) (.int .i64 15) (.int .i64 0) (.slice none 0 0) (.int .i64 0) (.int .i64 t) (.slice none 0 0) (.slice La Lm Lc)
     refine ret_cell2 (U := n0 + 1) (T := 29) Tryz.results61 rfl rfl rfl (val_set HR5.out (.int .i64 15) (.int .i64 0) (.slice none 0 0) (.int .i64 0) (.int .i64 t) (.slice none 0 0) (.slice La Lm Lc)) Tryz.underlying29 ival_size ?_
     have hth := K.thru h HFR.out.kp hi1 HP5.out hk9 (fun i e => by
      subst e
      obtain ⟨q1, q2, q3⟩ := HFR.out.still (n0 + 1, zVal, 29) (by simp)
      exact ⟨q1, lt_of_heap q2, q3⟩)
     have e1 : gend K.pr.leS (fun l => .mk 15 0 [] 0 (K.pr.lT s) [] l) tot = (0, K.pr.leS s1, .mk 15 0 [] 0 (K.pr.lT s) [] vs) := by
      have e2 : tot = (0, s1, vs) := by rw [← HGS.out]; rfl
      rw [e2]
      exact gend_ok rfl
     rw [e1]
     refine ⟨15, 0, none, 0, 0, 0, t, none, 0, 0, La, Lm, Lc, _, rfl, hth.1, fun hz => ?_⟩
     have hv := HF5.out.vb.val (by simp)
     rw [← HTT.out]
     exact (hv.keep hk9 (fun i hi e => hi.2.1 (n0 + 1, zVal, 29) (by simp) e.symm)).weak (fun i _ hi => ⟨hi.1, fun m => hi.2.2 (hth.2 i m)⟩)
 ·have e0 : gt K.pr (d + 1) 15 s = (K.pr.lK s, K.pr.lS s, V.zero) := by simp [gt, isSc, hz]
  rw [e0]
  have HZ := hdd hz
  clear hroom hdq hz e0
  go_enter Tryz.func61, Tryz.ntmps61
  go_wp2_with fail
  obtain ⟨n0, hn⟩ : ∃ n0, w.heap.size = n0 := ⟨_, rfl⟩
  rw [hn] at hU0 hR0 hs0 ⊢
  generalize (w.alloc (.cells (valC 15 0 nilB 0 0 (.slice none 0 0) (.slice none 0 0)) 29 (0, 0))).alloc (.cells zVal 29 (0, 0)) = w1 at *
  have HN := hdd hn
  have HU0 := hdd hU0
  have HR0 := hdd hR0
  have HS0 := hdd hs0
  have HM := hdd (Rp.M_new h hk0)
  clear hn hU0 hR0 hs0
  refine (Rp.begun9 K s w1 (h.fresh hk0)).mono ?_
  rintro e w2 ⟨t, n, ev, rfl, hp, hv⟩
  have hU2 := (hp.keep.block n0 (lt_of_heap HU0.out) (fun x => by have := HM.out _ x; have := HN.out; omega)).trans HU0.out
  have hR2 := (hp.keep.block (n0 + 1) (lt_of_heap HR0.out) (fun x => by have := HM.out _ x; have := HN.out; omega)).trans HR0.out
  have HP := hdd hp
  have HU2 := hdd hU2
  have HR2 := hdd hR2
  obtain ⟨tt, x, rfl⟩ := hp.err.held HZ.out
  clear hv hp hU2 hR2
  go_wp2_with (with_reducible refine wpList_named 23 rfl ?_)
  intro w4 hw4
  have hk3 : Keep (fun _ => False) w2 w4 := by rw [← hw4]; exact (Keep.refl _ w2).alloc _
  have hU4 := (hk3.block n0 (lt_of_heap HU2.out) id).trans HU2.out
  have hR4 := (hk3.block (n0 + 1) (lt_of_heap HR2.out) id).trans HR2.out
  clear hw4
  have HK3 := hdd hk3
  have HR4 := hdd hR4
  obtain ⟨p0, p1, p2, p3, p4, p5, p6⟩ := got_cells hU4
  obtain ⟨q0, q1, q2, q3, q4, q5, q6⟩ := got_cells hR4
  obtain ⟨o0, o1, o2, o3, o4, o5, o6⟩ := got_free hR4
  clear hU4 hR4 hk3
  go_wp2_with fail
  have hk9 := val_keep (M := fun i => n0 ≤ i ∧ i < n0 + 2) (HK3.out.weak (fun i _ e => e.elim)) (R := n0 + 1) (fun _ => by omega) (.int .i64 15) (.int .i64 0) (.slice none 0 0) (.int .i64 0) (.int .i64 0) (.slice none 0 0) (.slice none 0 0)
  refine ret_cell2 (U := n0 + 1) (T := 29) Tryz.results61 rfl rfl rfl (val_set HR4.out (.int .i64 15) (.int .i64 0) (.slice none 0 0) (.int .i64 0) (.int .i64 0) (.slice none 0 0) (.slice none 0 0)) Tryz.underlying29 ival_size ?_
  have hn0 := HN.out
  have hs1 := HS0.out
  exact ⟨15, 0, none, 0, 0, 0, 0, none, 0, 0, none, 0, 0, _, rfl, Rp.through h hk0 HP.out hk9 (fun i hi => by omega), fun hz => absurd hz HZ.out⟩
set_option maxRecDepth 100000 in
theorem Rp.getList11 {St : Type} (K : Rp.Ctx St) (d : Nat) (ih : Rp.Gets K d) (deep : Int) (s : St) (w : World) (hdq : deep.toNat = d + 1) (hd : 0 < deep) (hhi : deep ≤ 9223372036854775807) (h : K.Inv s w) (hroom : K.pr.Room s) :
  Calls Tryz.prog 61 #[K.V, .agg (valC 14 0 nilB 0 0 (.slice none 0 0) (.slice none 0 0)), .int .i64 11, .int .i64 deep] w (Rp.GetP K (d + 1) w (gt K.pr (d + 1) 14 s)) := by
 have hk0 : Keep (fun _ => False) w ((w.alloc (.cells (valC 14 0 nilB 0 0 (.slice none 0 0) (.slice none 0 0)) 29 (0, 0))).alloc (.cells zVal 29 (0, 0))) := ((Keep.refl _ w).alloc _).alloc _
 have hU0 : ((w.alloc (.cells (valC 14 0 nilB 0 0 (.slice none 0 0) (.slice none 0 0)) 29 (0, 0))).alloc (.cells zVal 29 (0, 0))).heap[w.heap.size]? = some (.cells (valC 14 0 nilB 0 0 (.slice none 0 0) (.slice none 0 0)) 29 (0, 0)) := (Below.heap_alloc _ _ _ (by simp)).trans (heap_alloc_new w _)
 have hR0 : ((w.alloc (.cells (valC 14 0 nilB 0 0 (.slice none 0 0) (.slice none 0 0)) 29 (0, 0))).alloc (.cells zVal 29 (0, 0))).heap[w.heap.size + 1]? = some (.cells zVal 29 (0, 0)) := heap_alloc_at (by simp) _
 have hs0 : ((w.alloc (.cells (valC 14 0 nilB 0 0 (.slice none 0 0) (.slice none 0 0)) 29 (0, 0))).alloc (.cells zVal 29 (0, 0))).heap.size = w.heap.size + 2 := by simp
 by_cases hz : K.pr.lK s = 0
 ·by_cases hbig : K.pr.lN s > 100000
  ·have e0 : gt K.pr (d + 1) 14 s = (52, K.pr.lS s, V.zero) := by simp [gt, isSc, hz, hbig]
   rw [e0]
   have HZ := hdd hz
   have HB := hdd hbig
   clear hroom hdq hz hbig e0
   go_enter Tryz.func61, Tryz.ntmps61
   go_wp2_with fail
   obtain ⟨n0, hn⟩ : ∃ n0, w.heap.size = n0 := ⟨_, rfl⟩
   rw [hn] at hU0 hR0 hs0 ⊢
   generalize (w.alloc (.cells (valC 14 0 nilB 0 0 (.slice none 0 0) (.slice none 0 0)) 29 (0, 0))).alloc (.cells zVal 29 (0, 0)) = w1 at *
   have HN := hdd hn
   have HU0 := hdd hU0
   have HR0 := hdd hR0
   have HS0 := hdd hs0
   have HM := hdd (Rp.M_new h hk0)
   clear hn hU0 hR0 hs0
   refine (Rp.begun11 K s w1 (h.fresh hk0)).mono ?_
   rintro e w2 ⟨t, n, ev, rfl, hp, hv⟩
   have hU2 := (hp.keep.block n0 (lt_of_heap HU0.out) (fun x => by have := HM.out _ x; have := HN.out; omega)).trans HU0.out
   have hR2 := (hp.keep.block (n0 + 1) (lt_of_heap HR0.out) (fun x => by have := HM.out _ x; have := HN.out; omega)).trans HR0.out
   have HP := hdd hp
   have HU2 := hdd hU2
   have HR2 := hdd hR2
   obtain ⟨ht, hn⟩ := hv HZ.out
   have hev : ev = .nilIface := by have := hp.err; rw [HZ.out] at this; exact this.isNil
   subst hev
   have hnb : 100000 < n := by have := HB.out; omega
   have hlt2 := lt_of_heap hU2
   have hU3 := (Below.heap_alloc w2 (.cells (gotA 0 t 0 n 0 0 nilB) 139 (0, 0)) _ hlt2).trans hU2
   have hne1 : ¬ n0 = w2.heap.size := by omega
   have hne2 : ¬ w2.heap.size = n0 := by omega
   obtain ⟨x0, x1, x2, x3, x4, x5, x6⟩ := got_cells hU3
   obtain ⟨y0, y1, y2, y3, y4, y5, y6⟩ := got_free hU3
   clear hv ht hn hp hU2 hR2 hU3
   go_wp2_with (with_reducible refine wpList_named 31 rfl ?_)
   intro w4 hw4
   have hk3 : Keep (fun i => n0 = i) w2 w4 := by rw [← hw4]; exact ((Keep.refl _ w2).set n0 4 (fun _ => rfl) _).alloc _
   have hU4 : w4.heap[n0]? = some (.cells (valC 14 0 nilB 0 t (.slice none 0 0) (.slice none 0 0)) 29 (0, 0)) := by rw [← hw4]; exact (Below.heap_alloc _ _ _ (by simpa [World.setCell] using hlt2)).trans (by simpa using heap_set_same (i := 4) HU2.out (.int .i64 t))
   have hR4 := (hk3.block (n0 + 1) (lt_of_heap HR2.out) (by omega)).trans HR2.out
   clear hw4 x0 x1 x2 x3 x4 x5 x6 y0 y1 y2 y3 y4 y5 y6
   have HK3 := hdd hk3
   have HR4 := hdd hR4
   obtain ⟨p0, p1, p2, p3, p4, p5, p6⟩ := got_cells hU4
   obtain ⟨q0, q1, q2, q3, q4, q5, q6⟩ := got_cells hR4
   obtain ⟨o0, o1, o2, o3, o4, o5, o6⟩ := got_free hR4
   clear hU4 hR4 hk3
   go_wp2_with fail
   have hk9 := val_keep (M := fun i => n0 ≤ i ∧ i < n0 + 2) (HK3.out.weak (fun i _ e => by omega)) (R := n0 + 1) (fun _ => by omega) (.int .i64 14) (.int .i64 0) (.slice none 0 0) (.int .i64 0) (.int .i64 t) (.slice none 0 0) (.slice none 0 0)
   refine ret_cell2 (U := n0 + 1) (T := 29) Tryz.results61 rfl rfl rfl (val_set HR4.out (.int .i64 14) (.int .i64 0) (.slice none 0 0) (.int .i64 0) (.int .i64 t) (.slice none 0 0) (.slice none 0 0)) Tryz.underlying29 ival_size ?_
   have hn0 := HN.out
   have hs1 := HS0.out
   exact ⟨14, 0, none, 0, 0, 0, t, none, 0, 0, none, 0, 0, _, rfl, Rp.through h hk0 (HP.out.own 52 (by decide) (by decide)) hk9 (fun i hi => by omega), fun hz => absurd hz (by show ¬ (52 : Int) = 0; decide)⟩
  ·obtain ⟨tot, htot⟩ : ∃ tot, gseq (gt K.pr d (K.pr.lT s)) (K.pr.lN s).toNat (K.pr.lS s) [] = tot := ⟨_, rfl⟩
   have e0 : gt K.pr (d + 1) 14 s = gend K.pr.leS (fun l => .mk 14 0 [] 0 (K.pr.lT s) [] l) tot := by rw [← htot]; simp [gt, isSc, hz, hbig]
   rw [e0]
   have HT := hdd htot
   have HRM := hdd hroom
   have hd1 : (deep - 1).toNat = d := by omega
   have HD := hdd hd1
   have HDD := hdd hdq
   have HZ := hdd hz
   have HB := hdd hbig
   clear htot hroom hd1 hdq hz hbig e0
   go_enter Tryz.func61, Tryz.ntmps61
   go_wp2_with fail
   obtain ⟨n0, hn⟩ : ∃ n0, w.heap.size = n0 := ⟨_, rfl⟩
   rw [hn] at hU0 hR0 hs0 ⊢
   generalize (w.alloc (.cells (valC 14 0 nilB 0 0 (.slice none 0 0) (.slice none 0 0)) 29 (0, 0))).alloc (.cells zVal 29 (0, 0)) = w1 at *
   have HN := hdd hn
   have HU0 := hdd hU0
   have HR0 := hdd hR0
   have HS0 := hdd hs0
   have HM := hdd (Rp.M_new h hk0)
   clear hn hU0 hR0 hs0
   refine (Rp.begun11 K s w1 (h.fresh hk0)).mono ?_
   rintro e w2 ⟨t, n, ev, rfl, hp, hv⟩
   obtain ⟨ht, hn⟩ := hv HZ.out
   have hev : ev = .nilIface := by have := hp.err; rw [HZ.out] at this; exact this.isNil
   subst hev
   have hnb : n ≤ 100000 := by have := HB.out; omega
   have HTT := hdd ht
   have HNN := hdd hn
   have hU2 := (hp.keep.block n0 (lt_of_heap HU0.out) (fun x => by have := HM.out _ x; have := HN.out; omega)).trans HU0.out
   have hR2 := (hp.keep.block (n0 + 1) (lt_of_heap HR0.out) (fun x => by have := HM.out _ x; have := HN.out; omega)).trans HR0.out
   have HP := hdd hp
   have HU2 := hdd hU2
   have HR2 := hdd hR2
   have hlt2 := lt_of_heap hU2
   have hU3 := (Below.heap_alloc w2 (.cells (gotA 0 t 0 n 0 0 nilB) 139 (0, 0)) _ hlt2).trans hU2
   have hne1 : ¬ n0 = w2.heap.size := by omega
   have hne2 : ¬ w2.heap.size = n0 := by omega
   obtain ⟨x0, x1, x2, x3, x4, x5, x6⟩ := got_cells hU3
   obtain ⟨y0, y1, y2, y3, y4, y5, y6⟩ := got_free hU3
   clear hv ht hn hp hU2 hR2 hU3
   go_wp2_with fail
   have hk3 : Keep (fun i => n0 = i) w2 ((w2.setCell ⟨n0, 4, none⟩ (.int .i64 t)).alloc (.cells (gotA 0 t 0 n 0 0 nilB) 139 (0, 0))) := ((Keep.refl _ w2).set n0 4 (fun _ => rfl) _).alloc _
   have hU4 : ((w2.setCell ⟨n0, 4, none⟩ (.int .i64 t)).alloc (.cells (gotA 0 t 0 n 0 0 nilB) 139 (0, 0))).heap[n0]? = some (.cells (valC 14 0 nilB 0 t (.slice none 0 0) (.slice none 0 0)) 29 (0, 0)) := (Below.heap_alloc _ _ _ (by simpa [World.setCell] using hlt2)).trans (by simpa using heap_set_same (i := 4) HU2.out (.int .i64 t))
   have hG4 : ((w2.setCell ⟨n0, 4, none⟩ (.int .i64 t)).alloc (.cells (gotA 0 t 0 n 0 0 nilB) 139 (0, 0))).heap[w2.heap.size]? = some (.cells (gotA 0 t 0 n 0 0 nilB) 139 (0, 0)) := heap_alloc_at (by simp [World.setCell]) _
   have hR4 := (hk3.block (n0 + 1) (lt_of_heap HR2.out) (by omega)).trans HR2.out
   generalize hw4 : (w2.setCell ⟨n0, 4, none⟩ (.int .i64 t)).alloc (.cells (gotA 0 t 0 n 0 0 nilB) 139 (0, 0)) = w4 at *
   clear hw4 x0 x1 x2 x3 x4 x5 x6 y0 y1 y2 y3 y4 y5 y6
   obtain ⟨G, hG⟩ : ∃ G, w2.heap.size = G := ⟨_, rfl⟩
   rw [hG] at hG4 hne1 hne2 hlt2 ⊢
   have HG := hdd hG
   have HU4 := hdd hU4
   have HG4 := hdd hG4
   have HR4 := hdd hR4
   have HK3 := hdd hk3
   clear hU4 hG4 hR4 hk3 hG
   go_loopg [35] n.toNat (fun k v wr => Rp.GRel K w n0 [(n0 + 1, zVal, 29), (G, gotA 0 t 0 n 0 0 nilB, 139)] d 14 0 t (fun q l k => gseq (gt K.pr d (K.pr.lT s)) k q l) n 1 tot k v wr)
   case atStart =>
    have hN := HN.out
    have hnM : ∀ j, n0 ≤ j → j < w1.heap.size → ¬ K.M w2 j := fun j hj hl => HP.out.keep.not hl (fun x => by have := HM.out _ x; omega)
    have hs1 := HS0.out
    obtain ⟨j1, j2, j3⟩ := K.turn h ((Rp.kept h hk0).then HP.out.keep) (HP.out.inv HZ.out) HK3.out (fun i e => by subst e; exact ⟨by omega, hnM _ (Nat.le_refl _) (by omega)⟩)
    have hlt := Rp.M_lt (HP.out.inv HZ.out)
    have hGs := HG.out
    have hp2 := HP.out.keep.size
    refine ⟨0, _, [], _, [], rfl, by omega, by rw [Int.sub_zero], by simp, j1, ⟨j2, ivb_start HU4.out ⟨by omega, by simp; omega, fun m => hnM _ (Nat.le_refl _) (by omega) (j3 _ m)⟩ (fun i x => x.1), ?_⟩, by rw [HNN.out]; show gseq _ _ _ _ = _; exact HT.out, ?_⟩
    ·intro p hp
     simp only [List.mem_cons, List.not_mem_nil, or_false] at hp
     rcases hp with rfl | rfl
     ·exact ⟨by show w.heap.size ≤ n0 + 1; omega, HR4.out, fun m => hnM _ (by omega) (by omega) (j3 _ m)⟩
     ·exact ⟨by show w.heap.size ≤ G; omega, HG4.out, fun m => by have := hlt _ (j3 _ m); omega⟩
    ·have a1 := K.ok.l s HZ.out
     have a2 := K.ok.dl s HZ.out
     have a3 : _ + _ < _ := HRM.out
     show _ + _ < _
     omega
   case round =>
    obtain ⟨i, s1, vs, lv, rows, rfl, hi0, hk, hvl, hi1, hfr, hgs, hrm⟩ := hrel
    obtain ⟨hR1, hR2, hR3⟩ := hfr.still (n0 + 1, zVal, 29) (by simp)
    obtain ⟨hG1, hG2, hG3⟩ := hfr.still (G, gotA 0 t 0 n 0 0 nilB, 139) (by simp)
    by_cases hin : i < n
    ·cases gk with
     | zero => omega
     | succ k =>
     have HK := hdd hk
     have HGS := hdd hgs
     have HFR := hdd hfr
     have HVL := hdd hvl
     obtain ⟨u0, u1, u2, u3, u4, u5, u6⟩ := got_cells hG2
     clear hk hgs hfr hR1 hR2 hR3 hG1 hG2 hG3
     go_wp2_with fail
     refine (typ_at t _).mono ?_
     rintro e w' ⟨rfl, rfl⟩
     go_wp2_with fail
     have hb8 := K.lT_bd s
     have h8 : ty8 t = K.pr.lT s := by rw [HTT.out]; exact ty8_id hb8
     rw [h8]
     clear h8
     refine (ih (deep - 1) _ s1 wr HD.out (by omega) (by omega) hb8.1 hb8.2 hi1 hrm).mono ?_
     rintro e w3 ⟨T', N', Sa, Sm, Sc, KT', E', Ia, Im, Ic, La, Lm, Lc, ev, rfl, hp3, hval⟩
     have HF3 := hdd (HFR.out.call hp3.keep)
     have hU5 := HF3.out.vb.blk
     have hUl := lt_of_heap hU5
     have hU6 := (Below.heap_alloc w3 (.cells (valC T' N' (.slice Sa Sm Sc) KT' E' (.slice Ia Im Ic) (.slice La Lm Lc)) 29 (0, 0)) _ hUl).trans hU5
     have hne3 : ¬ n0 = w3.heap.size := by omega
     have hne4 : ¬ w3.heap.size = n0 := by omega
     have HP3 := hdd hp3
     have HVAL := hdd hval
     obtain ⟨x0, x1, x2, x3, x4, x5, x6⟩ := got_cells hU6
     clear hp3 hval hU6 hU5 hb8
     obtain ⟨vi, hvi, hvz, hvs, hvb⟩ := ival_info
     have hvs1 : vs.length + 1 ≤ 100000 := by have := HVL.out; omega
     have hnews := new_cells (w3.alloc (.cells (valC T' N' (.slice Sa Sm Sc) KT' E' (.slice Ia Im Ic) (.slice La Lm Lc)) 29)) (valC T' N' (.slice Sa Sm Sc) KT' E' (.slice Ia Im Ic) (.slice La Lm Lc)) 29
     rw [show (w3.alloc (.cells (valC T' N' (.slice Sa Sm Sc) KT' E' (.slice Ia Im Ic) (.slice La Lm Lc)) 29)).heap.size = w3.heap.size + 1 by simp] at hnews
     have hone : ∀ u ∈ ((valC T' N' (.slice Sa Sm Sc) KT' E' (.slice Ia Im Ic) (.slice La Lm Lc))).toList, u.oneCell' = true := by
      intro u hu
      simp only [List.mem_cons, List.not_mem_nil, or_false] at hu
      rcases hu with rfl | rfl | rfl | rfl | rfl | rfl | rfl <;> rfl
     have hb0 : w.heap.size ≤ ((w3.alloc (.cells (valC T' N' (.slice Sa Sm Sc) KT' E' (.slice Ia Im Ic) (.slice La Lm Lc)) 29)).alloc (.cells (valC T' N' (.slice Sa Sm Sc) KT' E' (.slice Ia Im Ic) (.slice La Lm Lc)) 29)).heap.size := by have := HF3.out.kp.size; simp; omega
     have hmx : vs.length + 1 ≤ maxLen := by simp only [maxLen]; omega
     go_wp2_with (at_builtin; refine wpList_append_own_at _ rfl (.tmp 48) (.tmp 50) 27 rfl w.heap.size 29 vi (.agg zVal) 7 104 Tryz.underlying27 hvi hvz hvs hvb rfl (by decide) lv vs.length rows.flatten rfl ((HF3.out.vb.parts.alloc _).alloc _) ⟨w3.heap.size + 1, 0, none⟩ 1 1 ((valC T' N' (.slice Sa Sm Sc) KT' E' (.slice Ia Im Ic) (.slice La Lm Lc))).toList rfl rfl hnews hone hmx (by omega) hb0 ?_)
     intro v' w7 hown hgrow hnil hat
     obtain ⟨va, vm, vc, rfl⟩ := own_shape hown
     have hmn := HFR.out.mine
     have hkk : Keep (fun _ => False) w3 ((w3.alloc (.cells (valC T' N' (.slice Sa Sm Sc) KT' E' (.slice Ia Im Ic) (.slice La Lm Lc)) 29)).alloc (.cells (valC T' N' (.slice Sa Sm Sc) KT' E' (.slice Ia Im Ic) (.slice La Lm Lc)) 29)) := ((Keep.refl _ w3).alloc _).alloc _
     have hk7 : Keep (fun i => lv.ownBlock = some i) w3 w7 := (hkk.weak (fun _ _ x => x.elim)).grown hgrow (fun k e _ => e)
     have hU7 := (hk7.block n0 hUl HF3.out.vb.neL).trans HF3.out.vb.blk
     obtain ⟨hR1, hR2, hR3⟩ := HF3.out.still (n0 + 1, zVal, 29) (by simp)
     have hR7 := (hk7.block (n0 + 1) (lt_of_heap hR2) (fun e => (hmn _ (.inr (.inr e))).2.2.1 (n0 + 1, zVal, 29) (by simp) rfl)).trans hR2
     have HOWN := hdd hown
     have HGROW := hdd hgrow
     have HAT := hdd hat
     have HK7 := hdd hk7
     have HKK := hdd hkk
     have HR7 := hdd hR7
     have HMN := hdd hmn
     clear x0 x1 x2 x3 x4 x5 x6 hnews hone hb0 hmx hown hgrow hat hnil hk7 hkk hR1 hR2 hR3 hmn hvi hvz hvs hvb
     obtain ⟨x0, x1, x2, x3, x4, x5, x6⟩ := got_cells hU7
     obtain ⟨y0, y1, y2, y3, y4, y5, y6⟩ := got_free hU7
     clear hU7
     by_cases hz3 : (gt K.pr d (K.pr.lT s) s1).1 = 0
     ·have hev : ev = .nilIface := by have := HP3.out.err; rw [hz3] at this; exact this.isNil
      subst hev
      have HZ3 := hdd hz3
      clear hz3
      go_wp2_with fail
      go_roundg k
      case measure => exact Nat.lt_succ_self _
      case rel =>
       have i3 := HP3.out.inv HZ3.out
       have hM6 := (K.turn h HF3.out.kp i3 HKK.out (fun _ x => x.elim)).2.2
       obtain ⟨F8, I8⟩ := Rp.Frame.part (x := (gt K.pr d (K.pr.lT s) s1).2.2) h (Rp.Frame.fresh h HF3.out i3 HKK.out) (i3.fresh HKK.out)
        (((HVAL.out HZ3.out).keep HKK.out (fun _ _ => id)).weak (fun i _ hi => ⟨fun j hj e => by have := (HMN.out j hj).2.1; have := hi.1; omega, by have := hi.1; have := HFR.out.kp.size; omega, fun p hp e => by have := lt_of_heap (HFR.out.still p hp).2.1; have := hi.1; omega, fun m => hi.2 (hM6 i m)⟩)) HOWN.out HGROW.out (by simpa using HAT.out)
       refine ⟨i + 1, _, _, _, _, rfl, by omega, by have := HK.out; omega, by have := HVL.out; simp; omega, I8, F8, ?_, ?_⟩
       ·show gseq _ _ _ _ = _
        rw [← HGS.out]
        exact (gseq_ok HZ3.out).symm
       ·have a1 := gt_len K.ok d _ _ HZ3.out
        have a2 := gt_dep K.ok d _ _ HZ3.out
        have a3 : _ + _ < _ := hrm
        show _ + _ < _
        omega
     ·obtain ⟨tt, x, rfl⟩ := HP3.out.err.held hz3
      have HZ3 := hdd hz3
      clear hz3
      obtain ⟨r0, r1, r2, r3, r4, r5, r6⟩ := got_cells HR7.out
      obtain ⟨z0, z1, z2, z3, z4, z5, z6⟩ := got_free HR7.out
      go_wp2_with fail
      have hR8 : (w7.setCell ⟨n0, 6, none⟩ (.slice va vm vc)).heap[n0 + 1]? = some (.cells zVal 29 (0, 0)) := (heap_set_other (p := ⟨n0, 6, none⟩) _ (by simp)).trans HR7.out
      have hk9 := val_keep (M := fun i => n0 = i ∨ lv.ownBlock = some i ∨ n0 + 1 = i) ((HK7.out.weak (fun i _ e => .inr (.inl e))).set n0 6 (fun _ => .inl rfl) (.slice va vm vc)) (R := n0 + 1) (fun _ => .inr (.inr rfl)) (.int .i64 14) (.int .i64 0) (.slice none 0 0) (.int .i64 0) (.int .i64 t) (.slice none 0 0) (.slice va vm vc)
      refine ret_cell2 (U := n0 + 1) (T := 29) Tryz.results61 rfl rfl rfl (val_set hR8 (.int .i64 14) (.int .i64 0) (.slice none 0 0) (.int .i64 0) (.int .i64 t) (.slice none 0 0) (.slice va vm vc)) Tryz.underlying29 ival_size ?_
      have hth := K.thru h HFR.out.kp hi1 HP3.out hk9 (fun i e => by
       rcases e with e | e | e
       ·have := HMN.out i (.inl e); exact ⟨this.1, this.2.1, this.2.2.2⟩
       ·have := HMN.out i (.inr (.inr e)); exact ⟨this.1, this.2.1, this.2.2.2⟩
       ·subst e
        obtain ⟨q1, q2, q3⟩ := HFR.out.still (n0 + 1, zVal, 29) (by simp)
        exact ⟨q1, lt_of_heap q2, q3⟩)
      have e1 : gend K.pr.leS (fun l => .mk 14 0 [] 0 (K.pr.lT s) [] l) tot = ((gt K.pr d (K.pr.lT s) s1).1, (gt K.pr d (K.pr.lT s) s1).2.1, V.zero) := by
       have e2 : tot = ((gt K.pr d (K.pr.lT s) s1).1, (gt K.pr d (K.pr.lT s) s1).2.1, vs) := by rw [← HGS.out]; exact gseq_bad HZ3.out
       rw [e2]
       exact gend_bad HZ3.out
      rw [e1]
      exact ⟨14, 0, none, 0, 0, 0, t, none, 0, 0, va, vm, vc, _, rfl, hth.1, fun hz => absurd hz HZ3.out⟩
    ·have hgk : gk = 0 := by omega
     subst hgk
     obtain ⟨La, Lm, Lc, rfl⟩ := own_shape hfr.vb.parts
     have HGS := hdd hgs
     have HFR := hdd hfr
     clear hk hgs hfr hR1 hR2 hR3 hG1 hG2 hG3
     go_wp2_with fail
     refine (Rp.begun12 K s1 wr hi1).mono ?_
     rintro e w5 ⟨v, rfl, hp5⟩
     have HF5 := hdd (HFR.out.call hp5.keep)
     obtain ⟨hR1, hR2, hR3⟩ := HF5.out.still (n0 + 1, zVal, 29) (by simp)
     have HR5 := hdd hR2
     have HP5 := hdd hp5
     obtain ⟨x0, x1, x2, x3, x4, x5, x6⟩ := got_cells HF5.out.vb.blk
     obtain ⟨r0, r1, r2, r3, r4, r5, r6⟩ := got_cells hR2
     obtain ⟨z0, z1, z2, z3, z4, z5, z6⟩ := got_free hR2
     clear hR1 hR2 hR3 hp5
     go_wp2_with fail
     have hk9 := val_keep (M := fun i => n0 + 1 = i) (Keep.refl _ w5) (R := n0 + 1) (fun _ => rfl) (.int .i64 14) (.int .i64 0) (.slice none 0 0) (.int .i64 0) (.int .i64 t) (.slice none 0 0) (.slice La Lm Lc)
     refine ret_cell2 (U := n0 + 1) (T := 29) Tryz.results61 rfl rfl rfl (val_set HR5.out (.int .i64 14) (.int .i64 0) (.slice none 0 0) (.int .i64 0) (.int .i64 t) (.slice none 0 0) (.slice La Lm Lc)) Tryz.underlying29 ival_size ?_
     have hth := K.thru h HFR.out.kp hi1 HP5.out hk9 (fun i e => by
      subst e
      obtain ⟨q1, q2, q3⟩ := HFR.out.still (n0 + 1, zVal, 29) (by simp)
      exact ⟨q1, lt_of_heap q2, q3⟩)
     have e1 : gend K.pr.leS (fun l => .mk 14 0 [] 0 (K.pr.lT s) [] l) tot = (0, K.pr.leS s1, .mk 14 0 [] 0 (K.pr.lT s) [] vs) := by
      have e2 : tot = (0, s1, vs) := by rw [← HGS.out]; rfl
      rw [e2]
      exact gend_ok rfl
     rw [e1]
     refine ⟨14, 0, none, 0, 0, 0, t, none, 0, 0, La, Lm, Lc, _, rfl, hth.1, fun hz => ?_⟩
     have hv := HF5.out.vb.val (by simp)
     rw [← HTT.out]
     exact (hv.keep hk9 (fun i hi e => hi.2.1 (n0 + 1, zVal, 29) (by simp) e.symm)).weak (fun i _ hi => ⟨hi.1, fun m => hi.2.2 (hth.2 i m)⟩)
 ·have e0 : gt K.pr (d + 1) 14 s = (K.pr.lK s, K.pr.lS s, V.zero) := by simp [gt, isSc, hz]
  rw [e0]
  have HZ := hdd hz
  clear hroom hdq hz e0
  go_enter Tryz.func61, Tryz.ntmps61
  go_wp2_with fail
  obtain ⟨n0, hn⟩ : ∃ n0, w.heap.size = n0 := ⟨_, rfl⟩
  rw [hn] at hU0 hR0 hs0 ⊢
  generalize (w.alloc (.cells (valC 14 0 nilB 0 0 (.slice none 0 0) (.slice none 0 0)) 29 (0, 0))).alloc (.cells zVal 29 (0, 0)) = w1 at *
  have HN := hdd hn
  have HU0 := hdd hU0
  have HR0 := hdd hR0
  have HS0 := hdd hs0
  have HM := hdd (Rp.M_new h hk0)
  clear hn hU0 hR0 hs0
  refine (Rp.begun11 K s w1 (h.fresh hk0)).mono ?_
  rintro e w2 ⟨t, n, ev, rfl, hp, hv⟩
  have hU2 := (hp.keep.block n0 (lt_of_heap HU0.out) (fun x => by have := HM.out _ x; have := HN.out; omega)).trans HU0.out
  have hR2 := (hp.keep.block (n0 + 1) (lt_of_heap HR0.out) (fun x => by have := HM.out _ x; have := HN.out; omega)).trans HR0.out
  have HP := hdd hp
  have HU2 := hdd hU2
  have HR2 := hdd hR2
  obtain ⟨tt, x, rfl⟩ := hp.err.held HZ.out
  clear hv hp hU2 hR2
  go_wp2_with (with_reducible refine wpList_named 23 rfl ?_)
  intro w4 hw4
  have hk3 : Keep (fun _ => False) w2 w4 := by rw [← hw4]; exact (Keep.refl _ w2).alloc _
  have hU4 := (hk3.block n0 (lt_of_heap HU2.out) id).trans HU2.out
  have hR4 := (hk3.block (n0 + 1) (lt_of_heap HR2.out) id).trans HR2.out
  clear hw4
  have HK3 := hdd hk3
  have HR4 := hdd hR4
  obtain ⟨p0, p1, p2, p3, p4, p5, p6⟩ := got_cells hU4
  obtain ⟨q0, q1, q2, q3, q4, q5, q6⟩ := got_cells hR4
  obtain ⟨o0, o1, o2, o3, o4, o5, o6⟩ := got_free hR4
  clear hU4 hR4 hk3
  go_wp2_with fail
  have hk9 := val_keep (M := fun i => n0 ≤ i ∧ i < n0 + 2) (HK3.out.weak (fun i _ e => e.elim)) (R := n0 + 1) (fun _ => by omega) (.int .i64 14) (.int .i64 0) (.slice none 0 0) (.int .i64 0) (.int .i64 0) (.slice none 0 0) (.slice none 0 0)
  refine ret_cell2 (U := n0 + 1) (T := 29) Tryz.results61 rfl rfl rfl (val_set HR4.out (.int .i64 14) (.int .i64 0) (.slice none 0 0) (.int .i64 0) (.int .i64 0) (.slice none 0 0) (.slice none 0 0)) Tryz.underlying29 ival_size ?_
  have hn0 := HN.out
  have hs1 := HS0.out
  exact ⟨14, 0, none, 0, 0, 0, 0, none, 0, 0, none, 0, 0, _, rfl, Rp.through h hk0 HP.out hk9 (fun i hi => by omega), fun hz => absurd hz HZ.out⟩
end Go.Proofs.YthehmlbolajljaaGreatDoor
