/- Part 30 of the proof: Rg0. -/
import Derived.Test.YtnccjcbelcbgoaaGreatDoorA18
import Derived.Test.YtnccjcbelcbgoaaGreatDoorA25
import Derived.Test.YtnccjcbelcbgoaaGreatDoorA20
import Derived.Maps.AppendAt
set_option linter.unusedVariables false
set_option linter.unusedSimpArgs false
set_option linter.unusedSectionVars false
/- The reference's get: what a call that builds a value keeps in hand while it reads. -/
namespace Go.Proofs.YtnccjcbelcbgoaaGreatDoor
open Go Go.RowKit

/-- The blocks from n on that are the call's own, but for some. -/
abbrev Rdr.Own {σ : Type} (r : Rdr σ) (n : Nat) (S : List (Nat × Array Value × TypeId)) (w : World) : Nat → Prop := fun i => n ≤ i ∧ (∀ p ∈ S, i ≠ p.1) ∧ ¬ r.M w i

/-- What lies in hand at world wr of a call that began at w: the value that grows in block U, the blocks S that hold still. -/
structure Rdr.Frame {σ : Type} (r : Rdr σ) (w : World) (U : Nat) (S : List (Nat × Array Value × TypeId)) (d : Nat) (T KT E : Int) (ids : List Int) (vs : List V) (iv lv : Value) (rows : List (List Value)) (wr : World) : Prop where
  kp : Kpt r.M w wr
  vb : VB 43 d w.heap.size U (r.Own w.heap.size S wr) T KT E ids vs iv lv rows wr
  still : ∀ p ∈ S, w.heap.size ≤ p.1 ∧ wr.heap[p.1]? = some (.cells p.2.1 p.2.2 (0, 0)) ∧ ¬ r.M wr p.1

section
variable {σ : Type} {r : Rdr σ} {w wr w3 w6 w7 : World} {U : Nat} {S : List (Nat × Array Value × TypeId)} {d : Nat} {T KT E : Int} {ids : List Int} {vs : List V} {iv lv lv' : Value} {rows : List (List Value)} {s s1 s' : σ}

/-- Behind a call of the protocol. -/
theorem Rdr.Frame.call (f : r.Frame w U S d T KT E ids vs iv lv rows wr) (hk : Kpt r.M wr w3) : r.Frame w U S d T KT E ids vs iv lv rows w3 :=
  ⟨f.kp.then hk, ((f.vb.weak (A' := fun i => r.Own w.heap.size S wr i ∧ i < wr.heap.size) (fun i hi x => ⟨x, hi⟩) (fun i x => x.1.1)).keep hk.keep (fun i x => x.1.2.2)).weak (fun i _ x => ⟨x.1.1, x.1.2.1, fun m => x.1.2.2 (hk.grow i x.2 m)⟩) (fun i x => x.1),
   fun p hp => let ⟨h1, h2, h3⟩ := f.still p hp; ⟨h1, (hk.block p.1 (lt_of_heap h2) h3).trans h2, hk.not (lt_of_heap h2) h3⟩⟩

/-- Nothing turned. -/
theorem Rdr.Frame.fresh (ok : r.Ok) (f : r.Frame w U S d T KT E ids vs iv lv rows wr) (i1 : r.Inv s1 wr) (hk : Keep (fun _ => False) wr w3) : r.Frame w U S d T KT E ids vs iv lv rows w3 :=
  f.call (ok.kept i1 hk)

/-- The value's own blocks are the caller's. -/
theorem Rdr.Frame.mine (f : r.Frame w U S d T KT E ids vs iv lv rows wr) : ∀ i, U = i ∨ iv.ownBlock = some i ∨ lv.ownBlock = some i → w.heap.size ≤ i ∧ i < wr.heap.size ∧ (∀ p ∈ S, i ≠ p.1) ∧ ¬ r.M wr i := by
  rintro i (rfl | e | e)
  · exact ⟨f.vb.inA.1, lt_of_heap f.vb.blk, f.vb.inA.2⟩
  · exact ⟨(f.vb.inI i e).1, (f.vb.ids.lt i e).2, (f.vb.inI i e).2⟩
  · exact ⟨(f.vb.inL i e).1, (f.vb.parts.lt i e).2, (f.vb.inL i e).2⟩

/-- A part is appended: w6 behind the call (and allocations), w7 behind the append. -/
theorem Rdr.Frame.part {x : V} {cs : List Value} (ok : r.Ok) (f : r.Frame w U S d T KT E ids vs iv lv rows w6) (i6 : r.Inv s' w6)
    (hx : ValAt d (fun i => (∀ j, U = j ∨ iv.ownBlock = some j ∨ lv.ownBlock = some j → i ≠ j) ∧ r.Own w.heap.size S w6 i) w6 cs x)
    (hown : w7.ownsRow w.heap.size 43 7 lv' (vs.length + 1) (rows.flatten ++ cs)) (hg : w6.grownBy w7 lv.ownBlock) (hat : lv'.ownBlock = lv.ownBlock ∨ lv'.ownBlock = some w6.heap.size) :
    r.Frame w U S d T KT E ids (vs ++ [x]) iv lv' (rows ++ [cs]) (w7.setCell ⟨U, 6, none⟩ lv') ∧ r.Inv s' (w7.setCell ⟨U, 6, none⟩ lv') := by
  have hmine := f.mine
  have hk : Keep (fun i => U = i ∨ lv.ownBlock = some i) w6 (w7.setCell ⟨U, 6, none⟩ lv') := ((Keep.refl _ w6).grown hg (fun k e _ => .inr e)).set U 6 (fun _ => .inl rfl) lv'
  obtain ⟨t1, t3⟩ := ok.turn i6 hk (fun i e => by
    have := hmine i (e.elim .inl (fun y => .inr (.inr y)))
    exact this.2.2.2)
  have t2 : Kpt r.M w (w7.setCell ⟨U, 6, none⟩ lv') := Kpt.turned f.kp hk (fun i e => (hmine i (e.elim .inl (fun y => .inr (.inr y)))).1) t3
  have hlt := ok.lt i6
  have hs67 := hg.size
  refine ⟨⟨t2, ?_, ?_⟩, t1⟩
  · refine VB.part f.vb (hx.weak (fun i _ y => ⟨y.2, y.1 U (.inl rfl), fun e => y.1 i (.inr (.inl e)) rfl, fun e => y.1 i (.inr (.inr e)) rfl⟩)) hown hg (fun i e => ?_) (fun i hi y => ⟨y.1, y.2.1, fun m => y.2.2 (t3 i m)⟩) (fun i hi _ => ⟨?_, fun p hp e => ?_, fun m => ?_⟩) (fun i y => y.1)
    · rcases hat with e2 | e2
      · exact .inl (e2 ▸ e)
      · rw [e2] at e
        cases e
        exact .inr (Nat.le_refl _)
    · have := f.kp.size
      omega
    · have := lt_of_heap (f.still p hp).2.1
      omega
    · have := hlt i (t3 i m)
      omega
  · intro p hp
    obtain ⟨h1, h2, h3⟩ := f.still p hp
    refine ⟨h1, (hk.block p.1 (lt_of_heap h2) ?_).trans h2, fun m => h3 (t3 p.1 m)⟩
    intro e
    exact (hmine p.1 (e.elim .inl (fun y => .inr (.inr y)))).2.2.1 p hp rfl
end

/-- As it begins. -/
theorem vb_start {TV : TypeId} {d B0 U : Nat} {A : Nat → Prop} {T KT E : Int} {w : World} (h : w.heap[U]? = some (.cells (valC T 0 nilB KT E (.slice none 0 0) (.slice none 0 0)) TV (0, 0))) (hU : A U) (hB : ∀ i, A i → B0 ≤ i) :
    VB TV d B0 U A T KT E [] [] (.slice none 0 0) (.slice none 0 0) [] w :=
  ⟨h, hU, hB, World.ownsRow_nil _ _ _ _, World.ownsRow_nil _ _ _ _, fun i e => (by cases e), fun i e => (by cases e), rfl, fun j x hj => (by simp at hj), fun e => (by cases e), fun e => (by cases e), .inl rfl⟩
/-- One block less that holds still. -/
theorem Rdr.Frame.drop {σ : Type} {r : Rdr σ} {w wr : World} {U : Nat} {p : Nat × Array Value × TypeId} {S : List (Nat × Array Value × TypeId)} {d : Nat} {T KT E : Int} {ids : List Int} {vs : List V} {iv lv : Value} {rows : List (List Value)}
    (f : r.Frame w U (p :: S) d T KT E ids vs iv lv rows wr) : r.Frame w U S d T KT E ids vs iv lv rows wr :=
  ⟨f.kp, f.vb.weak (fun i _ x => ⟨x.1, fun q hq => x.2.1 q (List.mem_cons_of_mem _ hq), x.2.2⟩) (fun i x => x.1), fun q hq => f.still q (List.mem_cons_of_mem _ hq)⟩
/-- A new block that holds still. -/
theorem Rdr.Frame.add {σ : Type} {r : Rdr σ} {w wr : World} {U : Nat} {S : List (Nat × Array Value × TypeId)} {d : Nat} {T KT E : Int} {ids : List Int} {vs : List V} {iv lv : Value} {rows : List (List Value)} {s1 : σ} (ok : r.Ok) (i1 : r.Inv s1 wr)
    (f : r.Frame w U S d T KT E ids vs iv lv rows wr) (cs : Array Value) (TT : TypeId) : r.Frame w U ((wr.heap.size, cs, TT) :: S) d T KT E ids vs iv lv rows (wr.alloc (.cells cs TT (0, 0))) := by
  have hk : Keep (fun _ => False) wr (wr.alloc (.cells cs TT (0, 0))) := (Keep.refl _ wr).alloc _
  have hkp := ok.kept i1 hk
  have hnew := ok.new i1 hk
  have f2 := f.call hkp
  refine ⟨f2.kp, ?_, ?_⟩
  · refine ((f.vb.weak (A' := fun i => r.Own w.heap.size S wr i ∧ i < wr.heap.size) (fun i hi x => ⟨x, hi⟩) (fun i x => x.1.1)).keep hk (fun _ _ => id)).weak (fun i _ x => ⟨x.1.1, fun q hq e => ?_, fun m => x.1.2.2 (hkp.grow i x.2 m)⟩) (fun i x => x.1)
    rcases List.mem_cons.1 hq with rfl | hq
    · have := x.2
      simp at e
      omega
    · exact x.1.2.1 q hq e
  · intro q hq
    rcases List.mem_cons.1 hq with rfl | hq
    · exact ⟨f.kp.size, heap_alloc_new wr _, hnew _ (Nat.le_refl _)⟩
    · exact f2.still q hq


theorem sval_info : ∃ i, Tryz.prog.info? 43 = some i ∧ i.zero = some (.agg (valC 0 0 nilB 0 0 (.slice none 0 0) (.slice none 0 0))) ∧ i.size = 7 ∧ i.bytes = 104 := ⟨Tryz.t43, by kernel_rfl, by kernel_rfl, by kernel_rfl, by kernel_rfl⟩
theorem sval_size : (Tryz.prog.info? 43).map (·.size) = some 7 := by kernel_rfl

/-- What get brings about: a value's seven cells, a kind; the value where there is no error. -/
def Rdr.GetP {σ : Type} (r : Rdr σ) (d : Nat) (w : World) (q : Int × σ × V) (e : Ending) (w' : World) : Prop :=
  ∃ T N Sa Sm Sc KT E Ia Im Ic La Lm Lc x, e = .returned (.tuple #[.agg (valC T N (.slice Sa Sm Sc) KT E (.slice Ia Im Ic) (.slice La Lm Lc)), .int .i64 x]) ∧ Sk q.1 x ∧ (∃ s2, r.Inv s2 w' ∧ (x = 0 → s2 = q.2.1)) ∧ Kpt r.M w w' ∧
    (x = 0 → ValAt d (fun i => w.heap.size ≤ i ∧ ¬ r.M w' i) w' (valC T N (.slice Sa Sm Sc) KT E (.slice Ia Im Ic) (.slice La Lm Lc)).toList q.2.2)

abbrev Rdr.Gets {σ : Type} (r : Rdr σ) (d : Nat) : Prop := ∀ (deep t : Int) (s : σ) (w : World), deep.toNat = d → -9223372036854775808 ≤ deep → deep ≤ 9223372036854775807 → r.Inv s w → r.pr.Room s →
  Calls Tryz.prog 26 #[.pointer (some ⟨r.R, 0, none⟩), .int .i64 t, .int .i64 deep] w (r.GetP d w (gt r.pr d t s))

end Go.Proofs.YtnccjcbelcbgoaaGreatDoor
