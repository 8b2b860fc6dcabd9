/- Part 29 of the proof: Two, Frm2Bin, RFr2. -/
import Derived.Test.YtpfifpgbnhdjnaaGreatDoorA25
import Derived.Test.YtpfifpgbnhdjnaaGreatDoorA28
import Derived.Test.YtpfifpgbnhdjnaaGreatDoorA26
set_option linter.unusedVariables false
set_option linter.unusedSimpArgs false
set_option linter.unusedSectionVars false
/- Two slices of one value grow, in whatever order. -/
namespace Go.Proofs.YtpfifpgbnhdjnaaGreatDoor
open Go Go.RowKit

/-- From w0 to w: the ids' slice iv has become iv', the parts' slice lv has become lv'. -/
structure Grw (TV : TypeId) (B0 : Nat) (iv lv : Value) (w0 : World) (iv' lv' : Value) (ni : Nat) (is : List Value) (nl : Nat) (ls : List Value) (w : World) : Prop where
  kp : Keep (fun i => iv.ownBlock = some i ∨ lv.ownBlock = some i) w0 w
  own1 : w.ownsRow B0 3 1 iv' ni is
  own2 : w.ownsRow B0 TV 7 lv' nl ls
  new1 : ∀ i, iv'.ownBlock = some i → iv.ownBlock = some i ∨ w0.heap.size ≤ i
  new2 : ∀ i, lv'.ownBlock = some i → lv.ownBlock = some i ∨ w0.heap.size ≤ i
  ne : iv'.ownBlock = none ∨ iv'.ownBlock ≠ lv'.ownBlock

variable {TV : TypeId} {B0 : Nat} {iv lv iv' lv' v' : Value} {w0 w w' : World} {ni nl ni' nl' : Nat} {is ls is' ls' : List Value}

theorem Grw.start {d U : Nat} {A : Nat → Prop} {T K E : Int} {ids : List Int} {vs : List V} {rows : List (List Value)} (h : VB TV d B0 U A T K E ids vs iv lv rows w) :
    Grw TV B0 iv lv w iv lv ids.length (ids.map (Value.int .i64)) vs.length rows.flatten w :=
  ⟨Keep.refl _ w, h.ids, h.parts, fun _ e => .inl e, fun _ e => .inl e, h.ne⟩

/-- None of the blocks in hand turns. -/
theorem Grw.keep (h : Grw TV B0 iv lv w0 iv' lv' ni is nl ls w) (k : Keep (fun _ => False) w w') : Grw TV B0 iv lv w0 iv' lv' ni is nl ls w' :=
  ⟨h.kp.trans k (fun _ _ x => x.elim), ownsRow_keep h.own1 k (fun _ _ x => x), ownsRow_keep h.own2 k (fun _ _ x => x), h.new1, h.new2, h.ne⟩

theorem Grw.alloc (h : Grw TV B0 iv lv w0 iv' lv' ni is nl ls w) (o : Obj) : Grw TV B0 iv lv w0 iv' lv' ni is nl ls (w.alloc o) := h.keep ((Keep.refl _ w).alloc o)

/-- The ids are appended to. -/
theorem Grw.app1 (h : Grw TV B0 iv lv w0 iv' lv' ni is nl ls w) (ho : w'.ownsRow B0 3 1 v' ni' is') (hg : w.grownBy w' iv'.ownBlock) (hat : v'.ownBlock = iv'.ownBlock ∨ v'.ownBlock = some w.heap.size) :
    Grw TV B0 iv lv w0 v' lv' ni' is' nl ls w' := by
  have hs := h.kp.size
  have k : Keep (fun i => iv'.ownBlock = some i) w w' := (Keep.refl _ w).grown hg (fun _ e _ => e)
  refine ⟨h.kp.grown hg (fun i e hi => ?_), ho, ownsRow_keep h.own2 k (fun i e e2 => ?_), fun i e => ?_, h.new2, ?_⟩
  · rcases h.new1 i e with h1 | h1
    · exact .inl h1
    · omega
  · rcases h.ne with h1 | h1
    · rw [h1] at e2; cases e2
    · exact h1 (e2.trans e.symm)
  · rcases hat with h1 | h1
    · exact h.new1 i (h1 ▸ e)
    · rw [h1] at e; cases e; exact .inr hs
  · rcases hat with h1 | h1
    · rw [h1]; exact h.ne
    · right
      rw [h1]
      intro e
      have := (h.own2.lt _ e.symm).2
      omega

/-- The parts are appended to. -/
theorem Grw.app2 (h : Grw TV B0 iv lv w0 iv' lv' ni is nl ls w) (ho : w'.ownsRow B0 TV 7 v' nl' ls') (hg : w.grownBy w' lv'.ownBlock) (hat : v'.ownBlock = lv'.ownBlock ∨ v'.ownBlock = some w.heap.size) :
    Grw TV B0 iv lv w0 iv' v' ni is nl' ls' w' := by
  have hs := h.kp.size
  have k : Keep (fun i => lv'.ownBlock = some i) w w' := (Keep.refl _ w).grown hg (fun _ e _ => e)
  refine ⟨h.kp.grown hg (fun i e hi => ?_), ownsRow_keep h.own1 k (fun i e e2 => ?_), ho, h.new1, fun i e => ?_, ?_⟩
  · rcases h.new2 i e with h1 | h1
    · exact .inr h1
    · omega
  · rcases h.ne with h1 | h1
    · rw [h1] at e; cases e
    · exact h1 (e.trans e2.symm)
  · rcases hat with h1 | h1
    · exact h.new2 i (h1 ▸ e)
    · rw [h1] at e; cases e; exact .inr hs
  · by_cases hi : iv'.ownBlock = none
    · exact .inl hi
    · right
      intro e
      obtain ⟨i, hii⟩ := Option.ne_none_iff_exists'.1 hi
      have hlt := (h.own1.lt i hii).2
      rcases hat with h1 | h1
      · rcases h.ne with h2 | h2
        · exact hi h2
        · exact h2 (e.trans h1)
      · rw [e, h1] at hii
        cases hii
        omega

/-- Behind both, and behind the stores of the two slices into the value's cells. -/
theorem Grw.done {d U : Nat} {A A' : Nat → Prop} {T K E : Int} {ids : List Int} {id : Int} {x : V} {cs : List Value} {vs : List V} {rows : List (List Value)} (h : VB TV d B0 U A T K E ids vs iv lv rows w0)
    (hx : ValAt d (fun i => A i ∧ i ≠ U ∧ iv.ownBlock ≠ some i ∧ lv.ownBlock ≠ some i) w0 cs x)
    (g : Grw TV B0 iv lv w0 iv' lv' (ids.length + 1) (ids.map (Value.int .i64) ++ [.int .i64 id]) (vs.length + 1) (rows.flatten ++ cs) w)
    (hA : ∀ i, i < w0.heap.size → A i → A' i) (hN : ∀ i, w0.heap.size ≤ i → i < w.heap.size → A' i) (hB : ∀ i, A' i → B0 ≤ i) :
    VB TV d B0 U A' T K E (ids ++ [id]) (vs ++ [x]) iv' lv' (rows ++ [cs]) ((w.setCell ⟨U, 5, none⟩ iv').setCell ⟨U, 6, none⟩ lv') := by
  have hU : U < w0.heap.size := lt_of_heap h.blk
  have hb2 : w.heap[U]? = some (.cells (valC T 0 nilB K E iv lv) TV (0, 0)) := (g.kp.block U hU (fun e => e.elim h.neI h.neL)).trans h.blk
  refine VB.grow h rfl (fun j y hj => ?_) (by simpa using g.own1) (by simpa using g.own2) g.kp g.new1 g.new2 g.ne
    (heap_set_same (i := 6) (heap_set_same (i := 5) hb2 iv') lv') (((Keep.refl _ w).set U 5 (fun _ => rfl) iv').set U 6 (fun _ => rfl) lv') hA hN hB
  cases j with
  | zero => simp at hj; subst hj; exact ⟨cs, rfl, hx⟩
  | succ j => simp at hj

theorem news_alloc {W : World} {l : List Value} {b : Nat} (h : ∀ j u, l[j]? = some u → W.cell? ((⟨b, 0, none⟩ : Addr).add j) = some u) (hb : b < W.heap.size) (o : Obj) :
    ∀ j u, l[j]? = some u → (W.alloc o).cell? ((⟨b, 0, none⟩ : Addr).add j) = some u := fun j u hj => by
  rw [Addr.add_lit]
  have := h j u hj
  rw [Addr.add_lit] at this
  rw [World.cell?_alloc_lt _ _ _ hb]
  exact this

theorem news_kept {W W' : World} {M : Nat → Prop} {l : List Value} {b : Nat} (h : ∀ j u, l[j]? = some u → W.cell? ((⟨b, 0, none⟩ : Addr).add j) = some u) (hb : b < W.heap.size) (k : Keep M W W') (hM : ¬ M b) :
    ∀ j u, l[j]? = some u → W'.cell? ((⟨b, 0, none⟩ : Addr).add j) = some u := fun j u hj => by
  have := h j u hj
  rw [Addr.add_lit] at this ⊢
  rw [k.cell hb hM]
  exact this

theorem int_info : ∃ i, Tryz.prog.info? 3 = some i ∧ i.zero = some (.int .i64 0) ∧ i.size = 1 ∧ i.bytes = 8 := ⟨Tryz.t3, by kernel_rfl, by kernel_rfl, by kernel_rfl, by kernel_rfl⟩

end Go.Proofs.YtpfifpgbnhdjnaaGreatDoor

/- The thin package's get: ids and parts are appended to. -/
namespace Go.Proofs.YtpfifpgbnhdjnaaGreatDoor
open Go Go.RowKit

variable {K : Bin.Ctx} {w w6 w7 : World} {U : Nat} {S : List (Nat × Array Value × TypeId)} {d : Nat} {T KT E : Int} {ids : List Int} {vs : List _root_.Go.Proofs.YtpfifpgbnhdjnaaGreatDoor.V} {iv lv iv' lv' : Value} {rows : List (List Value)} {s s' : Bin.St}

theorem Bin.Frame.two {x : _root_.Go.Proofs.YtpfifpgbnhdjnaaGreatDoor.V} {cs : List Value} {id : Int} (h : Bin.Inv K s w) (f : Bin.Frame K w U S d T KT E ids vs iv lv rows w6) (i6 : Bin.Inv K s' w6)
    (hx : ValAt d (fun i => (∀ j, U = j ∨ iv.ownBlock = some j ∨ lv.ownBlock = some j → i ≠ j) ∧ Bin.Own K w.heap.size S w6 i) w6 cs x)
    (g : Grw 34 w.heap.size iv lv w6 iv' lv' (ids.length + 1) (ids.map (Value.int .i64) ++ [.int .i64 id]) (vs.length + 1) (rows.flatten ++ cs) w7) :
    Bin.Frame K w U S d T KT E (ids ++ [id]) (vs ++ [x]) iv' lv' (rows ++ [cs]) ((w7.setCell ⟨U, 5, none⟩ iv').setCell ⟨U, 6, none⟩ lv') ∧ Bin.Inv K s' ((w7.setCell ⟨U, 5, none⟩ iv').setCell ⟨U, 6, none⟩ lv') := by
  have hmine := f.mine
  have hk : Keep (fun i => U = i ∨ iv.ownBlock = some i ∨ lv.ownBlock = some i) w6 ((w7.setCell ⟨U, 5, none⟩ iv').setCell ⟨U, 6, none⟩ lv') := ((g.kp.weak (fun _ _ e => .inr e)).set U 5 (fun _ => .inl rfl) iv').set U 6 (fun _ => .inl rfl) lv'
  obtain ⟨t1, t2, t3⟩ := Bin.turn h f.kp i6 hk (fun i e => by
    have := hmine i e
    exact ⟨this.1, this.2.2.2⟩)
  have hlt := Bin.M_lt i6
  have hs67 := g.kp.size
  refine ⟨⟨t2, ?_, ?_⟩, t1⟩
  · refine Grw.done f.vb (hx.weak (fun i _ y => ⟨y.2, y.1 U (.inl rfl), fun e => y.1 i (.inr (.inl e)) rfl, fun e => y.1 i (.inr (.inr e)) rfl⟩)) g (fun i hi y => ⟨y.1, y.2.1, fun m => y.2.2 (t3 i m)⟩) (fun i hi _ => ⟨?_, fun p hp e => ?_, fun m => ?_⟩) (fun i y => y.1)
    · have := f.kp.size
      omega
    · have := lt_of_heap (f.still p hp).2.1
      omega
    · have := hlt i (t3 i m)
      omega
  · intro p hp
    obtain ⟨h1, h2, h3⟩ := f.still p hp
    refine ⟨h1, (hk.block p.1 (lt_of_heap h2) ?_).trans h2, fun m => h3 (t3 p.1 m)⟩
    intro e
    exact (hmine p.1 e).2.2.1 p hp rfl

end Go.Proofs.YtpfifpgbnhdjnaaGreatDoor

/- The reference's get: ids and parts are appended to. -/
namespace Go.Proofs.YtpfifpgbnhdjnaaGreatDoor
open Go Go.RowKit

variable {σ : Type} {r : Rdr σ} {w w6 w7 : World} {U : Nat} {S : List (Nat × Array Value × TypeId)} {d : Nat} {T KT E : Int} {ids : List Int} {vs : List V} {iv lv iv' lv' : Value} {rows : List (List Value)} {s' : σ}

theorem Rdr.Frame.two {x : V} {cs : List Value} {id : Int} (ok : r.Ok) (f : r.Frame w U S d T KT E ids vs iv lv rows w6) (i6 : r.Inv s' w6)
    (hx : ValAt d (fun i => (∀ j, U = j ∨ iv.ownBlock = some j ∨ lv.ownBlock = some j → i ≠ j) ∧ r.Own w.heap.size S w6 i) w6 cs x)
    (g : Grw 39 w.heap.size iv lv w6 iv' lv' (ids.length + 1) (ids.map (Value.int .i64) ++ [.int .i64 id]) (vs.length + 1) (rows.flatten ++ cs) w7) :
    r.Frame w U S d T KT E (ids ++ [id]) (vs ++ [x]) iv' lv' (rows ++ [cs]) ((w7.setCell ⟨U, 5, none⟩ iv').setCell ⟨U, 6, none⟩ lv') ∧ r.Inv s' ((w7.setCell ⟨U, 5, none⟩ iv').setCell ⟨U, 6, none⟩ lv') := by
  have hmine := f.mine
  have hk : Keep (fun i => U = i ∨ iv.ownBlock = some i ∨ lv.ownBlock = some i) w6 ((w7.setCell ⟨U, 5, none⟩ iv').setCell ⟨U, 6, none⟩ lv') := ((g.kp.weak (fun _ _ e => .inr e)).set U 5 (fun _ => .inl rfl) iv').set U 6 (fun _ => .inl rfl) lv'
  obtain ⟨t1, t3⟩ := ok.turn i6 hk (fun i e => (hmine i e).2.2.2)
  have t2 : Kpt r.M w ((w7.setCell ⟨U, 5, none⟩ iv').setCell ⟨U, 6, none⟩ lv') := Kpt.turned f.kp hk (fun i e => (hmine i e).1) t3
  have hlt := ok.lt i6
  have hs67 := g.kp.size
  refine ⟨⟨t2, ?_, ?_⟩, t1⟩
  · refine Grw.done f.vb (hx.weak (fun i _ y => ⟨y.2, y.1 U (.inl rfl), fun e => y.1 i (.inr (.inl e)) rfl, fun e => y.1 i (.inr (.inr e)) rfl⟩)) g (fun i hi y => ⟨y.1, y.2.1, fun m => y.2.2 (t3 i m)⟩) (fun i hi _ => ⟨?_, fun p hp e => ?_, fun m => ?_⟩) (fun i y => y.1)
    · have := f.kp.size
      omega
    · have := lt_of_heap (f.still p hp).2.1
      omega
    · have := hlt i (t3 i m)
      omega
  · intro p hp
    obtain ⟨h1, h2, h3⟩ := f.still p hp
    refine ⟨h1, (hk.block p.1 (lt_of_heap h2) ?_).trans h2, fun m => h3 (t3 p.1 m)⟩
    intro e
    exact (hmine p.1 e).2.2.1 p hp rfl

end Go.Proofs.YtpfifpgbnhdjnaaGreatDoor
