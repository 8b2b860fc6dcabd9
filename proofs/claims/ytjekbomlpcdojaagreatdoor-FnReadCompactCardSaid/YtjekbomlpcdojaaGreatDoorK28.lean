/- Part 28 of the proof: Rt0, Bi1, Own0, Val0, Gg1, Bi2, RpXBin, Bi3, Gt0, Flt0, FltIR. -/
import Derived.Test.YtjekbomlpcdojaaGreatDoorK15
import Derived.Test.YtjekbomlpcdojaaGreatDoorK16
import Derived.Test.YtjekbomlpcdojaaGreatDoorK10
import Derived.Test.YtjekbomlpcdojaaGreatDoorK17
import Derived.Test.YtjekbomlpcdojaaGreatDoorK27
set_option linter.unusedVariables false
set_option linter.unusedSimpArgs false
set_option linter.unusedSectionVars false
set_option maxHeartbeats 16000000
namespace Go.Proofs.YtjekbomlpcdojaaGreatDoor
open Go Go.RowKit
theorem ret_cell {f : Func} {slot : Nat} {a : Act} {w : World} {U : Nat} {Q : Ending → World → Prop} {T : TypeId} {fs : Array Field} {cs : Array Value} (hf : f.results = #[.cell slot T]) (hd : a.defers = []) (ha : a.tmps[slot]?.getD undef = .pointer (some ⟨U, 0, none⟩))
  (hU : w.heap[U]? = some (.cells cs T (0, 0))) (hu : Tryz.prog.underlying T = some (.struct fs)) (hs : (Tryz.prog.info? T).map (·.size) = some cs.size) (hQ : Q (.returned (.agg cs)) w) : bodyPost Tryz.prog f Q Exit.ret a w := by
 have hl := run_loadVar_row (P := Tryz.prog) w U T T _ (0, 0) _ hU hu rfl hs
 refine bodyPost_ret (v := .agg cs) ?_ hd hQ
 simp [results, hf, ha, asAddr, hl]
theorem ret_cell2 {f : Func} {slot s2 : Nat} {a : Act} {w : World} {U : Nat} {Q : Ending → World → Prop} {T : TypeId} {fs : Array Field} {cs : Array Value} {v2 : Value} (hf : f.results = #[.cell slot T, .tmp s2]) (hd : a.defers = []) (ha : a.tmps[slot]?.getD undef = .pointer (some ⟨U, 0, none⟩)) (hb : a.tmps[s2]?.getD undef = v2)
  (hU : w.heap[U]? = some (.cells cs T (0, 0))) (hu : Tryz.prog.underlying T = some (.struct fs)) (hs : (Tryz.prog.info? T).map (·.size) = some cs.size) (hQ : Q (.returned (.tuple #[.agg cs, v2])) w) : bodyPost Tryz.prog f Q Exit.ret a w := by
 have hl := run_loadVar_row (P := Tryz.prog) w U T T _ (0, 0) _ hU hu rfl hs
 refine bodyPost_ret (v := .tuple #[.agg cs, v2]) ?_ hd hQ
 simp [results, hf, ha, hb, asAddr, hl]
theorem ret_cell3 {f : Func} {slot s2 s3 : Nat} {a : Act} {w : World} {U : Nat} {Q : Ending → World → Prop} {T : TypeId} {fs : Array Field} {cs : Array Value} {v2 v3 : Value} (hf : f.results = #[.cell slot T, .tmp s2, .tmp s3]) (hd : a.defers = []) (ha : a.tmps[slot]?.getD undef = .pointer (some ⟨U, 0, none⟩)) (hb : a.tmps[s2]?.getD undef = v2) (hc : a.tmps[s3]?.getD undef = v3)
  (hU : w.heap[U]? = some (.cells cs T (0, 0))) (hu : Tryz.prog.underlying T = some (.struct fs)) (hs : (Tryz.prog.info? T).map (·.size) = some cs.size) (hQ : Q (.returned (.tuple #[.agg cs, v2, v3])) w) : bodyPost Tryz.prog f Q Exit.ret a w := by
 have hl := run_loadVar_row (P := Tryz.prog) w U T T _ (0, 0) _ hU hu rfl hs
 refine bodyPost_ret (v := .tuple #[.agg cs, v2, v3]) ?_ hd hQ
 simp [results, hf, ha, hb, hc, asAddr, hl]
theorem igot_size : (Tryz.prog.info? 145).map (·.size) = some 7 := by kernel_rfl
theorem ival_size : (Tryz.prog.info? 45).map (·.size) = some 7 := by kernel_rfl
abbrev stepJ (op t k z i n : Int) (sv : Value) : Array Value := #[.int .i64 op, .int .i64 t, .int .i64 k, .int .i64 z, .int .i64 i, .int .i64 n, sv]
abbrev stepI (op : Int) : Array Value := stepJ op 0 0 0 0 0 (.slice none 0 0)
theorem Bin.M_lt {K : Bin.Ctx} {s : Bin.St} {w : World} (h : Bin.Inv K s w) : ∀ i, Bin.M K w i → i < w.heap.size := by
 rintro i (rfl | rfl)
 ·exact h.p.mem.buf.lt
 ·obtain ⟨sc, _, hb⟩ := h.p.blk
  exact lt_of_heap hb
theorem Bin.M_new {K : Bin.Ctx} {s : Bin.St} {w w1 : World} (h : Bin.Inv K s w) (_ : Keep (fun _ => False) w w1) : ∀ i, Bin.M K w1 i → i < w.heap.size := Bin.M_lt h
theorem Bin.Some.lt {K : Bin.Ctx} {w : World} (h : Bin.Some K w) : ∀ i, Bin.M K w i → i < w.heap.size := by
 obtain ⟨s, h⟩ := h
 rintro i (rfl | rfl)
 ·exact h.mem.buf.lt
 ·obtain ⟨sc, _, hb⟩ := h.blk
  exact lt_of_heap hb
theorem Bin.kept {K : Bin.Ctx} {s : Bin.St} {w w1 : World} (_ : Bin.Inv K s w) (k : Keep (fun _ => False) w w1) : Kpt (Bin.M K) w w1 := ⟨k.weak (fun _ _ x => x.elim), fun _ _ x => x⟩
theorem Bin.b2 (K : Bin.Ctx) (s : Bin.St) : (Bin.pr K).scB 2 s = [] := by simp [Bin.pr, Bin.scB]
theorem Bin.b3 (K : Bin.Ctx) (s : Bin.St) : (Bin.pr K).scB 3 s = [] := by simp [Bin.pr, Bin.scB]
theorem Bin.b4 (K : Bin.Ctx) (s : Bin.St) : (Bin.pr K).scB 4 s = [] := by simp [Bin.pr, Bin.scB]
theorem Bin.b6 (K : Bin.Ctx) (s : Bin.St) : (Bin.pr K).scB 6 s = [] := by simp [Bin.pr, Bin.scB]
theorem Bin.b10 (K : Bin.Ctx) (s : Bin.St) : (Bin.pr K).scB 10 s = [] := by simp [Bin.pr, Bin.scB]
theorem Bin.b8 (K : Bin.Ctx) (s : Bin.St) : (Bin.pr K).scB 8 s = [] := by simp [Bin.pr, Bin.scB]
theorem Bin.n11 (K : Bin.Ctx) (s : Bin.St) : (Bin.pr K).scN 11 s = 0 := by simp [Bin.pr, Bin.scN]
theorem Bin.n16 (K : Bin.Ctx) (s : Bin.St) : (Bin.pr K).scN 16 s = 0 := by simp [Bin.pr, Bin.scN]
theorem Bin.b_le {K : Bin.Ctx} {s : Bin.St} {w : World} (h : Bin.Inv K s w) (t : Int) : ((Bin.pr K).scB t s).length ≤ 140737488355328 := by
 have hl := h.len
 show (Bin.scB t s).length ≤ _
 unfold Bin.scB
 split
 ·simp [strS]; omega
 ·split
  ·simp; omega
  ·simp
theorem Bin.lT_w (K : Bin.Ctx) (s : Bin.St) : wrap64 ((Bin.pr K).lT s) = (Bin.pr K).lT s := by
 show wrap64 (listT s) = listT s
 cases s with
 | nil => simp [listT, wrap64]
 | cons b r =>
  have := b.toNat_lt
  simp only [listT, wrap64]
  omega
theorem Bin.lT_bd (K : Bin.Ctx) (s : Bin.St) : 0 ≤ (Bin.pr K).lT s ∧ (Bin.pr K).lT s ≤ 255 := by
 show 0 ≤ listT s ∧ listT s ≤ 255
 cases s with
 | nil => simp [listT]
 | cons b r => have := b.toNat_lt; simp only [listT]; omega
theorem Bin.fT_bd (K : Bin.Ctx) (s : Bin.St) : 0 ≤ (Bin.pr K).fT s ∧ (Bin.pr K).fT s ≤ 255 := by
 show 0 ≤ fieldT s ∧ fieldT s ≤ 255
 cases s with
 | nil => simp [fieldT]
 | cons b r => have := b.toNat_lt; simp only [fieldT]; omega
theorem Bin.mT_bd (K : Bin.Ctx) (s : Bin.St) : (0 ≤ (Bin.pr K).mT s ∧ (Bin.pr K).mT s ≤ 255) ∧ 0 ≤ (Bin.pr K).mKT s ∧ (Bin.pr K).mKT s ≤ 255 := by
 show (0 ≤ mapT s ∧ mapT s ≤ 255) ∧ 0 ≤ mapKT s ∧ mapKT s ≤ 255
 match s with
 | [] => simp [mapT, mapKT]
 | [_] => simp [mapT, mapKT]
 | k :: t :: _ => have := k.toNat_lt; have := t.toNat_lt; simp only [mapT, mapKT]; omega
theorem BinP.over {E : Env} {P MB B D : Nat} {a : Option Addr} {c : Cfg} {s s' : List UInt8} {w w2 w3 : World} {N : Nat → Prop} (h : BinP E P MB B D a c s w) (h2 : BinP E P MB B D a c s' w2) (k2 : Keep (MB2 P B) w w2) (k : Keep N w2 w3) (hN : ∀ i, N i → w.heap.size ≤ i) : BinP E P MB B D a c s' w3 := by
 have hP : P < w.heap.size := by obtain ⟨sc, _, hb⟩ := h.blk; exact lt_of_heap hb
 have hM : MB < w.heap.size := lt_of_cell h.mem.mb
 have hB : B < w.heap.size := h.mem.buf.lt
 have hD := h.mem.ltD
 have hE := h.glob.size
 have n1 : ∀ i, i < w.heap.size → ¬ N i := fun i hi x => by have := hN i x; omega
 refine h2.keep k (n1 _ hP) (n1 _ hM) (n1 _ hB) (n1 _ hD) (fun i x => by have := hN i x; omega) ?_
 have hc := h.cfg.weak (N := fun i => MB2 P B i ∨ N i) (fun i hi x => x.elim id (fun y => absurd y (n1 i hi)))
 exact ((hc.keep k2 (fun i x => .inl x)).keep k (fun i x => .inr x)).weak (fun i _ x => .inl x)
theorem Bin.turn {K : Bin.Ctx} {s s' : Bin.St} {w w2 w3 : World} {N : Nat → Prop} (h : Bin.Inv K s w) (k2 : Kpt (Bin.M K) w w2) (i2 : Bin.Inv K s' w2) (hk : Keep N w2 w3) (hN : ∀ i, N i → w.heap.size ≤ i ∧ ¬ Bin.M K w2 i) :
  Bin.Inv K s' w3 ∧ Kpt (Bin.M K) w w3 ∧ ∀ i, Bin.M K w3 i → Bin.M K w2 i :=
 ⟨⟨h.p.over i2.p k2.keep hk (fun i x => (hN i x).1), i2.len⟩, ⟨k2.keep.trans hk (fun i hi x => by have := (hN i x).1; omega), fun _ _ x => x⟩, fun _ x => x⟩
theorem Bin.thru {K : Bin.Ctx} {s s1 s' : Bin.St} {w w1 w2 w3 : World} {k : Int} {ev : Value} {N : Nat → Prop} (h : Bin.Inv K s w) (k1 : Kpt (Bin.M K) w w1) (_ : Bin.Inv K s1 w1) (hp : Bin.Post K w1 w2 k ev s') (hk : Keep N w2 w3) (hN : ∀ i, N i → w.heap.size ≤ i ∧ i < w1.heap.size ∧ ¬ Bin.M K w1 i) :
  Bin.Post K w w3 k ev s' ∧ ∀ i, Bin.M K w3 i → Bin.M K w2 i := by
 have hE := h.p.glob.size
 have k02 : Keep (MB2 K.P K.B) w w2 := k1.keep.then hp.keep.keep
 refine ⟨⟨(hp.err.keep hk (fun i hi x => by have := (hN i x).2; omega)).mono k1.size, fun hz => ⟨h.p.over (hp.inv hz).p k02 hk (fun i x => (hN i x).1), (hp.inv hz).len⟩, ?_, k02.trans hk (fun i hi x => by have := (hN i x).1; omega), fun _ _ x => x⟩, fun _ x => x⟩
 obtain ⟨s2, h2⟩ := hp.some
 exact ⟨s2, h.p.over h2 k02 hk (fun i x => (hN i x).1)⟩
theorem Bin.through {K : Bin.Ctx} {s s' : Bin.St} {w w1 w2 w3 : World} {k : Int} {ev : Value} {N : Nat → Prop} (h : Bin.Inv K s w) (hk0 : Keep (fun _ => False) w w1) (hp : Bin.Post K w1 w2 k ev s') (hk : Keep N w2 w3) (hN : ∀ i, N i → w.heap.size ≤ i ∧ i < w1.heap.size) : Bin.Post K w w3 k ev s' :=
 (Bin.thru h (Bin.kept h hk0) (h.fresh hk0) hp hk (fun i x => ⟨(hN i x).1, (hN i x).2, fun m => by have := Bin.M_new h hk0 i m; have := (hN i x).1; omega⟩)).1
theorem Bin.through_M {K : Bin.Ctx} {s s' : Bin.St} {w w1 w2 w3 : World} {k : Int} {ev : Value} {N : Nat → Prop} (h : Bin.Inv K s w) (hk0 : Keep (fun _ => False) w w1) (hp : Bin.Post K w1 w2 k ev s') (hk : Keep N w2 w3) (hN : ∀ i, N i → w.heap.size ≤ i ∧ i < w1.heap.size) : ∀ i, Bin.M K w3 i → Bin.M K w2 i :=
 (Bin.thru h (Bin.kept h hk0) (h.fresh hk0) hp hk (fun i x => ⟨(hN i x).1, (hN i x).2, fun m => by have := Bin.M_new h hk0 i m; have := (hN i x).1; omega⟩)).2
theorem run_append_noneO (a : Option Addr) (c : Nat) (ty : TypeId) (w : World) : (Builtin.append_ #[24, 24] ty #[.slice none 0 0, .slice a 0 c]).run Tryz.prog w = .ok (.slice none 0 0) w := by
 cases a <;> kernel_rfl
theorem wpList_nilO {A : Nat → Prop} {w : World} {ops : Array Oper} {rest : List Oper} {o : Oper} {a : Act} {Q : Exit → Act → World → Prop} (hg : o.guard = none) (s x : Operand)
  (hop : o.op = Op.call { callee := Callee.builtin Builtin.append, args := #[s, x], argTypes := #[24, 24] })
  (hs : a.eval s = .slice none 0 0) (v : Value) (l : List UInt8) (hv : BytesAt A w v l) (hx : a.eval x = v)
  (hK : ∀ v' w', w'.ownsRow w.heap.size 5 1 v' l.length (bcells l) → Keep (fun _ => False) w w' → wpList Tryz.prog ops Q rest (a.put o.dst v') w') : wpList Tryz.prog ops Q (o :: rest) a w := by
 rcases hv with ⟨rfl, va, c, rfl⟩ | ⟨hne, D, off, c, rfl, h1, h2, h3, h4⟩
 ·refine wpList_plain hg fun K hK' => ?_
  have hrun := run_append_noneO va c o.type w
  unfold Oper.wp
  simp [execOp, hop, resolve, invoke, builtin, hs, hx, hrun, Result.andThen]
  exact hK' _ _ (hK _ _ (World.ownsRow_nil w _ _ _) (Keep.refl _ w))
 ·have h0 := u8info
  obtain ⟨i, hi, h5⟩ := Option.map_eq_some_iff.1 h0
  simp only [Prod.mk.injEq] at h5
  obtain ⟨hz, hsz, hby⟩ := h5
  refine wpList_append_own w hg s x 24 hop w.heap.size 5 i (.int .u8 0) 1 1 Tryz.underlying24 hi hz hsz hby rfl (by omega) (.slice none 0 0) 0 [] hs (World.ownsRow_nil w _ _ _)
   ⟨D, off, none⟩ l.length c (bcells l) hx (by simp) (fun j u hj => ?_) (bcells_oc l) (by simp only [maxLen]; omega) (by omega) (Nat.le_refl _) (fun v' w' r1 r2 _ => hK v' w' (by simpa using r1) ((Keep.refl _ w).grown r2 (fun k hk => by cases hk)))
  simp [bcells] at hj
  obtain ⟨b, hb1, rfl⟩ := hj
  rw [Addr.add_lit]
  exact h4 j b hb1
theorem owned_any {A : Nat → Prop} {w : World} {v : Value} {l : List UInt8} (h : BytesAt A w v l) :
  Calls Tryz.prog 133 #[v] w fun e w' => ∃ va vm vc, e = .returned (.slice va vm vc) ∧ BytesAt (w.heap.size ≤ ·) w' (.slice va vm vc) l ∧ Keep (fun _ => False) w w' := by
 obtain ⟨_, _, _, hl, _, _⟩ := h.cellAt'
 have HL := hdd hl
 have H := hdd h
 clear h hl
 go_enter Tryz.func133, Tryz.ntmps133
 go_wp2_with (refine wpList_nilO rfl _ _ rfl rfl v l H.out rfl ?_)
 intro v1 w1 ho1 hk1
 have hb : BytesAt (w.heap.size ≤ ·) w1 v1 l := .row ho1 rfl HL.out
 obtain ⟨va, vm, vc, rfl⟩ := BytesAt.shape hb
 have HB := hdd hb
 clear hb ho1
 go_wp2_with fail
 go_ret
 exact ⟨va, vm, vc, rfl, HB.out, hk1⟩
inductive V where
 | mk (T N : Int) (S : List UInt8) (K E : Int) (IDs : List Int) (L : List V)
def IntsAt (A : Nat → Prop) (w : World) (v : Value) (l : List Int) : Prop :=
 (l = [] ∧ ∃ a c, v = .slice a 0 c) ∨ (l ≠ [] ∧ ∃ D o c, v = .slice (some ⟨D, o, none⟩) l.length c ∧ l.length ≤ c ∧ l.length ≤ 140737488355328 ∧ A D ∧ ∀ j b, l[j]? = some b → w.cell? ⟨D, o + j, none⟩ = some (.int .i64 b))
theorem IntsAt.keep {A M : Nat → Prop} {w w' : World} {v : Value} {l : List Int} (h : IntsAt A w v l) (k : Keep M w w') (hM : ∀ i, A i → ¬ M i) : IntsAt A w' v l := by
 rcases h with h | ⟨hne, D, o, c, rfl, h1, h2, h3, h4⟩
 ·exact .inl h
 ·exact .inr ⟨hne, D, o, c, rfl, h1, h2, h3, fun j b hj => (k.cell (p := ⟨D, o + j, none⟩) (lt_of_cell (p := ⟨D, o + j, none⟩) (h4 j b hj)) (hM _ h3)).trans (h4 j b hj)⟩
theorem IntsAt.weak {A A' : Nat → Prop} {w : World} {v : Value} {l : List Int} (h : IntsAt A w v l) (hA : ∀ i, i < w.heap.size → A i → A' i) : IntsAt A' w v l := by
 rcases h with h | ⟨hne, D, o, c, rfl, h1, h2, h3, h4⟩
 ·exact .inl h
 ·refine .inr ⟨hne, D, o, c, rfl, h1, h2, hA _ ?_ h3, h4⟩
  cases l with
  | nil => exact absurd rfl hne
  | cons x r => exact lt_of_cell (h4 0 x rfl)
def ValAt : Nat → (Nat → Prop) → World → List Value → V → Prop
 | 0, _, _, _, _ => False
 | d + 1, A, w, cs, .mk T N S K E IDs L => ∃ sv iv lv, cs = (valC T N sv K E iv lv).toList ∧ BytesAt A w sv S ∧ IntsAt A w iv IDs ∧
   ((L = [] ∧ ∃ a c, lv = .slice a 0 c) ∨ (L ≠ [] ∧ ∃ D o c, lv = .slice (some ⟨D, o, none⟩) L.length c ∧ (L.length ≤ c ∧ c ≤ 9223372036854775807) ∧ A D ∧
     ∀ j x, L[j]? = some x → ∃ cs', ValAt d A w cs' x ∧ ∀ i v, cs'[i]? = some v → w.cell? ⟨D, o + (j * 7 + i), none⟩ = some v))
theorem ValAt.len {A : Nat → Prop} {w : World} {cs : List Value} {x : V} : ∀ {d : Nat}, ValAt d A w cs x → cs.length = 7
 | 0, h => h.elim
 | d + 1, h => by
  cases x with
  | mk T N S K E IDs L =>
   obtain ⟨sv, iv, lv, rfl, _⟩ := h
   rfl
theorem ValAt.keep {A M : Nat → Prop} {w w' : World} (k : Keep M w w') (hM : ∀ i, A i → ¬ M i) : ∀ {d : Nat} {cs : List Value} {x : V}, ValAt d A w cs x → ValAt d A w' cs x
 | 0, _, _, h => h.elim
 | d + 1, cs, x, h => by
  cases x with
  | mk T N S K E IDs L =>
   obtain ⟨sv, iv, lv, rfl, h1, h2, h3⟩ := h
   refine ⟨sv, iv, lv, rfl, h1.keep k hM, h2.keep k hM, ?_⟩
   rcases h3 with h3 | ⟨hne, D, o, c, rfl, e1, e2, e3⟩
   ·exact .inl h3
   ·refine .inr ⟨hne, D, o, c, rfl, e1, e2, fun j y hj => ?_⟩
    obtain ⟨cs', hv, hc⟩ := e3 j y hj
    exact ⟨cs', ValAt.keep k hM hv, fun i v hi => (k.cell (p := ⟨D, o + (j * 7 + i), none⟩) (lt_of_cell (p := ⟨D, o + (j * 7 + i), none⟩) (hc i v hi)) (hM _ e2)).trans (hc i v hi)⟩
theorem ValAt.weak {A A' : Nat → Prop} {w : World} (hA : ∀ i, i < w.heap.size → A i → A' i) : ∀ {d : Nat} {cs : List Value} {x : V}, ValAt d A w cs x → ValAt d A' w cs x
 | 0, _, _, h => h.elim
 | d + 1, cs, x, h => by
  cases x with
  | mk T N S K E IDs L =>
   obtain ⟨sv, iv, lv, rfl, h1, h2, h3⟩ := h
   refine ⟨sv, iv, lv, rfl, h1.weak hA, h2.weak hA, ?_⟩
   rcases h3 with h3 | ⟨hne, D, o, c, rfl, e1, e2, e3⟩
   ·exact .inl h3
   ·cases L with
    | nil => exact absurd rfl hne
    | cons x0 r =>
     obtain ⟨cs0, hv0, hc0⟩ := e3 0 x0 rfl
     have hl := hv0.len
     have hD : D < w.heap.size := lt_of_cell (hc0 0 (cs0[0]'(by omega)) (List.getElem?_eq_getElem _))
     refine .inr ⟨hne, D, o, c, rfl, e1, hA _ hD e2, fun j y hj => ?_⟩
     obtain ⟨cs', hv, hc⟩ := e3 j y hj
     exact ⟨cs', ValAt.weak hA hv, hc⟩
abbrev zVal : Array Value := valC 0 0 nilB 0 0 (.slice none 0 0) (.slice none 0 0)
abbrev getW (w : World) (t : Int) : World := ((w.alloc (.cells zVal 45 (0, 0))).alloc (.cells (valC t 0 nilB 0 0 (.slice none 0 0) (.slice none 0 0)) 45 (0, 0))).alloc (.cells zGot 145 (0, 0))
theorem getW_facts (w : World) (t : Int) : Keep (fun _ => False) w (getW w t) ∧ (getW w t).heap[w.heap.size]? = some (.cells zVal 45 (0, 0)) ∧ (getW w t).heap[w.heap.size + 1]? = some (.cells (valC t 0 nilB 0 0 (.slice none 0 0) (.slice none 0 0)) 45 (0, 0)) ∧
  (getW w t).heap[w.heap.size + 1 + 1]? = some (.cells zGot 145 (0, 0)) ∧ (getW w t).heap.size = w.heap.size + 3 := by
 refine ⟨(((Keep.refl _ w).alloc _).alloc _).alloc _, ?_, ?_, ?_, by simp⟩
 ·exact (Below.heap_alloc _ _ _ (by simp; omega)).trans ((Below.heap_alloc _ _ _ (by simp)).trans (heap_alloc_new w _))
 ·exact (Below.heap_alloc _ _ _ (by simp)).trans (heap_alloc_at (by simp) _)
 ·exact heap_alloc_at (by simp) _
theorem val_set {w : World} {U : Nat} {v0 v1 v2 v3 v4 v5 v6 : Value} {T : TypeId} (h : w.heap[U]? = some (.cells #[v0, v1, v2, v3, v4, v5, v6] T (0, 0))) (x0 x1 x2 x3 x4 x5 x6 : Value) :
  (((((((w.setCell ⟨U, 0, none⟩ x0).setCell ⟨U, 1, none⟩ x1).setCell ⟨U, 2, none⟩ x2).setCell ⟨U, 3, none⟩ x3).setCell ⟨U, 4, none⟩ x4).setCell ⟨U, 5, none⟩ x5).setCell ⟨U, 6, none⟩ x6).heap[U]? = some (.cells #[x0, x1, x2, x3, x4, x5, x6] T (0, 0)) := by
 have h0 := heap_set_same (i := 0) h x0
 have h1 := heap_set_same (i := 1) h0 x1
 have h2 := heap_set_same (i := 2) h1 x2
 have h3 := heap_set_same (i := 3) h2 x3
 have h4 := heap_set_same (i := 4) h3 x4
 have h5 := heap_set_same (i := 5) h4 x5
 have h6 := heap_set_same (i := 6) h5 x6
 simpa using h6
theorem Bin.fI_bd (K : Bin.Ctx) (s : Bin.St) : -32768 ≤ (Bin.pr K).fI s ∧ (Bin.pr K).fI s ≤ 32767 := by
 show -32768 ≤ fieldI s ∧ fieldI s ≤ 32767
 cases s with
 | nil => simp [fieldI]
 | cons b r =>
  simp only [fieldI]
  split
  ·omega
  ·have key : ∀ n : Int, -32768 ≤ IntKind.i16.wrap n ∧ IntKind.i16.wrap n ≤ 32767 := fun n => by
    have e : IntKind.i16.wrap n = if n % 65536 ≥ 32768 then n % 65536 - 65536 else n % 65536 := by
     simp [IntKind.wrap, IntKind.bits, IntKind.signed]
    rw [e]
    split <;> omega
   exact key _
abbrev Bin.rb (K : Bin.Ctx) : Rp.Base Bin.St where
 E := K.E
 T := 158
 P := K.P
 pr := Bin.pr K
 Mh h := Bin.M K { (default : World) with heap := h }
 Inv := Bin.Inv K
 Some := Bin.Some K
 fBool := 297
 fByte := 298
 fI16 := 302
 fI32 := 303
 fI64 := 304
 fDbl := 299
 fStr := 313
 fUuid := 316
 fFb := 300
 fMb := 307
 fLb := 305
 fTb := 311
 fSb := 314
 fSe := 315
 fFe := 301
 fMe := 308
 fLe := 306
 fTe := 312
theorem Bin.Post.rp {K : Bin.Ctx} {s : Bin.St} {w w' : World} {k : Int} {ev : Value} (h : Bin.Post K w w' k ev s) : Rp.Post (Bin.rb K) w w' k ev s := ⟨h.err, h.inv, h.some, h.keep⟩
theorem Bin.Post.of {K : Bin.Ctx} {s : Bin.St} {w w' : World} {k : Int} {ev : Value} (h : Rp.Post (Bin.rb K) w w' k ev s) : Bin.Post K w w' k ev s := ⟨h.err, h.inv, h.some, h.keep⟩
theorem Bin.mBool (K : Bin.Ctx) : Rp.Meth 158 K.P "ReadBool" 297 := ⟨fun w => by kernel_rfl, fun w => by kernel_rfl, fun args w => by kernel_rfl⟩
theorem Bin.mByte (K : Bin.Ctx) : Rp.Meth 158 K.P "ReadByte" 298 := ⟨fun w => by kernel_rfl, fun w => by kernel_rfl, fun args w => by kernel_rfl⟩
theorem Bin.mI16 (K : Bin.Ctx) : Rp.Meth 158 K.P "ReadI16" 302 := ⟨fun w => by kernel_rfl, fun w => by kernel_rfl, fun args w => by kernel_rfl⟩
theorem Bin.mI32 (K : Bin.Ctx) : Rp.Meth 158 K.P "ReadI32" 303 := ⟨fun w => by kernel_rfl, fun w => by kernel_rfl, fun args w => by kernel_rfl⟩
theorem Bin.mI64 (K : Bin.Ctx) : Rp.Meth 158 K.P "ReadI64" 304 := ⟨fun w => by kernel_rfl, fun w => by kernel_rfl, fun args w => by kernel_rfl⟩
theorem Bin.mDbl (K : Bin.Ctx) : Rp.Meth 158 K.P "ReadDouble" 299 := ⟨fun w => by kernel_rfl, fun w => by kernel_rfl, fun args w => by kernel_rfl⟩
theorem Bin.mStr (K : Bin.Ctx) : Rp.Meth 158 K.P "ReadString" 313 := ⟨fun w => by kernel_rfl, fun w => by kernel_rfl, fun args w => by kernel_rfl⟩
theorem Bin.mUuid (K : Bin.Ctx) : Rp.Meth 158 K.P "ReadUUID" 316 := ⟨fun w => by kernel_rfl, fun w => by kernel_rfl, fun args w => by kernel_rfl⟩
theorem Bin.mFb (K : Bin.Ctx) : Rp.Meth 158 K.P "ReadFieldBegin" 300 := ⟨fun w => by kernel_rfl, fun w => by kernel_rfl, fun args w => by kernel_rfl⟩
theorem Bin.mMb (K : Bin.Ctx) : Rp.Meth 158 K.P "ReadMapBegin" 307 := ⟨fun w => by kernel_rfl, fun w => by kernel_rfl, fun args w => by kernel_rfl⟩
theorem Bin.mLb (K : Bin.Ctx) : Rp.Meth 158 K.P "ReadListBegin" 305 := ⟨fun w => by kernel_rfl, fun w => by kernel_rfl, fun args w => by kernel_rfl⟩
theorem Bin.mTb (K : Bin.Ctx) : Rp.Meth 158 K.P "ReadSetBegin" 311 := ⟨fun w => by kernel_rfl, fun w => by kernel_rfl, fun args w => by kernel_rfl⟩
theorem Bin.mSb (K : Bin.Ctx) : Rp.Meth 158 K.P "ReadStructBegin" 314 := ⟨fun w => by kernel_rfl, fun w => by kernel_rfl, fun args w => by kernel_rfl⟩
theorem Bin.mSe (K : Bin.Ctx) : Rp.Meth 158 K.P "ReadStructEnd" 315 := ⟨fun w => by kernel_rfl, fun w => by kernel_rfl, fun args w => by kernel_rfl⟩
theorem Bin.mFe (K : Bin.Ctx) : Rp.Meth 158 K.P "ReadFieldEnd" 301 := ⟨fun w => by kernel_rfl, fun w => by kernel_rfl, fun args w => by kernel_rfl⟩
theorem Bin.mMe (K : Bin.Ctx) : Rp.Meth 158 K.P "ReadMapEnd" 308 := ⟨fun w => by kernel_rfl, fun w => by kernel_rfl, fun args w => by kernel_rfl⟩
theorem Bin.mLe (K : Bin.Ctx) : Rp.Meth 158 K.P "ReadListEnd" 306 := ⟨fun w => by kernel_rfl, fun w => by kernel_rfl, fun args w => by kernel_rfl⟩
theorem Bin.mTe (K : Bin.Ctx) : Rp.Meth 158 K.P "ReadSetEnd" 312 := ⟨fun w => by kernel_rfl, fun w => by kernel_rfl, fun args w => by kernel_rfl⟩
def Bin.rp (K : Bin.Ctx) : Rp.Ctx Bin.St where
 toBase := Bin.rb K
 ok := Bin.ok K
 fresh h k := Bin.Inv.fresh h k
 isSome h := Bin.Inv.some h
 fresh1 h k := ⟨Bin.Some.fresh (Bin.Inv.some h) k, Bin.kept h k, fun i m => Bin.M_new h k i m⟩
 lt h i m := Bin.Some.lt h i m
 glob h := Bin.Inv.glob h
 turn := Bin.turn
 thru h k1 i1 hp hk hN := let ⟨a, b⟩ := Bin.thru h k1 i1 (Bin.Post.of hp) hk hN; ⟨a.rp, b⟩
 b0 t s h1 h2 := by show Bin.scB t s = []; unfold Bin.scB; rw [if_neg h1, if_neg h2]
 n0 t s h := by rcases h with rfl | rfl; exact Bin.n11 K s; exact Bin.n16 K s
 b_le := Bin.b_le
 lT_bd := Bin.lT_bd K
 fT_bd := Bin.fT_bd K
 mT_bd := Bin.mT_bd K
 fI_bd := Bin.fI_bd K
 mBool := Bin.mBool K
 readBool h := (Bin.readBool h).mono (fun e w' r => by obtain ⟨v, ev, rfl, hp, hv⟩ := r; exact ⟨v, ev, rfl, hp.rp, hv⟩)
 mByte := Bin.mByte K
 readByte h := (Bin.readByte h).mono (fun e w' r => by obtain ⟨n, ev, rfl, hp, hv⟩ := r; exact ⟨n, ev, rfl, hp.rp, hv⟩)
 mI16 := Bin.mI16 K
 readI16 h := (Bin.readI16 h).mono (fun e w' r => by obtain ⟨n, ev, rfl, hp, hv⟩ := r; exact ⟨n, ev, rfl, hp.rp, hv⟩)
 mI32 := Bin.mI32 K
 readI32 h := (Bin.readI32 h).mono (fun e w' r => by obtain ⟨n, ev, rfl, hp, hv⟩ := r; exact ⟨n, ev, rfl, hp.rp, hv⟩)
 mI64 := Bin.mI64 K
 readI64 h := (Bin.readI64 h).mono (fun e w' r => by obtain ⟨n, ev, rfl, hp, hv⟩ := r; exact ⟨n, ev, rfl, hp.rp, hv⟩)
 mDbl := Bin.mDbl K
 readDouble h := (Bin.readDouble h).mono (fun e w' r => by obtain ⟨n, ev, rfl, hp, hv⟩ := r; exact ⟨n, ev, rfl, hp.rp, hv⟩)
 mStr := Bin.mStr K
 readString h := (Bin.readString h).mono (fun e w' r => by obtain ⟨l, ev, rfl, hp, hv⟩ := r; exact ⟨l, ev, rfl, hp.rp, hv⟩)
 mUuid := Bin.mUuid K
 readUUID h := (Bin.readUUID h).mono (fun e w' r => by obtain ⟨l, ev, rfl, hp, hv⟩ := r; exact ⟨l, ev, rfl, hp.rp, hv⟩)
 mFb := Bin.mFb K
 readFieldBegin h := (Bin.readFieldBegin h).mono (fun e w' r => by obtain ⟨l, t, id, ev, rfl, hp, hv⟩ := r; exact ⟨l, t, id, ev, rfl, hp.rp, hv⟩)
 mMb := Bin.mMb K
 readMapBegin h := (Bin.readMapBegin h).mono (fun e w' r => by obtain ⟨kt, t, n, ev, rfl, hp, hv⟩ := r; exact ⟨kt, t, n, ev, rfl, hp.rp, hv⟩)
 mLb := Bin.mLb K
 readListBegin h := (Bin.readListBegin h).mono (fun e w' r => by obtain ⟨t, n, ev, rfl, hp, hv⟩ := r; exact ⟨t, n, ev, rfl, hp.rp, hv⟩)
 mTb := Bin.mTb K
 readSetBegin h := (Bin.readSetBegin h).mono (fun e w' r => by obtain ⟨t, n, ev, rfl, hp, hv⟩ := r; exact ⟨t, n, ev, rfl, hp.rp, hv⟩)
 mSb := Bin.mSb K
 readStructBegin h d := (Bin.readStructBegin h d).mono (fun e w' r => by obtain ⟨l, rfl, hp⟩ := r; exact ⟨l, rfl, hp.rp⟩)
 mSe := Bin.mSe K
 readStructEnd h d := (Bin.readStructEnd h d).mono (fun e w' r => by obtain ⟨rfl, hp⟩ := r; exact ⟨rfl, hp.rp⟩)
 mFe := Bin.mFe K
 readFieldEnd h := (Bin.readFieldEnd h).mono (fun e w' r => by obtain ⟨rfl, hp⟩ := r; exact ⟨rfl, hp.rp⟩)
 mMe := Bin.mMe K
 readMapEnd h := (Bin.readMapEnd h).mono (fun e w' r => by obtain ⟨rfl, hp⟩ := r; exact ⟨rfl, hp.rp⟩)
 mLe := Bin.mLe K
 readListEnd h := (Bin.readListEnd h).mono (fun e w' r => by obtain ⟨rfl, hp⟩ := r; exact ⟨rfl, hp.rp⟩)
 mTe := Bin.mTe K
 readSetEnd h := (Bin.readSetEnd h).mono (fun e w' r => by obtain ⟨rfl, hp⟩ := r; exact ⟨rfl, hp.rp⟩)
theorem bin_inv {E : Env} {w2 w3 : World} {MB B D P : Nat} {a : Option Addr} {c : Cfg} {l : List UInt8} (hg : Glob E w2) (hm : Mem E w2 MB B D l) (hP : w2.heap.size ≤ P) (hPb : w3.heap[P]? = some (binO MB a))
  (hcfg : CfgAt (fun i => i < w2.heap.size ∨ P ≤ i) w3 a c) (hk : Keep (fun _ => False) w2 w3) (hc : c.ok) (hl : l.length ≤ 140737488355328) : Bin.Inv ⟨E, P, MB, B, D, a, c⟩ l w3 := by
 have h1 : MB < w2.heap.size := lt_of_cell hm.mb
 have h2 : B < w2.heap.size := hm.buf.lt
 have h3 := hm.ltD
 have h4 := hg.size
 have h5 : BinP E P MB B D a c l w3 := by
  refine ⟨⟨List.replicate 64 0, by simp, hPb⟩, hm.keep hk id id id, hg.keep hk (fun _ x => x.elim), hcfg.weak (fun i hi h => ?_), hc, by omega, by omega, by omega, by omega⟩
  rcases h with h | h <;> omega
 exact ⟨h5, hl⟩
def V.zero : V := .mk 0 0 [] 0 0 [] []
section
variable {σ : Type}
end
section
variable {σ : Type}
def V.t : V → Int | .mk t _ _ _ _ _ _ => t
def V.n : V → Int | .mk _ n _ _ _ _ _ => n
def V.s : V → List UInt8 | .mk _ _ s _ _ _ _ => s
end
theorem Rp.skip_default {St : Type} (K : Rp.Ctx St) (t : Int) (s : St) (w : World) (h : K.Inv s w) (hroom : K.pr.Room s) :
  Calls Tryz.prog 153 #[ctxV, K.V, .int .u8 t] w fun e w' => ∃ ev, e = .returned ev ∧ Rp.Post K w w' (skp K.pr 64 t s).1 ev (skp K.pr 64 t s).2 := by
 go_enter Tryz.func153, Tryz.ntmps153
 go_wp2_with fail
 refine (Rp.skips K 64 64 t s w (by decide) (by decide) (by decide) h hroom).mono ?_
 rintro e w1 ⟨ev, rfl, hp⟩
 go_wp2_with fail
 go_ret
 exact ⟨_, rfl, hp⟩
end Go.Proofs.YtjekbomlpcdojaaGreatDoor
