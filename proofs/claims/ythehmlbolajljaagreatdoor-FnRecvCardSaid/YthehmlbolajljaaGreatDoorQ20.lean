/- Part 20 of the proof: Rt0, Gg1, Bi1, Bi2, RpXBin, Bi3, Val0, Gt0, Flt0, FltM, FltIR. -/
import Derived.Test.YthehmlbolajljaaGreatDoorQ15
import Derived.Test.YthehmlbolajljaaGreatDoorQ16
import Derived.Test.YthehmlbolajljaaGreatDoorQ10
import Derived.Test.YthehmlbolajljaaGreatDoorQ4
import Derived.Test.YthehmlbolajljaaGreatDoorQ19
set_option linter.unusedVariables false
set_option linter.unusedSimpArgs false
set_option linter.unusedSectionVars false
set_option maxHeartbeats 16000000
namespace Go.Proofs.YthehmlbolajljaaGreatDoor
open Go Go.RowKit
theorem ret_cell2 {f : Func} {slot s2 : Nat} {a : Act} {w : World} {U : Nat} {Q : Ending → World → Prop} {T : TypeId} {fs : Array Field} {cs : Array Value} {v2 : Value} (hf : f.results = #[.cell slot T, .tmp s2]) (hd : a.defers = []) (ha : a.tmps[slot]?.getD undef = .pointer (some ⟨U, 0, none⟩)) (hb : a.tmps[s2]?.getD undef = v2)
  (hU : w.heap[U]? = some (.cells cs T (0, 0))) (hu : Tryz.prog.underlying T = some (.struct fs)) (hs : (Tryz.prog.info? T).map (·.size) = some cs.size) (hQ : Q (.returned (.tuple #[.agg cs, v2])) w) : bodyPost Tryz.prog f Q Exit.ret a w := by
 have hl := run_loadVar_row (P := Tryz.prog) w U T T _ (0, 0) _ hU hu rfl hs
 refine bodyPost_ret (v := .tuple #[.agg cs, v2]) ?_ hd hQ
 simp [results, hf, ha, hb, asAddr, hl]
theorem ret_cell3 {f : Func} {slot s2 s3 : Nat} {a : Act} {w : World} {U : Nat} {Q : Ending → World → Prop} {T : TypeId} {fs : Array Field} {cs : Array Value} {v2 v3 : Value} (hf : f.results = #[.cell slot T, .tmp s2, .tmp s3]) (hd : a.defers = []) (ha : a.tmps[slot]?.getD undef = .pointer (some ⟨U, 0, none⟩)) (hb : a.tmps[s2]?.getD undef = v2) (hc : a.tmps[s3]?.getD undef = v3)
  (hU : w.heap[U]? = some (.cells cs T (0, 0))) (hu : Tryz.prog.underlying T = some (.struct fs)) (hs : (Tryz.prog.info? T).map (·.size) = some cs.size) (hQ : Q (.returned (.tuple #[.agg cs, v2, v3])) w) : bodyPost Tryz.prog f Q Exit.ret a w := by
 have hl := run_loadVar_row (P := Tryz.prog) w U T T _ (0, 0) _ hU hu rfl hs
 refine bodyPost_ret (v := .tuple #[.agg cs, v2, v3]) ?_ hd hQ
 simp [results, hf, ha, hb, hc, asAddr, hl]
theorem igot_size : (Tryz.prog.info? 139).map (·.size) = some 7 := by kernel_rfl
theorem ival_size : (Tryz.prog.info? 29).map (·.size) = some 7 := by kernel_rfl
abbrev stepI (op : Int) : Array Value := #[.int .i64 op, .int .i64 0, .int .i64 0, .int .i64 0, .int .i64 0, .int .i64 0, .slice none 0 0]
abbrev zVal : Array Value := valC 0 0 nilB 0 0 (.slice none 0 0) (.slice none 0 0)
abbrev getW (w : World) (t : Int) : World := ((w.alloc (.cells zVal 29 (0, 0))).alloc (.cells (valC t 0 nilB 0 0 (.slice none 0 0) (.slice none 0 0)) 29 (0, 0))).alloc (.cells zGot 139 (0, 0))
theorem getW_facts (w : World) (t : Int) : Keep (fun _ => False) w (getW w t) ∧ (getW w t).heap[w.heap.size]? = some (.cells zVal 29 (0, 0)) ∧ (getW w t).heap[w.heap.size + 1]? = some (.cells (valC t 0 nilB 0 0 (.slice none 0 0) (.slice none 0 0)) 29 (0, 0)) ∧
  (getW w t).heap[w.heap.size + 1 + 1]? = some (.cells zGot 139 (0, 0)) ∧ (getW w t).heap.size = w.heap.size + 3 := by
 refine ⟨(((Keep.refl _ w).alloc _).alloc _).alloc _, ?_, ?_, ?_, by simp⟩
 ·exact (Below.heap_alloc _ _ _ (by simp; omega)).trans ((Below.heap_alloc _ _ _ (by simp)).trans (heap_alloc_new w _))
 ·exact (Below.heap_alloc _ _ _ (by simp)).trans (heap_alloc_at (by simp) _)
 ·exact heap_alloc_at (by simp) _
theorem val_set {w : World} {U : Nat} {v0 v1 v2 v3 v4 v5 v6 : Value} {T : TypeId} (h : w.heap[U]? = some (.cells #[v0, v1, v2, v3, v4, v5, v6] T (0, 0))) (x0 x1 x2 x3 x4 x5 x6 : Value) :
  (((((((w.setCell ⟨U, 0, none⟩ x0).setCell ⟨U, 1, none⟩ x1).setCell ⟨U, 2, none⟩ x2).setCell ⟨U, 3, none⟩ x3).setCell ⟨U, 4, none⟩ x4).setCell ⟨U, 5, none⟩ x5).setCell ⟨U, 6, none⟩ x6).heap[U]? = some (.cells #[x0, x1, x2, x3, x4, x5, x6] T (0, 0)) := by
 have h0 := heap_set_same (i := 0) h x0
 have h1 := heap_set_same (i := 1) h0 x1
 have h2 := heap_set_same (i := 2) h1 x2
 have h3 := heap_set_same (i := 3) h2 x3
 have h4 := heap_set_same (i := 4) h3 x4
 have h5 := heap_set_same (i := 5) h4 x5
 have h6 := heap_set_same (i := 6) h5 x6
 simpa using h6
theorem Bin.M_lt {K : Bin.Ctx} {s : Bin.St} {w : World} (h : Bin.Inv K s w) : ∀ i, Bin.M K w i → i < w.heap.size := by
 rintro i (rfl | rfl)
 ·exact h.p.mem.buf.lt
 ·obtain ⟨sc, _, hb⟩ := h.p.blk
  exact lt_of_heap hb
theorem Bin.M_new {K : Bin.Ctx} {s : Bin.St} {w w1 : World} (h : Bin.Inv K s w) (_ : Keep (fun _ => False) w w1) : ∀ i, Bin.M K w1 i → i < w.heap.size := Bin.M_lt h
theorem Bin.Some.lt {K : Bin.Ctx} {w : World} (h : Bin.Some K w) : ∀ i, Bin.M K w i → i < w.heap.size := by
 obtain ⟨s, h⟩ := h
 rintro i (rfl | rfl)
 ·exact h.mem.buf.lt
 ·obtain ⟨sc, _, hb⟩ := h.blk
  exact lt_of_heap hb
theorem Bin.kept {K : Bin.Ctx} {s : Bin.St} {w w1 : World} (_ : Bin.Inv K s w) (k : Keep (fun _ => False) w w1) : Kpt (Bin.M K) w w1 := ⟨k.weak (fun _ _ x => x.elim), fun _ _ x => x⟩
theorem Bin.b2 (K : Bin.Ctx) (s : Bin.St) : (Bin.pr K).scB 2 s = [] := by simp [Bin.pr, Bin.scB]
theorem Bin.b3 (K : Bin.Ctx) (s : Bin.St) : (Bin.pr K).scB 3 s = [] := by simp [Bin.pr, Bin.scB]
theorem Bin.b4 (K : Bin.Ctx) (s : Bin.St) : (Bin.pr K).scB 4 s = [] := by simp [Bin.pr, Bin.scB]
theorem Bin.b6 (K : Bin.Ctx) (s : Bin.St) : (Bin.pr K).scB 6 s = [] := by simp [Bin.pr, Bin.scB]
theorem Bin.b8 (K : Bin.Ctx) (s : Bin.St) : (Bin.pr K).scB 8 s = [] := by simp [Bin.pr, Bin.scB]
theorem Bin.n11 (K : Bin.Ctx) (s : Bin.St) : (Bin.pr K).scN 11 s = 0 := by simp [Bin.pr, Bin.scN]
theorem Bin.n16 (K : Bin.Ctx) (s : Bin.St) : (Bin.pr K).scN 16 s = 0 := by simp [Bin.pr, Bin.scN]
theorem Bin.b_le {K : Bin.Ctx} {s : Bin.St} {w : World} (h : Bin.Inv K s w) (t : Int) : ((Bin.pr K).scB t s).length ≤ 140737488355328 := by
 have hl := h.len
 show (Bin.scB t s).length ≤ _
 unfold Bin.scB
 split
 ·simp [strS]; omega
 ·split
  ·simp; omega
  ·simp
theorem Bin.lT_w (K : Bin.Ctx) (s : Bin.St) : wrap64 ((Bin.pr K).lT s) = (Bin.pr K).lT s := by
 show wrap64 (listT s) = listT s
 cases s with
 | nil => simp [listT, wrap64]
 | cons b r =>
  have := b.toNat_lt
  simp only [listT, wrap64]
  omega
theorem Bin.lT_bd (K : Bin.Ctx) (s : Bin.St) : 0 ≤ (Bin.pr K).lT s ∧ (Bin.pr K).lT s ≤ 255 := by
 show 0 ≤ listT s ∧ listT s ≤ 255
 cases s with
 | nil => simp [listT]
 | cons b r => have := b.toNat_lt; simp only [listT]; omega
theorem Bin.fT_bd (K : Bin.Ctx) (s : Bin.St) : 0 ≤ (Bin.pr K).fT s ∧ (Bin.pr K).fT s ≤ 255 := by
 show 0 ≤ fieldT s ∧ fieldT s ≤ 255
 cases s with
 | nil => simp [fieldT]
 | cons b r => have := b.toNat_lt; simp only [fieldT]; omega
theorem Bin.mT_bd (K : Bin.Ctx) (s : Bin.St) : (0 ≤ (Bin.pr K).mT s ∧ (Bin.pr K).mT s ≤ 255) ∧ 0 ≤ (Bin.pr K).mKT s ∧ (Bin.pr K).mKT s ≤ 255 := by
 show (0 ≤ mapT s ∧ mapT s ≤ 255) ∧ 0 ≤ mapKT s ∧ mapKT s ≤ 255
 match s with
 | [] => simp [mapT, mapKT]
 | [_] => simp [mapT, mapKT]
 | k :: t :: _ => have := k.toNat_lt; have := t.toNat_lt; simp only [mapT, mapKT]; omega
theorem BinP.over {E : Env} {P MB B D : Nat} {a : Option Addr} {c : Cfg} {s s' : List UInt8} {w w2 w3 : World} {N : Nat → Prop} (h : BinP E P MB B D a c s w) (h2 : BinP E P MB B D a c s' w2) (k2 : Keep (MB2 P B) w w2) (k : Keep N w2 w3) (hN : ∀ i, N i → w.heap.size ≤ i) : BinP E P MB B D a c s' w3 := by
 have hP : P < w.heap.size := by obtain ⟨sc, _, hb⟩ := h.blk; exact lt_of_heap hb
 have hM : MB < w.heap.size := lt_of_cell h.mem.mb
 have hB : B < w.heap.size := h.mem.buf.lt
 have hD := h.mem.ltD
 have hE := h.glob.size
 have n1 : ∀ i, i < w.heap.size → ¬ N i := fun i hi x => by have := hN i x; omega
 refine h2.keep k (n1 _ hP) (n1 _ hM) (n1 _ hB) (n1 _ hD) (fun i x => by have := hN i x; omega) ?_
 have hc := h.cfg.weak (N := fun i => MB2 P B i ∨ N i) (fun i hi x => x.elim id (fun y => absurd y (n1 i hi)))
 exact ((hc.keep k2 (fun i x => .inl x)).keep k (fun i x => .inr x)).weak (fun i _ x => .inl x)
theorem Bin.turn {K : Bin.Ctx} {s s' : Bin.St} {w w2 w3 : World} {N : Nat → Prop} (h : Bin.Inv K s w) (k2 : Kpt (Bin.M K) w w2) (i2 : Bin.Inv K s' w2) (hk : Keep N w2 w3) (hN : ∀ i, N i → w.heap.size ≤ i ∧ ¬ Bin.M K w2 i) :
  Bin.Inv K s' w3 ∧ Kpt (Bin.M K) w w3 ∧ ∀ i, Bin.M K w3 i → Bin.M K w2 i :=
 ⟨⟨h.p.over i2.p k2.keep hk (fun i x => (hN i x).1), i2.len⟩, ⟨k2.keep.trans hk (fun i hi x => by have := (hN i x).1; omega), fun _ _ x => x⟩, fun _ x => x⟩
theorem Bin.thru {K : Bin.Ctx} {s s1 s' : Bin.St} {w w1 w2 w3 : World} {k : Int} {ev : Value} {N : Nat → Prop} (h : Bin.Inv K s w) (k1 : Kpt (Bin.M K) w w1) (_ : Bin.Inv K s1 w1) (hp : Bin.Post K w1 w2 k ev s') (hk : Keep N w2 w3) (hN : ∀ i, N i → w.heap.size ≤ i ∧ i < w1.heap.size ∧ ¬ Bin.M K w1 i) :
  Bin.Post K w w3 k ev s' ∧ ∀ i, Bin.M K w3 i → Bin.M K w2 i := by
 have hE := h.p.glob.size
 have k02 : Keep (MB2 K.P K.B) w w2 := k1.keep.then hp.keep.keep
 refine ⟨⟨(hp.err.keep hk (fun i hi x => by have := (hN i x).2; omega)).mono k1.size, fun hz => ⟨h.p.over (hp.inv hz).p k02 hk (fun i x => (hN i x).1), (hp.inv hz).len⟩, ?_, k02.trans hk (fun i hi x => by have := (hN i x).1; omega), fun _ _ x => x⟩, fun _ x => x⟩
 obtain ⟨s2, h2⟩ := hp.some
 exact ⟨s2, h.p.over h2 k02 hk (fun i x => (hN i x).1)⟩
theorem Bin.through {K : Bin.Ctx} {s s' : Bin.St} {w w1 w2 w3 : World} {k : Int} {ev : Value} {N : Nat → Prop} (h : Bin.Inv K s w) (hk0 : Keep (fun _ => False) w w1) (hp : Bin.Post K w1 w2 k ev s') (hk : Keep N w2 w3) (hN : ∀ i, N i → w.heap.size ≤ i ∧ i < w1.heap.size) : Bin.Post K w w3 k ev s' :=
 (Bin.thru h (Bin.kept h hk0) (h.fresh hk0) hp hk (fun i x => ⟨(hN i x).1, (hN i x).2, fun m => by have := Bin.M_new h hk0 i m; have := (hN i x).1; omega⟩)).1
theorem Bin.through_M {K : Bin.Ctx} {s s' : Bin.St} {w w1 w2 w3 : World} {k : Int} {ev : Value} {N : Nat → Prop} (h : Bin.Inv K s w) (hk0 : Keep (fun _ => False) w w1) (hp : Bin.Post K w1 w2 k ev s') (hk : Keep N w2 w3) (hN : ∀ i, N i → w.heap.size ≤ i ∧ i < w1.heap.size) : ∀ i, Bin.M K w3 i → Bin.M K w2 i :=
 (Bin.thru h (Bin.kept h hk0) (h.fresh hk0) hp hk (fun i x => ⟨(hN i x).1, (hN i x).2, fun m => by have := Bin.M_new h hk0 i m; have := (hN i x).1; omega⟩)).2
theorem Bin.fI_bd (K : Bin.Ctx) (s : Bin.St) : -32768 ≤ (Bin.pr K).fI s ∧ (Bin.pr K).fI s ≤ 32767 := by
 show -32768 ≤ fieldI s ∧ fieldI s ≤ 32767
 cases s with
 | nil => simp [fieldI]
 | cons b r =>
  simp only [fieldI]
  split
  ·omega
  ·have key : ∀ n : Int, -32768 ≤ IntKind.i16.wrap n ∧ IntKind.i16.wrap n ≤ 32767 := fun n => by
    have e : IntKind.i16.wrap n = if n % 65536 ≥ 32768 then n % 65536 - 65536 else n % 65536 := by
     simp [IntKind.wrap, IntKind.bits, IntKind.signed]
    rw [e]
    split <;> omega
   exact key _
abbrev Bin.rb (K : Bin.Ctx) : Rp.Base Bin.St where
 E := K.E
 T := 136
 P := K.P
 pr := Bin.pr K
 Mh h := Bin.M K { (default : World) with heap := h }
 Inv := Bin.Inv K
 Some := Bin.Some K
 fBool := 257
 fByte := 258
 fI16 := 262
 fI32 := 263
 fI64 := 264
 fDbl := 259
 fStr := 273
 fUuid := 276
 fFb := 260
 fMb := 267
 fLb := 265
 fTb := 271
 fSb := 274
 fSe := 275
 fFe := 261
 fMe := 268
 fLe := 266
 fTe := 272
theorem Bin.Post.rp {K : Bin.Ctx} {s : Bin.St} {w w' : World} {k : Int} {ev : Value} (h : Bin.Post K w w' k ev s) : Rp.Post (Bin.rb K) w w' k ev s := ⟨h.err, h.inv, h.some, h.keep⟩
theorem Bin.Post.of {K : Bin.Ctx} {s : Bin.St} {w w' : World} {k : Int} {ev : Value} (h : Rp.Post (Bin.rb K) w w' k ev s) : Bin.Post K w w' k ev s := ⟨h.err, h.inv, h.some, h.keep⟩
theorem Bin.mBool (K : Bin.Ctx) : Rp.Meth 136 K.P "ReadBool" 257 := ⟨fun w => by kernel_rfl, fun w => by kernel_rfl, fun args w => by kernel_rfl⟩
theorem Bin.mByte (K : Bin.Ctx) : Rp.Meth 136 K.P "ReadByte" 258 := ⟨fun w => by kernel_rfl, fun w => by kernel_rfl, fun args w => by kernel_rfl⟩
theorem Bin.mI16 (K : Bin.Ctx) : Rp.Meth 136 K.P "ReadI16" 262 := ⟨fun w => by kernel_rfl, fun w => by kernel_rfl, fun args w => by kernel_rfl⟩
theorem Bin.mI32 (K : Bin.Ctx) : Rp.Meth 136 K.P "ReadI32" 263 := ⟨fun w => by kernel_rfl, fun w => by kernel_rfl, fun args w => by kernel_rfl⟩
theorem Bin.mI64 (K : Bin.Ctx) : Rp.Meth 136 K.P "ReadI64" 264 := ⟨fun w => by kernel_rfl, fun w => by kernel_rfl, fun args w => by kernel_rfl⟩
theorem Bin.mDbl (K : Bin.Ctx) : Rp.Meth 136 K.P "ReadDouble" 259 := ⟨fun w => by kernel_rfl, fun w => by kernel_rfl, fun args w => by kernel_rfl⟩
theorem Bin.mStr (K : Bin.Ctx) : Rp.Meth 136 K.P "ReadString" 273 := ⟨fun w => by kernel_rfl, fun w => by kernel_rfl, fun args w => by kernel_rfl⟩
theorem Bin.mUuid (K : Bin.Ctx) : Rp.Meth 136 K.P "ReadUUID" 276 := ⟨fun w => by kernel_rfl, fun w => by kernel_rfl, fun args w => by kernel_rfl⟩
theorem Bin.mFb (K : Bin.Ctx) : Rp.Meth 136 K.P "ReadFieldBegin" 260 := ⟨fun w => by kernel_rfl, fun w => by kernel_rfl, fun args w => by kernel_rfl⟩
theorem Bin.mMb (K : Bin.Ctx) : Rp.Meth 136 K.P "ReadMapBegin" 267 := ⟨fun w => by kernel_rfl, fun w => by kernel_rfl, fun args w => by kernel_rfl⟩
theorem Bin.mLb (K : Bin.Ctx) : Rp.Meth 136 K.P "ReadListBegin" 265 := ⟨fun w => by kernel_rfl, fun w => by kernel_rfl, fun args w => by kernel_rfl⟩
theorem Bin.mTb (K : Bin.Ctx) : Rp.Meth 136 K.P "ReadSetBegin" 271 := ⟨fun w => by kernel_rfl, fun w => by kernel_rfl, fun args w => by kernel_rfl⟩
theorem Bin.mSb (K : Bin.Ctx) : Rp.Meth 136 K.P "ReadStructBegin" 274 := ⟨fun w => by kernel_rfl, fun w => by kernel_rfl, fun args w => by kernel_rfl⟩
theorem Bin.mSe (K : Bin.Ctx) : Rp.Meth 136 K.P "ReadStructEnd" 275 := ⟨fun w => by kernel_rfl, fun w => by kernel_rfl, fun args w => by kernel_rfl⟩
theorem Bin.mFe (K : Bin.Ctx) : Rp.Meth 136 K.P "ReadFieldEnd" 261 := ⟨fun w => by kernel_rfl, fun w => by kernel_rfl, fun args w => by kernel_rfl⟩
theorem Bin.mMe (K : Bin.Ctx) : Rp.Meth 136 K.P "ReadMapEnd" 268 := ⟨fun w => by kernel_rfl, fun w => by kernel_rfl, fun args w => by kernel_rfl⟩
theorem Bin.mLe (K : Bin.Ctx) : Rp.Meth 136 K.P "ReadListEnd" 266 := ⟨fun w => by kernel_rfl, fun w => by kernel_rfl, fun args w => by kernel_rfl⟩
theorem Bin.mTe (K : Bin.Ctx) : Rp.Meth 136 K.P "ReadSetEnd" 272 := ⟨fun w => by kernel_rfl, fun w => by kernel_rfl, fun args w => by kernel_rfl⟩
def Bin.rp (K : Bin.Ctx) : Rp.Ctx Bin.St where
 toBase := Bin.rb K
 ok := Bin.ok K
 fresh h k := Bin.Inv.fresh h k
 isSome h := Bin.Inv.some h
 fresh1 h k := ⟨Bin.Some.fresh (Bin.Inv.some h) k, Bin.kept h k, fun i m => Bin.M_new h k i m⟩
 lt h i m := Bin.Some.lt h i m
 glob h := Bin.Inv.glob h
 turn := Bin.turn
 thru h k1 i1 hp hk hN := let ⟨a, b⟩ := Bin.thru h k1 i1 (Bin.Post.of hp) hk hN; ⟨a.rp, b⟩
 b0 t s h1 h2 := by show Bin.scB t s = []; unfold Bin.scB; rw [if_neg h1, if_neg h2]
 n0 t s h := by rcases h with rfl | rfl; exact Bin.n11 K s; exact Bin.n16 K s
 b_le := Bin.b_le
 lT_bd := Bin.lT_bd K
 fT_bd := Bin.fT_bd K
 mT_bd := Bin.mT_bd K
 fI_bd := Bin.fI_bd K
 mBool := Bin.mBool K
 readBool h := (Bin.readBool h).mono (fun e w' r => by obtain ⟨v, ev, rfl, hp, hv⟩ := r; exact ⟨v, ev, rfl, hp.rp, hv⟩)
 mByte := Bin.mByte K
 readByte h := (Bin.readByte h).mono (fun e w' r => by obtain ⟨n, ev, rfl, hp, hv⟩ := r; exact ⟨n, ev, rfl, hp.rp, hv⟩)
 mI16 := Bin.mI16 K
 readI16 h := (Bin.readI16 h).mono (fun e w' r => by obtain ⟨n, ev, rfl, hp, hv⟩ := r; exact ⟨n, ev, rfl, hp.rp, hv⟩)
 mI32 := Bin.mI32 K
 readI32 h := (Bin.readI32 h).mono (fun e w' r => by obtain ⟨n, ev, rfl, hp, hv⟩ := r; exact ⟨n, ev, rfl, hp.rp, hv⟩)
 mI64 := Bin.mI64 K
 readI64 h := (Bin.readI64 h).mono (fun e w' r => by obtain ⟨n, ev, rfl, hp, hv⟩ := r; exact ⟨n, ev, rfl, hp.rp, hv⟩)
 mDbl := Bin.mDbl K
 readDouble h := (Bin.readDouble h).mono (fun e w' r => by obtain ⟨n, ev, rfl, hp, hv⟩ := r; exact ⟨n, ev, rfl, hp.rp, hv⟩)
 mStr := Bin.mStr K
 readString h := (Bin.readString h).mono (fun e w' r => by obtain ⟨l, ev, rfl, hp, hv⟩ := r; exact ⟨l, ev, rfl, hp.rp, hv⟩)
 mUuid := Bin.mUuid K
 readUUID h := (Bin.readUUID h).mono (fun e w' r => by obtain ⟨l, ev, rfl, hp, hv⟩ := r; exact ⟨l, ev, rfl, hp.rp, hv⟩)
 mFb := Bin.mFb K
 readFieldBegin h := (Bin.readFieldBegin h).mono (fun e w' r => by obtain ⟨l, t, id, ev, rfl, hp, hv⟩ := r; exact ⟨l, t, id, ev, rfl, hp.rp, hv⟩)
 mMb := Bin.mMb K
 readMapBegin h := (Bin.readMapBegin h).mono (fun e w' r => by obtain ⟨kt, t, n, ev, rfl, hp, hv⟩ := r; exact ⟨kt, t, n, ev, rfl, hp.rp, hv⟩)
 mLb := Bin.mLb K
 readListBegin h := (Bin.readListBegin h).mono (fun e w' r => by obtain ⟨t, n, ev, rfl, hp, hv⟩ := r; exact ⟨t, n, ev, rfl, hp.rp, hv⟩)
 mTb := Bin.mTb K
 readSetBegin h := (Bin.readSetBegin h).mono (fun e w' r => by obtain ⟨t, n, ev, rfl, hp, hv⟩ := r; exact ⟨t, n, ev, rfl, hp.rp, hv⟩)
 mSb := Bin.mSb K
 readStructBegin h d := (Bin.readStructBegin h d).mono (fun e w' r => by obtain ⟨l, rfl, hp⟩ := r; exact ⟨l, rfl, hp.rp⟩)
 mSe := Bin.mSe K
 readStructEnd h d := (Bin.readStructEnd h d).mono (fun e w' r => by obtain ⟨rfl, hp⟩ := r; exact ⟨rfl, hp.rp⟩)
 mFe := Bin.mFe K
 readFieldEnd h := (Bin.readFieldEnd h).mono (fun e w' r => by obtain ⟨rfl, hp⟩ := r; exact ⟨rfl, hp.rp⟩)
 mMe := Bin.mMe K
 readMapEnd h := (Bin.readMapEnd h).mono (fun e w' r => by obtain ⟨rfl, hp⟩ := r; exact ⟨rfl, hp.rp⟩)
 mLe := Bin.mLe K
 readListEnd h := (Bin.readListEnd h).mono (fun e w' r => by obtain ⟨rfl, hp⟩ := r; exact ⟨rfl, hp.rp⟩)
 mTe := Bin.mTe K
 readSetEnd h := (Bin.readSetEnd h).mono (fun e w' r => by obtain ⟨rfl, hp⟩ := r; exact ⟨rfl, hp.rp⟩)
theorem bin_inv {E : Env} {w2 w3 : World} {MB B D P : Nat} {a : Option Addr} {c : Cfg} {l : List UInt8} (hg : Glob E w2) (hm : Mem E w2 MB B D l) (hP : w2.heap.size ≤ P) (hPb : w3.heap[P]? = some (binO MB a))
  (hcfg : CfgAt (fun i => i < w2.heap.size ∨ P ≤ i) w3 a c) (hk : Keep (fun _ => False) w2 w3) (hc : c.ok) (hl : l.length ≤ 140737488355328) : Bin.Inv ⟨E, P, MB, B, D, a, c⟩ l w3 := by
 have h1 : MB < w2.heap.size := lt_of_cell hm.mb
 have h2 : B < w2.heap.size := hm.buf.lt
 have h3 := hm.ltD
 have h4 := hg.size
 have h5 : BinP E P MB B D a c l w3 := by
  refine ⟨⟨List.replicate 64 0, by simp, hPb⟩, hm.keep hk id id id, hg.keep hk (fun _ x => x.elim), hcfg.weak (fun i hi h => ?_), hc, by omega, by omega, by omega, by omega⟩
  rcases h with h | h <;> omega
 exact ⟨h5, hl⟩
inductive V where
 | mk (T N : Int) (S : List UInt8) (K E : Int) (IDs : List Int) (L : List V)
def IntsAt (A : Nat → Prop) (w : World) (v : Value) (l : List Int) : Prop :=
 (l = [] ∧ ∃ a c, v = .slice a 0 c) ∨ (l ≠ [] ∧ ∃ D o c, v = .slice (some ⟨D, o, none⟩) l.length c ∧ l.length ≤ c ∧ l.length ≤ 140737488355328 ∧ A D ∧ ∀ j b, l[j]? = some b → w.cell? ⟨D, o + j, none⟩ = some (.int .i64 b))
theorem IntsAt.keep {A M : Nat → Prop} {w w' : World} {v : Value} {l : List Int} (h : IntsAt A w v l) (k : Keep M w w') (hM : ∀ i, A i → ¬ M i) : IntsAt A w' v l := by
 rcases h with h | ⟨hne, D, o, c, rfl, h1, h2, h3, h4⟩
 ·exact .inl h
 ·exact .inr ⟨hne, D, o, c, rfl, h1, h2, h3, fun j b hj => (k.cell (p := ⟨D, o + j, none⟩) (lt_of_cell (p := ⟨D, o + j, none⟩) (h4 j b hj)) (hM _ h3)).trans (h4 j b hj)⟩
theorem IntsAt.weak {A A' : Nat → Prop} {w : World} {v : Value} {l : List Int} (h : IntsAt A w v l) (hA : ∀ i, i < w.heap.size → A i → A' i) : IntsAt A' w v l := by
 rcases h with h | ⟨hne, D, o, c, rfl, h1, h2, h3, h4⟩
 ·exact .inl h
 ·refine .inr ⟨hne, D, o, c, rfl, h1, h2, hA _ ?_ h3, h4⟩
  cases l with
  | nil => exact absurd rfl hne
  | cons x r => exact lt_of_cell (h4 0 x rfl)
def ValAt : Nat → (Nat → Prop) → World → List Value → V → Prop
 | 0, _, _, _, _ => False
 | d + 1, A, w, cs, .mk T N S K E IDs L => ∃ sv iv lv, cs = (valC T N sv K E iv lv).toList ∧ BytesAt A w sv S ∧ IntsAt A w iv IDs ∧
   ((L = [] ∧ ∃ a c, lv = .slice a 0 c) ∨ (L ≠ [] ∧ ∃ D o c, lv = .slice (some ⟨D, o, none⟩) L.length c ∧ (L.length ≤ c ∧ c ≤ 9223372036854775807) ∧ A D ∧
     ∀ j x, L[j]? = some x → ∃ cs', ValAt d A w cs' x ∧ ∀ i v, cs'[i]? = some v → w.cell? ⟨D, o + (j * 7 + i), none⟩ = some v))
theorem ValAt.len {A : Nat → Prop} {w : World} {cs : List Value} {x : V} : ∀ {d : Nat}, ValAt d A w cs x → cs.length = 7
 | 0, h => h.elim
 | d + 1, h => by
  cases x with
  | mk T N S K E IDs L =>
   obtain ⟨sv, iv, lv, rfl, _⟩ := h
   rfl
theorem ValAt.keep {A M : Nat → Prop} {w w' : World} (k : Keep M w w') (hM : ∀ i, A i → ¬ M i) : ∀ {d : Nat} {cs : List Value} {x : V}, ValAt d A w cs x → ValAt d A w' cs x
 | 0, _, _, h => h.elim
 | d + 1, cs, x, h => by
  cases x with
  | mk T N S K E IDs L =>
   obtain ⟨sv, iv, lv, rfl, h1, h2, h3⟩ := h
   refine ⟨sv, iv, lv, rfl, h1.keep k hM, h2.keep k hM, ?_⟩
   rcases h3 with h3 | ⟨hne, D, o, c, rfl, e1, e2, e3⟩
   ·exact .inl h3
   ·refine .inr ⟨hne, D, o, c, rfl, e1, e2, fun j y hj => ?_⟩
    obtain ⟨cs', hv, hc⟩ := e3 j y hj
    exact ⟨cs', ValAt.keep k hM hv, fun i v hi => (k.cell (p := ⟨D, o + (j * 7 + i), none⟩) (lt_of_cell (p := ⟨D, o + (j * 7 + i), none⟩) (hc i v hi)) (hM _ e2)).trans (hc i v hi)⟩
theorem ValAt.weak {A A' : Nat → Prop} {w : World} (hA : ∀ i, i < w.heap.size → A i → A' i) : ∀ {d : Nat} {cs : List Value} {x : V}, ValAt d A w cs x → ValAt d A' w cs x
 | 0, _, _, h => h.elim
 | d + 1, cs, x, h => by
  cases x with
  | mk T N S K E IDs L =>
   obtain ⟨sv, iv, lv, rfl, h1, h2, h3⟩ := h
   refine ⟨sv, iv, lv, rfl, h1.weak hA, h2.weak hA, ?_⟩
   rcases h3 with h3 | ⟨hne, D, o, c, rfl, e1, e2, e3⟩
   ·exact .inl h3
   ·cases L with
    | nil => exact absurd rfl hne
    | cons x0 r =>
     obtain ⟨cs0, hv0, hc0⟩ := e3 0 x0 rfl
     have hl := hv0.len
     have hD : D < w.heap.size := lt_of_cell (hc0 0 (cs0[0]'(by omega)) (List.getElem?_eq_getElem _))
     refine .inr ⟨hne, D, o, c, rfl, e1, hA _ hD e2, fun j y hj => ?_⟩
     obtain ⟨cs', hv, hc⟩ := e3 j y hj
     exact ⟨cs', ValAt.weak hA hv, hc⟩
def V.zero : V := .mk 0 0 [] 0 0 [] []
section
variable {σ : Type}
def gseq (f : σ → Int × σ × V) : Nat → σ → List V → Int × σ × List V
 | 0, s, l => (0, s, l)
 | n + 1, s, l => if (f s).1 = 0 then gseq f n (f s).2.1 (l ++ [(f s).2.2]) else ((f s).1, (f s).2.1, l)
def gpairs (f g : σ → Int × σ × V) : Nat → σ → List V → Int × σ × List V
 | 0, s, l => (0, s, l)
 | n + 1, s, l => if (f s).1 = 0 then (if (g (f s).2.1).1 = 0 then gpairs f g n (g (f s).2.1).2.1 (l ++ [(f s).2.2] ++ [(g (f s).2.1).2.2]) else ((g (f s).2.1).1, (g (f s).2.1).2.1, l)) else ((f s).1, (f s).2.1, l)
def gflds (p : Pr σ) (f : Int → σ → Int × σ × V) : Nat → σ → List Int → List V → Int × σ × V
 | 0, s, ids, l => (0, s, .mk 12 0 [] 0 0 ids l)
 | n + 1, s, ids, l =>
  if p.fK s = 0 then
   (if p.fT s = 0 then (0, p.seS (p.fS s), .mk 12 0 [] 0 0 ids l)
    else if (f (p.fT s) (p.fS s)).1 = 0 then gflds p f n (p.feS (f (p.fT s) (p.fS s)).2.1) (ids ++ [p.fI s]) (l ++ [(f (p.fT s) (p.fS s)).2.2])
    else ((f (p.fT s) (p.fS s)).1, (f (p.fT s) (p.fS s)).2.1, V.zero))
  else (p.fK s, p.fS s, V.zero)
def gend (g : σ → σ) (mk : List V → V) (r : Int × σ × List V) : Int × σ × V := if r.1 = 0 then (0, g r.2.1, mk r.2.2) else (r.1, r.2.1, V.zero)
def gt (p : Pr σ) : Nat → Int → σ → Int × σ × V
 | 0, _, s => (50, s, V.zero)
 | d + 1, t, s =>
  if isSc t = true then (p.scK t s, p.scS t s, .mk t (p.scN t s) (p.scB t s) 0 0 [] [])
  else if t = 12 then gflds p (gt p d) (p.len (p.sbS s) + 1) (p.sbS s) [] []
  else if t = 13 then
   (if p.mK s = 0 then (if p.mN s > 100000 then (52, p.mS s, V.zero) else gend p.meS (fun l => .mk 13 0 [] (p.mKT s) (p.mT s) [] l) (gpairs (gt p d (p.mKT s)) (gt p d (p.mT s)) (p.mN s).toNat (p.mS s) []))
    else (p.mK s, p.mS s, V.zero))
  else if t = 14 ∨ t = 15 then
   (if p.lK s = 0 then (if p.lN s > 100000 then (52, p.lS s, V.zero) else gend p.leS (fun l => .mk t 0 [] 0 (p.lT s) [] l) (gseq (gt p d (p.lT s)) (p.lN s).toNat (p.lS s) []))
    else (p.lK s, p.lS s, V.zero))
  else (51, s, V.zero)
theorem gseq_len (len : σ → Nat) (f : σ → Int × σ × V) (hf : ∀ s, (f s).1 = 0 → len (f s).2.1 ≤ len s) : ∀ n s l, (gseq f n s l).1 = 0 → len (gseq f n s l).2.1 ≤ len s := by
 intro n
 induction n with
 | zero => intro s l _; exact Nat.le_refl _
 | succ n ih =>
  intro s l h
  simp only [gseq] at h ⊢
  by_cases h0 : (f s).1 = 0
  ·rw [if_pos h0] at h ⊢
   exact Nat.le_trans (ih _ _ h) (hf s h0)
  ·rw [if_neg h0] at h; exact absurd h h0
theorem gpairs_len (len : σ → Nat) (f g : σ → Int × σ × V) (hf : ∀ s, (f s).1 = 0 → len (f s).2.1 ≤ len s) (hg : ∀ s, (g s).1 = 0 → len (g s).2.1 ≤ len s) : ∀ n s l, (gpairs f g n s l).1 = 0 → len (gpairs f g n s l).2.1 ≤ len s := by
 intro n
 induction n with
 | zero => intro s l _; exact Nat.le_refl _
 | succ n ih =>
  intro s l h
  simp only [gpairs] at h ⊢
  by_cases h0 : (f s).1 = 0
  ·rw [if_pos h0] at h ⊢
   by_cases h1 : (g (f s).2.1).1 = 0
   ·rw [if_pos h1] at h ⊢
    exact Nat.le_trans (ih _ _ h) (Nat.le_trans (hg _ h1) (hf s h0))
   ·rw [if_neg h1] at h; exact absurd h h1
  ·rw [if_neg h0] at h; exact absurd h h0
theorem gflds_len {p : Pr σ} (ok : p.Ok) (f : Int → σ → Int × σ × V) (hf : ∀ t s, (f t s).1 = 0 → p.len (f t s).2.1 ≤ p.len s) : ∀ n s ids l, (gflds p f n s ids l).1 = 0 → p.len (gflds p f n s ids l).2.1 ≤ p.len s := by
 intro n
 induction n with
 | zero => intro s ids l _; exact Nat.le_refl _
 | succ n ih =>
  intro s ids l h
  simp only [gflds] at h ⊢
  by_cases h0 : p.fK s = 0
  ·have h1 := ok.f s h0
   rw [if_pos h0] at h ⊢
   by_cases h2 : p.fT s = 0
   ·rw [if_pos h2]
    exact Nat.le_trans (ok.se _) (Nat.le_of_lt h1)
   ·rw [if_neg h2] at h ⊢
    by_cases h3 : (f (p.fT s) (p.fS s)).1 = 0
    ·rw [if_pos h3] at h ⊢
     exact Nat.le_trans (ih _ _ _ h) (Nat.le_trans (ok.fe _) (Nat.le_trans (hf _ _ h3) (Nat.le_of_lt h1)))
    ·rw [if_neg h3] at h; exact absurd h h3
  ·rw [if_neg h0] at h; exact absurd h h0
theorem gend_len (len : σ → Nat) (g : σ → σ) (mk : List V → V) (hg : ∀ s, len (g s) ≤ len s) (r : Int × σ × List V) (h : (gend g mk r).1 = 0) : r.1 = 0 ∧ len (gend g mk r).2.1 ≤ len r.2.1 := by
 unfold gend at h ⊢
 by_cases h0 : r.1 = 0
 ·rw [if_pos h0]; exact ⟨h0, hg _⟩
 ·rw [if_neg h0] at h; exact absurd h h0
theorem gt_len {p : Pr σ} (ok : p.Ok) : ∀ d t s, (gt p d t s).1 = 0 → p.len (gt p d t s).2.1 ≤ p.len s := by
 intro d
 induction d with
 | zero => intro t s h; simp [gt] at h
 | succ d ih =>
  intro t s h
  simp only [gt] at h ⊢
  split at h
  ·rename_i h1; rw [if_pos h1]; exact ok.sc _ _
  ·rename_i h1
   rw [if_neg h1]
   split at h
   ·rename_i h2; rw [if_pos h2]; exact Nat.le_trans (gflds_len ok _ ih _ _ _ _ h) (ok.sb s)
   ·rename_i h2
    rw [if_neg h2]
    split at h
    ·rename_i h3; rw [if_pos h3]
     by_cases h4 : p.mK s = 0
     ·rw [if_pos h4] at h ⊢
      by_cases h7 : p.mN s > 100000
      ·rw [if_pos h7] at h; exact absurd h (show ¬ (52 : Int) = 0 by decide)
      ·rw [if_neg h7] at h ⊢
       obtain ⟨h5, h6⟩ := gend_len p.len _ _ ok.me _ h
       exact Nat.le_trans h6 (Nat.le_trans (gpairs_len p.len _ _ (ih _) (ih _) _ _ _ h5) (Nat.le_of_lt (ok.m s h4)))
     ·rw [if_neg h4] at h; exact absurd h h4
    ·rename_i h3
     rw [if_neg h3]
     split at h
     ·rename_i h3; rw [if_pos h3]
      by_cases h4 : p.lK s = 0
      ·rw [if_pos h4] at h ⊢
       by_cases h7 : p.lN s > 100000
       ·rw [if_pos h7] at h; exact absurd h (show ¬ (52 : Int) = 0 by decide)
       ·rw [if_neg h7] at h ⊢
        obtain ⟨h5, h6⟩ := gend_len p.len _ _ ok.le _ h
        exact Nat.le_trans h6 (Nat.le_trans (gseq_len p.len _ (ih _) _ _ _ h5) (Nat.le_of_lt (ok.l s h4)))
      ·rw [if_neg h4] at h; exact absurd h h4
     ·simp at h
theorem gseq_dep (dep : σ → Nat) (f : σ → Int × σ × V) (hf : ∀ s, (f s).1 = 0 → dep (f s).2.1 = dep s) : ∀ n s l, (gseq f n s l).1 = 0 → dep (gseq f n s l).2.1 = dep s := by
 intro n
 induction n with
 | zero => intro s l _; rfl
 | succ n ih =>
  intro s l h
  simp only [gseq] at h ⊢
  by_cases h0 : (f s).1 = 0
  ·rw [if_pos h0] at h ⊢
   exact (ih _ _ h).trans (hf s h0)
  ·rw [if_neg h0] at h; exact absurd h h0
theorem gpairs_dep (dep : σ → Nat) (f g : σ → Int × σ × V) (hf : ∀ s, (f s).1 = 0 → dep (f s).2.1 = dep s) (hg : ∀ s, (g s).1 = 0 → dep (g s).2.1 = dep s) : ∀ n s l, (gpairs f g n s l).1 = 0 → dep (gpairs f g n s l).2.1 = dep s := by
 intro n
 induction n with
 | zero => intro s l _; rfl
 | succ n ih =>
  intro s l h
  simp only [gpairs] at h ⊢
  by_cases h0 : (f s).1 = 0
  ·rw [if_pos h0] at h ⊢
   by_cases h1 : (g (f s).2.1).1 = 0
   ·rw [if_pos h1] at h ⊢
    exact (ih _ _ h).trans ((hg _ h1).trans (hf s h0))
   ·rw [if_neg h1] at h; exact absurd h h1
  ·rw [if_neg h0] at h; exact absurd h h0
theorem gflds_dep {p : Pr σ} (ok : p.Ok) (f : Int → σ → Int × σ × V) (hl : ∀ t s, (f t s).1 = 0 → p.len (f t s).2.1 ≤ p.len s) (hf : ∀ t s, (f t s).1 = 0 → p.dep (f t s).2.1 = p.dep s) :
  ∀ n s ids l, p.len s < n → p.one ≤ p.dep s → (gflds p f n s ids l).1 = 0 → p.dep (gflds p f n s ids l).2.1 + p.one = p.dep s := by
 intro n
 induction n with
 | zero => intro s ids l hn; exact absurd hn (Nat.not_lt_zero _)
 | succ n ih =>
  intro s ids l hn ho h
  simp only [gflds] at h ⊢
  by_cases h0 : p.fK s = 0
  ·have h1 := ok.f s h0
   have e1 := ok.df s h0
   rw [if_pos h0] at h ⊢
   by_cases h2 : p.fT s = 0
   ·rw [if_pos h2]
    show p.dep (p.seS (p.fS s)) + p.one = _
    rw [ok.dse _ (by rw [e1]; exact ho), e1]
   ·rw [if_neg h2] at h ⊢
    by_cases h3 : (f (p.fT s) (p.fS s)).1 = 0
    ·rw [if_pos h3] at h ⊢
     have e2 := hf _ _ h3
     have e3 := hl _ _ h3
     have e4 := ok.fe (f (p.fT s) (p.fS s)).2.1
     have e5 := ok.dfe (f (p.fT s) (p.fS s)).2.1
     rw [ih _ _ _ (by omega) (by rw [e5, e2, e1]; exact ho) h, e5, e2, e1]
    ·rw [if_neg h3] at h; exact absurd h h3
  ·rw [if_neg h0] at h; exact absurd h h0
theorem gend_dep (dep : σ → Nat) (g : σ → σ) (mk : List V → V) (hg : ∀ s, dep (g s) = dep s) (r : Int × σ × List V) (h : (gend g mk r).1 = 0) : r.1 = 0 ∧ dep (gend g mk r).2.1 = dep r.2.1 := by
 unfold gend at h ⊢
 by_cases h0 : r.1 = 0
 ·rw [if_pos h0]; exact ⟨h0, hg _⟩
 ·rw [if_neg h0] at h; exact absurd h h0
theorem gt_dep {p : Pr σ} (ok : p.Ok) : ∀ d t s, (gt p d t s).1 = 0 → p.dep (gt p d t s).2.1 = p.dep s := by
 intro d
 induction d with
 | zero => intro t s h; simp [gt] at h
 | succ d ih =>
  intro t s h
  simp only [gt] at h ⊢
  split at h
  ·rename_i h1; rw [if_pos h1]; exact ok.dsc _ _ h
  ·rename_i h1
   rw [if_neg h1]
   split at h
   ·rename_i h2; rw [if_pos h2]
    have e1 := gflds_dep ok _ (gt_len ok d) ih _ _ _ _ (Nat.lt_succ_self _) (by rw [ok.dsb s]; omega) h
    rw [ok.dsb s] at e1
    exact Nat.add_right_cancel e1
   ·rename_i h2
    rw [if_neg h2]
    split at h
    ·rename_i h3; rw [if_pos h3]
     by_cases h4 : p.mK s = 0
     ·rw [if_pos h4] at h ⊢
      by_cases h7 : p.mN s > 100000
      ·rw [if_pos h7] at h; exact absurd h (show ¬ (52 : Int) = 0 by decide)
      ·rw [if_neg h7] at h ⊢
       obtain ⟨h5, h6⟩ := gend_dep p.dep _ _ ok.dme _ h
       exact h6.trans ((gpairs_dep p.dep _ _ (ih _) (ih _) _ _ _ h5).trans (ok.dm s h4))
     ·rw [if_neg h4] at h; exact absurd h h4
    ·rename_i h3
     rw [if_neg h3]
     split at h
     ·rename_i h3; rw [if_pos h3]
      by_cases h4 : p.lK s = 0
      ·rw [if_pos h4] at h ⊢
       by_cases h7 : p.lN s > 100000
       ·rw [if_pos h7] at h; exact absurd h (show ¬ (52 : Int) = 0 by decide)
       ·rw [if_neg h7] at h ⊢
        obtain ⟨h5, h6⟩ := gend_dep p.dep _ _ ok.dle _ h
        exact h6.trans ((gseq_dep p.dep _ (ih _) _ _ _ h5).trans (ok.dl s h4))
      ·rw [if_neg h4] at h; exact absurd h h4
     ·simp at h
end
abbrev excC (m : ByteArray) (q : Int) (ex : Value) : Array Value := #[.string m, .int .i32 q, ex]
section
variable {σ : Type}
def Agr (q : Int × σ × V) (r : Int × σ) : Prop := (q.1 = 0 → r = (0, q.2.1)) ∧ (q.1 ≠ 0 → q.1 < 50 → r.1 = q.1)
theorem gseq_skp {f : σ → Int × σ × V} {g : σ → Int × σ} (h : ∀ s, Agr (f s) (g s)) : ∀ n s l, ((gseq f n s l).1 = 0 → rep g n s = (0, (gseq f n s l).2.1)) ∧ ((gseq f n s l).1 ≠ 0 → (gseq f n s l).1 < 50 → (rep g n s).1 = (gseq f n s l).1) := by
 intro n
 induction n with
 | zero => intro s l; exact ⟨fun _ => rfl, fun h => absurd rfl h⟩
 | succ n ih =>
  intro s l
  simp only [gseq, rep]
  by_cases h0 : (f s).1 = 0
  ·rw [if_pos h0, (h s).1 h0, if_pos rfl]
   exact ih _ _
  ·rw [if_neg h0]
   refine ⟨fun e => absurd e h0, fun _ hl => ?_⟩
   have h1 := (h s).2 h0 hl
   rw [if_neg (by rw [h1]; exact h0)]
   exact h1
theorem gpairs_skp {f f2 : σ → Int × σ × V} {g g2 : σ → Int × σ} (h : ∀ s, Agr (f s) (g s)) (h2 : ∀ s, Agr (f2 s) (g2 s)) : ∀ n s l, ((gpairs f f2 n s l).1 = 0 → rep (twice g g2) n s = (0, (gpairs f f2 n s l).2.1)) ∧ ((gpairs f f2 n s l).1 ≠ 0 → (gpairs f f2 n s l).1 < 50 → (rep (twice g g2) n s).1 = (gpairs f f2 n s l).1) := by
 intro n
 induction n with
 | zero => intro s l; exact ⟨fun _ => rfl, fun h => absurd rfl h⟩
 | succ n ih =>
  intro s l
  simp only [gpairs, rep]
  by_cases h0 : (f s).1 = 0
  ·rw [if_pos h0]
   have e1 : twice g g2 s = g2 (f s).2.1 := by unfold twice; rw [(h s).1 h0, if_pos rfl]
   rw [e1]
   by_cases h3 : (f2 (f s).2.1).1 = 0
   ·rw [if_pos h3, (h2 _).1 h3, if_pos rfl]
    exact ih _ _
   ·rw [if_neg h3]
    refine ⟨fun e => absurd e h3, fun _ hl => ?_⟩
    have h1 := (h2 _).2 h3 hl
    rw [if_neg (by rw [h1]; exact h3)]
    exact h1
  ·rw [if_neg h0]
   refine ⟨fun e => absurd e h0, fun _ hl => ?_⟩
   have h1 := (h s).2 h0 hl
   have e1 : twice g g2 s = g s := by unfold twice; rw [if_neg (by rw [h1]; exact h0)]
   rw [e1, if_neg (by rw [h1]; exact h0)]
   exact h1
theorem gflds_skp {p : Pr σ} {f : Int → σ → Int × σ × V} {g : Int → σ → Int × σ} (h : ∀ t s, Agr (f t s) (g t s)) : ∀ n s ids l, ((gflds p f n s ids l).1 = 0 → flds p g n s = (0, (gflds p f n s ids l).2.1)) ∧ ((gflds p f n s ids l).1 ≠ 0 → (gflds p f n s ids l).1 < 50 → (flds p g n s).1 = (gflds p f n s ids l).1) := by
 intro n
 induction n with
 | zero => intro s ids l; exact ⟨fun _ => rfl, fun h => absurd rfl h⟩
 | succ n ih =>
  intro s ids l
  simp only [gflds, flds]
  by_cases hf : p.fK s = 0
  ·rw [if_pos hf, if_pos hf]
   by_cases ht : p.fT s = 0
   ·rw [if_pos ht, if_pos ht]
    exact ⟨fun _ => rfl, fun h => absurd rfl h⟩
   ·rw [if_neg ht, if_neg ht]
    by_cases h0 : (f (p.fT s) (p.fS s)).1 = 0
    ·rw [if_pos h0, (h _ _).1 h0, if_pos rfl]
     exact ih _ _ _
    ·rw [if_neg h0]
     refine ⟨fun e => absurd e h0, fun _ hl => ?_⟩
     have h1 := (h _ _).2 h0 hl
     rw [if_neg (by rw [h1]; exact h0)]
     exact h1
  ·rw [if_neg hf, if_neg hf]
   exact ⟨fun e => absurd e hf, fun _ _ => rfl⟩
theorem gend_skp {e : σ → σ} {mk : List V → V} {q : Int × σ × List V} {r : Int × σ} (h : (q.1 = 0 → r = (0, q.2.1)) ∧ (q.1 ≠ 0 → q.1 < 50 → r.1 = q.1)) : Agr (gend e mk q) (endby e r) := by
 by_cases h0 : q.1 = 0
 ·have h1 := h.1 h0
  subst h1
  unfold gend endby
  rw [if_pos h0, if_pos rfl]
  exact ⟨fun _ => rfl, fun h => absurd rfl h⟩
 ·unfold gend
  rw [if_neg h0]
  refine ⟨fun e => absurd e h0, fun _ hl => ?_⟩
  have h1 := h.2 h0 hl
  unfold endby
  rw [if_neg (by rw [h1]; exact h0)]
  exact h1
theorem gt_skp (p : Pr σ) : ∀ (d D : Nat), d ≤ D → ∀ t s, Agr (gt p d t s) (skp p D t s) := by
 intro d
 induction d with
 | zero => intro D _ t s; exact ⟨fun h => absurd (show (50 : Int) = 0 from h) (by decide), fun _ h => absurd (show (50 : Int) < 50 from h) (by decide)⟩
 | succ d ih =>
  intro D hD t s
  obtain ⟨D, rfl⟩ : ∃ D', D = D' + 1 := ⟨D - 1, by omega⟩
  have hi := ih D (by omega)
  simp only [gt, skp]
  by_cases hs : isSc t = true
  ·rw [if_pos hs, if_pos hs]
   exact ⟨fun h => Prod.ext h rfl, fun _ _ => rfl⟩
  ·rw [if_neg hs, if_neg hs]
   by_cases h12 : t = 12
   ·rw [if_pos h12, if_pos h12]
    exact gflds_skp hi _ _ _ _
   ·rw [if_neg h12, if_neg h12]
    by_cases h13 : t = 13
    ·rw [if_pos h13, if_pos h13]
     by_cases hm : p.mK s = 0
     ·rw [if_pos hm, if_pos hm]
      by_cases hn : p.mN s > 100000
      ·rw [if_pos hn]; exact ⟨fun h => absurd (show (52 : Int) = 0 from h) (by decide), fun _ h => absurd (show (52 : Int) < 50 from h) (by decide)⟩
      ·rw [if_neg hn]
       exact gend_skp (gpairs_skp (hi _) (hi _) _ _ _)
     ·rw [if_neg hm, if_neg hm]
      exact ⟨fun h => absurd h hm, fun _ _ => rfl⟩
    ·rw [if_neg h13, if_neg h13]
     by_cases h14 : t = 14 ∨ t = 15
     ·rw [if_pos h14, if_pos h14]
      by_cases hm : p.lK s = 0
      ·rw [if_pos hm, if_pos hm]
       by_cases hn : p.lN s > 100000
       ·rw [if_pos hn]; exact ⟨fun h => absurd (show (52 : Int) = 0 from h) (by decide), fun _ h => absurd (show (52 : Int) < 50 from h) (by decide)⟩
       ·rw [if_neg hn]
        exact gend_skp (gseq_skp (hi _) _ _ _)
      ·rw [if_neg hm, if_neg hm]
       exact ⟨fun h => absurd h hm, fun _ _ => rfl⟩
     ·rw [if_neg h14, if_neg h14]
      exact ⟨fun h => absurd (show (51 : Int) = 0 from h) (by decide), fun _ h => absurd (show (51 : Int) < 50 from h) (by decide)⟩
def V.t : V → Int | .mk t _ _ _ _ _ _ => t
def V.n : V → Int | .mk _ n _ _ _ _ _ => n
def V.s : V → List UInt8 | .mk _ _ s _ _ _ _ => s
theorem gflds_t (p : Pr σ) (f : Int → σ → Int × σ × V) : ∀ n s ids l, ids.length = l.length → (gflds p f n s ids l).1 = 0 → ∃ ids' l', (gflds p f n s ids l).2.2 = .mk 12 0 [] 0 0 ids' l' ∧ ids'.length = l'.length := by
 intro n
 induction n with
 | zero => intro s ids l hl _; exact ⟨ids, l, rfl, hl⟩
 | succ n ih =>
  intro s ids l hl
  simp only [gflds]
  by_cases hf : p.fK s = 0
  ·rw [if_pos hf]
   by_cases ht : p.fT s = 0
   ·rw [if_pos ht]; intro _; exact ⟨ids, l, rfl, hl⟩
   ·rw [if_neg ht]
    by_cases h0 : (f (p.fT s) (p.fS s)).1 = 0
    ·rw [if_pos h0]; exact ih _ _ _ (by simp [hl])
    ·rw [if_neg h0]; intro e; exact absurd e h0
  ·rw [if_neg hf]; intro e; exact absurd e hf
theorem gt_t (p : Pr σ) (d : Nat) (t : Int) (s : σ) (h : (gt p d t s).1 = 0) : (gt p d t s).2.2.t = t := by
 cases d with
 | zero => exact absurd h (by simp [gt])
 | succ d =>
  revert h
  simp only [gt]
  by_cases hs : isSc t = true
  ·rw [if_pos hs]; intro _; rfl
  ·rw [if_neg hs]
   by_cases h12 : t = 12
   ·rw [if_pos h12]
    intro h
    obtain ⟨ids', l', e, _⟩ := gflds_t p (gt p d) _ _ [] [] rfl h
    rw [e, h12]; rfl
   ·rw [if_neg h12]
    by_cases h13 : t = 13
    ·rw [if_pos h13]
     by_cases hm : p.mK s = 0
     ·rw [if_pos hm]
      by_cases hn : p.mN s > 100000
      ·rw [if_pos hn]; intro h; exact absurd (show (52 : Int) = 0 from h) (by decide)
      ·rw [if_neg hn]
       unfold gend
       split
       ·intro _; rw [h13]; rfl
       ·intro h; contradiction
     ·rw [if_neg hm]; intro h; exact absurd h hm
    ·rw [if_neg h13]
     by_cases h14 : t = 14 ∨ t = 15
     ·rw [if_pos h14]
      by_cases hm : p.lK s = 0
      ·rw [if_pos hm]
       by_cases hn : p.lN s > 100000
       ·rw [if_pos hn]; intro h; exact absurd (show (52 : Int) = 0 from h) (by decide)
       ·rw [if_neg hn]
        unfold gend
        split
        ·intro _; rfl
        ·intro h; contradiction
      ·rw [if_neg hm]; intro h; exact absurd h hm
     ·rw [if_neg h14]; intro h; exact absurd (show (51 : Int) = 0 from h) (by decide)
def flF (i : Int) (v : V) (a : List UInt8 × Int) : List UInt8 × Int := if i = 1 ∧ v.t = 11 then (v.s, a.2) else if i = 2 ∧ v.t = 8 then (a.1, wrap32 v.n) else a
def ofF : List Int → List V → List UInt8 × Int → List UInt8 × Int
 | i :: is, v :: vs, a => ofF is vs (flF i v a)
 | _, _, a => a
theorem ofF_snoc : ∀ (is : List Int) (vs : List V) (i : Int) (v : V) (a : List UInt8 × Int), is.length = vs.length → ofF (is ++ [i]) (vs ++ [v]) a = flF i v (ofF is vs a)
 | [], [], i, v, a, _ => rfl
 | j :: is, u :: vs, i, v, a, h => ofF_snoc is vs i v (flF j u a) (by simpa using h)
def flt (p : Pr σ) : Nat → σ → List UInt8 × Int → Int × σ × (List UInt8 × Int)
 | 0, s, a => (0, s, a)
 | n + 1, s, a =>
  if p.fK s = 0 then
   (if p.fT s = 0 then (0, p.seS (p.fS s), a)
    else if p.fI s = 1 ∧ p.fT s = 11 then (if p.scK 11 (p.fS s) = 0 then flt p n (p.feS (p.scS 11 (p.fS s))) (p.scB 11 (p.fS s), a.2) else (p.scK 11 (p.fS s), p.scS 11 (p.fS s), a))
    else if p.fI s = 2 ∧ p.fT s = 8 then (if p.scK 8 (p.fS s) = 0 then flt p n (p.feS (p.scS 8 (p.fS s))) (a.1, wrap32 (p.scN 8 (p.fS s))) else (p.scK 8 (p.fS s), p.scS 8 (p.fS s), a))
    else if (skp p 64 (p.fT s) (p.fS s)).1 = 0 then flt p n (p.feS (skp p 64 (p.fT s) (p.fS s)).2) a else ((skp p 64 (p.fT s) (p.fS s)).1, (skp p 64 (p.fT s) (p.fS s)).2, a))
  else (p.fK s, p.fS s, a)
theorem gflds_flt (p : Pr σ) (d : Nat) (hd : d + 1 ≤ 64) : ∀ n s ids l (a0 a : List UInt8 × Int), ids.length = l.length → ofF ids l a0 = a →
  ((gflds p (gt p (d + 1)) n s ids l).1 = 0 → ∃ ids' l', (gflds p (gt p (d + 1)) n s ids l).2.2 = .mk 12 0 [] 0 0 ids' l' ∧ ids'.length = l'.length ∧ flt p n s a = (0, (gflds p (gt p (d + 1)) n s ids l).2.1, ofF ids' l' a0)) ∧
  ((gflds p (gt p (d + 1)) n s ids l).1 ≠ 0 → (gflds p (gt p (d + 1)) n s ids l).1 < 50 → (flt p n s a).1 = (gflds p (gt p (d + 1)) n s ids l).1) := by
 intro n
 induction n with
 | zero => intro s ids l a0 a hl ha; exact ⟨fun _ => ⟨ids, l, rfl, hl, by rw [ha]; rfl⟩, fun h => absurd rfl h⟩
 | succ n ih =>
  intro s ids l a0 a hl ha
  simp only [gflds, flt]
  by_cases hf : p.fK s = 0
  ·rw [if_pos hf, if_pos hf]
   by_cases ht : p.fT s = 0
   ·rw [if_pos ht, if_pos ht]
    exact ⟨fun _ => ⟨ids, l, rfl, hl, by rw [ha]⟩, fun h => absurd rfl h⟩
   ·rw [if_neg ht, if_neg ht]
    by_cases hA : p.fI s = 1 ∧ p.fT s = 11
    ·rw [if_pos hA]
     have e : gt p (d + 1) (p.fT s) (p.fS s) = (p.scK 11 (p.fS s), p.scS 11 (p.fS s), .mk 11 (p.scN 11 (p.fS s)) (p.scB 11 (p.fS s)) 0 0 [] []) := by rw [hA.2]; rfl
     rw [e]
     by_cases h0 : p.scK 11 (p.fS s) = 0
     ·rw [if_pos h0, if_pos h0]
      refine ih _ _ _ a0 _ (by simp [hl]) ?_
      rw [ofF_snoc _ _ _ _ _ hl, ha]
      unfold flF
      rw [if_pos ⟨hA.1, rfl⟩]
      rfl
     ·rw [if_neg h0, if_neg h0]
      exact ⟨fun e => absurd e h0, fun _ _ => rfl⟩
    ·rw [if_neg hA]
     by_cases hB : p.fI s = 2 ∧ p.fT s = 8
     ·rw [if_pos hB]
      have e : gt p (d + 1) (p.fT s) (p.fS s) = (p.scK 8 (p.fS s), p.scS 8 (p.fS s), .mk 8 (p.scN 8 (p.fS s)) (p.scB 8 (p.fS s)) 0 0 [] []) := by rw [hB.2]; rfl
      rw [e]
      by_cases h0 : p.scK 8 (p.fS s) = 0
      ·rw [if_pos h0, if_pos h0]
       refine ih _ _ _ a0 _ (by simp [hl]) ?_
       rw [ofF_snoc _ _ _ _ _ hl, ha]
       unfold flF
       rw [if_neg (by rintro ⟨_, h⟩; exact absurd h (by show ¬ (8 : Int) = 11; decide)), if_pos ⟨hB.1, rfl⟩]
       rfl
      ·rw [if_neg h0, if_neg h0]
       exact ⟨fun e => absurd e h0, fun _ _ => rfl⟩
     ·rw [if_neg hB]
      have hag := gt_skp p (d + 1) 64 hd (p.fT s) (p.fS s)
      by_cases h0 : (gt p (d + 1) (p.fT s) (p.fS s)).1 = 0
      ·have htt := gt_t p (d + 1) (p.fT s) (p.fS s) h0
       rw [if_pos h0, hag.1 h0, if_pos rfl]
       refine ih _ _ _ a0 _ (by simp [hl]) ?_
       rw [ofF_snoc _ _ _ _ _ hl, ha]
       unfold flF
       rw [htt, if_neg hA, if_neg hB]
      ·rw [if_neg h0]
       refine ⟨fun e => absurd e h0, fun _ hl => ?_⟩
       have h1 := hag.2 h0 hl
       rw [if_neg (by rw [h1]; exact h0)]
       exact h1
  ·rw [if_neg hf, if_neg hf]
   exact ⟨fun e => absurd e hf, fun _ _ => rfl⟩
theorem gseq_kind {f : σ → Int × σ × V} (h : ∀ s, (f s).1 ≤ 52) : ∀ n s l, (gseq f n s l).1 ≤ 52 := by
 intro n
 induction n with
 | zero => intro s l; exact (show (0 : Int) ≤ 52 by decide)
 | succ n ih =>
  intro s l
  simp only [gseq]
  split
  ·exact ih _ _
  ·exact h s
theorem gpairs_kind {f g : σ → Int × σ × V} (h : ∀ s, (f s).1 ≤ 52) (h2 : ∀ s, (g s).1 ≤ 52) : ∀ n s l, (gpairs f g n s l).1 ≤ 52 := by
 intro n
 induction n with
 | zero => intro s l; exact (show (0 : Int) ≤ 52 by decide)
 | succ n ih =>
  intro s l
  simp only [gpairs]
  split
  ·split
   ·exact ih _ _
   ·exact h2 _
  ·exact h s
theorem gflds_kind {p : Pr σ} (hf : ∀ s, p.fK s < 50) {f : Int → σ → Int × σ × V} (h : ∀ t s, (f t s).1 ≤ 52) : ∀ n s ids l, (gflds p f n s ids l).1 ≤ 52 := by
 intro n
 induction n with
 | zero => intro s ids l; exact (show (0 : Int) ≤ 52 by decide)
 | succ n ih =>
  intro s ids l
  simp only [gflds]
  split
  ·split
   ·exact (show (0 : Int) ≤ 52 by decide)
   ·split
    ·exact ih _ _ _
    ·exact h _ _
  ·have := hf s; show p.fK s ≤ 52; omega
theorem gend_kind {e : σ → σ} {mk : List V → V} {q : Int × σ × List V} (h : q.1 ≤ 52) : (gend e mk q).1 ≤ 52 := by
 unfold gend
 split
 ·exact (show (0 : Int) ≤ 52 by decide)
 ·exact h
theorem gt_kind (p : Pr σ) (h1 : ∀ t s, p.scK t s < 50) (h2 : ∀ s, p.fK s < 50) (h3 : ∀ s, p.mK s < 50) (h4 : ∀ s, p.lK s < 50) : ∀ d t s, (gt p d t s).1 ≤ 52 := by
 intro d
 induction d with
 | zero => intro t s; exact (show (50 : Int) ≤ 52 by decide)
 | succ d ih =>
  intro t s
  simp only [gt]
  split
  ·have := h1 t s; show p.scK t s ≤ 52; omega
  ·split
   ·exact gflds_kind h2 ih _ _ _ _
   ·split
    ·split
     ·split
      ·exact (show (52 : Int) ≤ 52 by decide)
      ·exact gend_kind (gpairs_kind (ih _) (ih _) _ _ _)
     ·have := h3 s; show p.mK s ≤ 52; omega
    ·split
     ·split
      ·split
       ·exact (show (52 : Int) ≤ 52 by decide)
       ·exact gend_kind (gseq_kind (ih _) _ _ _)
      ·have := h4 s; show p.lK s ≤ 52; omega
     ·exact (show (51 : Int) ≤ 52 by decide)
theorem gt_struct (p : Pr σ) (d : Nat) (s : σ) : gt p (d + 1) 12 s = gflds p (gt p d) (p.len (p.sbS s) + 1) (p.sbS s) [] [] := by
 simp only [gt]
 rw [if_neg (by decide), if_pos trivial]
theorem fault_agree (p : Pr σ) (h1 : ∀ t s, p.scK t s < 50) (h2 : ∀ s, p.fK s < 50) (h3 : ∀ s, p.mK s < 50) (h4 : ∀ s, p.lK s < 50) (d : Nat) (hd : d + 1 ≤ 64) (s : σ) (R : Int × σ × (List UInt8 × Int)) (hR : flt p (p.len (p.sbS s) + 1) (p.sbS s) ([], 0) = R) (x : Int) (hx : Sk (gt p (d + 1 + 1) 12 s).1 x) :
  (x = 0 → ∃ ids l, (gt p (d + 1 + 1) 12 s).2.2 = .mk 12 0 [] 0 0 ids l ∧ ids.length = l.length ∧ R = (0, (gt p (d + 1 + 1) 12 s).2.1, ofF ids l ([], 0))) ∧ (¬ (x = 50 ∨ x = 51 ∨ x = 52) → Sk R.1 x) := by
 have hb := gt_kind p h1 h2 h3 h4 (d + 1 + 1) 12 s
 have hf := gflds_flt p d hd (p.len (p.sbS s) + 1) (p.sbS s) [] [] ([], 0) ([], 0) rfl rfl
 rw [← gt_struct p (d + 1) s, hR] at hf
 generalize gt p (d + 1 + 1) 12 s = G at *
 obtain ⟨f1, f2⟩ := hf
 refine ⟨fun hz => ?_, fun hn => ?_⟩
 ·subst hz
  exact f1 (Sk.zero hx)
 ·by_cases h0 : G.1 = 0
  ·obtain ⟨_, _, _, _, rfl⟩ := f1 h0
   rw [h0] at hx
   exact hx
  ·rcases hx with h | ⟨h, _, h5⟩ | h
   ·exact .inl h
   ·have := f2 h0 h5
    exact .inr (.inl ⟨h, by rw [this]; exact ⟨h0, h5⟩⟩)
   ·have := f2 h0 (by omega)
    exact .inr (.inr (by rw [this]; exact h))
end
theorem exc_size : (Tryz.prog.info? 191).map (·.size) = some 3 := by kernel_rfl
theorem exc_Error : (Array.find? (fun x => x.name == "Error") Tryz.t192.methods).map (fun m => (m.path.toList, m.func)) = some ([], some (316, false)) := by kernel_rfl
theorem method_exc {w : World} {PX : Nat} {m : ByteArray} {q : Int} {ex : Value} (h : w.heap[PX]? = some (.cells (excC m q ex) 191 (0, 0))) (k : Nat) :
  (method (k + 1) 192 (.pointer (some ⟨PX, 0, none⟩)) "Error").run Tryz.prog w = .ok (316, .agg (excC m q ex)) w := by
 obtain ⟨mm, hm, hp⟩ := Option.map_eq_some_iff.1 exc_Error
 simp only [Prod.mk.injEq] at hp
 obtain ⟨hp, hq⟩ := hp
 have hl := run_loadVar_row (P := Tryz.prog) w PX 191 191 _ (0, 0) _ h Tryz.underlying191 rfl exc_size
 have hw : ∀ n1 n2 : String, (Builtin.ssaWrapNilChk_ #[192] 192 #[.pointer (some ⟨PX, 0, none⟩), strVal n1, strVal n2]).run Tryz.prog w = .ok (.pointer (some ⟨PX, 0, none⟩)) w := fun _ _ => rfl
 simp [method, hm, hp, hq, follow]
 by_cases hpp : mm.path = #[]
 ·simp [receiverAt, Place.get, run_underlying Tryz.underlying192, asAddr, hpp, hw, hl, Result.andThen]
 ·simp [receiverAt, Place.get, run_underlying Tryz.underlying192, asAddr, hpp, hw, hl, Result.andThen]
theorem Rp.skip_default {St : Type} (K : Rp.Ctx St) (t : Int) (s : St) (w : World) (h : K.Inv s w) (hroom : K.pr.Room s) :
  Calls Tryz.prog 93 #[ctxV, K.V, .int .u8 t] w fun e w' => ∃ ev, e = .returned ev ∧ Rp.Post K w w' (skp K.pr 64 t s).1 ev (skp K.pr 64 t s).2 := by
 go_enter Tryz.func93, Tryz.ntmps93
 go_wp2_with fail
 refine (Rp.skips K 64 64 t s w (by decide) (by decide) (by decide) h hroom).mono ?_
 rintro e w1 ⟨ev, rfl, hp⟩
 go_wp2_with fail
 go_ret
 exact ⟨_, rfl, hp⟩
def Rp.FltRel {St : Type} (K : Rp.Ctx St) (w : World) (tot : Int × St × (List UInt8 × Int)) (b k : Nat) (v9 v10 : Value) (wr : World) : Prop :=
 ∃ s a, v9 = .string ⟨a.1.toArray⟩ ∧ v10 = .int .i32 a.2 ∧ ((-2147483648 ≤ a.2 ∧ a.2 ≤ 2147483647) ∧ a.1.length ≤ 140737488355328) ∧ K.Inv s wr ∧ Kpt (K.M) w wr ∧ K.pr.len s < k ∧ flt K.pr k s a = tot ∧ K.pr.one ≤ K.pr.dep s ∧ K.pr.len s + K.pr.dep s ≤ b
def Rp.FltP {St : Type} (K : Rp.Ctx St) (PX : Nat) (ex : Value) (r : Int × St × (List UInt8 × Int)) (w : World) (e : Ending) (w' : World) : Prop :=
 ∃ ev w1 mm qq, e = .returned ev ∧ Rp.Post K w w1 r.1 ev r.2.1 ∧ Keep (fun i => PX = i) w1 w' ∧ w'.heap[PX]? = some (.cells (excC mm qq ex) 191 (0, 0)) ∧ ((-2147483648 ≤ qq ∧ qq ≤ 2147483647) ∧ mm.size ≤ 140737488355328) ∧ (r.1 = 0 → mm = ⟨r.2.2.1.toArray⟩ ∧ qq = r.2.2.2)
set_option maxRecDepth 100000 in
theorem Rp.fault_read {St : Type} (K : Rp.Ctx St) (PX : Nat) (m0 : ByteArray) (q0 : Int) (ex : Value) (hq0 : (-2147483648 ≤ q0 ∧ q0 ≤ 2147483647) ∧ m0.size ≤ 140737488355328) (s : St) (w : World) (h : K.Inv s w) (hroom : K.pr.Room s) (hP : w.heap[PX]? = some (.cells (excC m0 q0 ex) 191 (0, 0))) (hnP : ¬ K.M w PX)
  (tot : Int × St × (List UInt8 × Int)) (htot : flt K.pr (K.pr.len (K.pr.sbS s) + 1) (K.pr.sbS s) ([], 0) = tot) :
  Calls Tryz.prog 70 #[.pointer (some ⟨PX, 0, none⟩), ctxV, K.V] w (Rp.FltP K PX ex tot w) := by
 have HT := hdd htot
 clear htot
 have hR : K.pr.len s + K.pr.dep s < 1099511627776 := hroom
 have HRM := hdd hR
 have HP := hdd hP
 have HNP := hdd hnP
 have HQ0 := hdd hq0
 clear hroom hR hP hnP hq0
 obtain ⟨hSbm, hSbn, hSbc⟩ := K.mSb
 obtain ⟨hFbm, hFbn, hFbc⟩ := K.mFb
 obtain ⟨hSem, hSen, hSec⟩ := K.mSe
 obtain ⟨hFem, hFen, hFec⟩ := K.mFe
 obtain ⟨hI32m, hI32n, hI32c⟩ := K.mI32
 obtain ⟨hStrm, hStrn, hStrc⟩ := K.mStr
 go_enter Tryz.func70, Tryz.ntmps70
 go_wp2_with fail
 refine (K.readStructBegin h (by have := HRM.out; omega)).mono ?_
 rintro e w1 ⟨l, rfl, hp1⟩
 go_wp2_with fail
 go_loopg [9, 10] (K.pr.len (K.pr.sbS s) + 1) (fun k v9 v10 wr => Rp.FltRel K w tot (K.pr.len s + K.pr.dep s + K.pr.one) k v9 v10 wr)
 case atStart => exact ⟨_, ([], 0), rfl, rfl, by simp, hp1.inv rfl, hp1.keep, Nat.lt_succ_self _, HT.out, by rw [K.ok.dsb]; omega, by rw [K.ok.dsb]; have := K.ok.sb s; omega⟩
 case round =>
  obtain ⟨s1, a, rfl, rfl, ha, hi1, hk1, hlt, hfl, hdp⟩ := hrel
  have HDP := hdd hdp
  obtain ⟨⟨ha1, ha2⟩, ha3⟩ := ha
  clear hdp
  cases gk with
  | zero => exact absurd hlt (Nat.not_lt_zero _)
  | succ k =>
  have HF := hdd hfl
  have HLT := hdd hlt
  clear hfl hlt
  go_wp2_with fail
  refine (K.readFieldBegin hi1).mono ?_
  rintro e w2 ⟨l2, t, id, ev, rfl, hp2, hv2⟩
  by_cases hz : K.pr.fK s1 = 0
  ·have hev : ev = .nilIface := by have := hp2.err; rw [hz] at this; exact this.isNil
   subst hev
   obtain ⟨ht, hid2⟩ := hv2 hz
   have HZ := hdd hz
   have HID := hdd hid2
   clear hv2 hz hid2
   by_cases ht0 : t = 0
   ·subst ht0
    have HT0 := hdd ht
    clear ht
    go_wp2_with fail
    refine (K.readStructEnd (hp2.inv HZ.out) (by rw [K.ok.df s1 HZ.out]; exact HDP.out.1)).mono ?_
    rintro e w3 ⟨rfl, hp3⟩
    have hpo := (Rp.Post.onto hk1 hp2).then hp3
    have hP3 := (hpo.keep.block PX (lt_of_heap HP.out) HNP.out).trans HP.out
    have c0 := cellAt hP3 0
    have c1 := cellAt hP3 1
    have f0 := freeAt hP3 0
    have f1 := freeAt hP3 1
    simp at c0 c1
    have HPO := hdd hpo
    have HP3 := hdd hP3
    clear hpo hP3
    go_wp2_with fail
    go_ret
    have e1 : tot = (0, K.pr.seS (K.pr.fS s1), a) := by
     rw [← HF.out]; simp only [flt]; rw [if_pos HZ.out, if_pos HT0.out.symm]
    rw [e1]
    have h1 := heap_set_same (i := 0) HP3.out (.string ⟨a.1.toArray⟩)
    have h2 := heap_set_same (i := 1) h1 (.int .i32 a.2)
    exact ⟨_, w3, _, _, rfl, HPO.out, ((Keep.refl (fun i => PX = i) w3).set PX 0 (fun _ => rfl) _).set PX 1 (fun _ => rfl) _, by simpa using h2, ⟨⟨ha1, ha2⟩, by show a.1.toArray.size ≤ _; simpa using ha3⟩, fun _ => ⟨rfl, rfl⟩⟩
   ·have HT0 := hdd ht
    have hne : ¬ K.pr.fT s1 = 0 := fun hh => ht0 (HT0.out.trans hh)
    have HNE := hdd hne
    have HRM2 : Hid (K.pr.Room (K.pr.fS s1)) := hdd (by have a1 := K.ok.df s1 HZ.out; have a2 := K.ok.f s1 HZ.out; have a3 := HDP.out.2; have a4 := K.ok.one1; have a5 := HRM.out; show _ + _ < _; omega)
    have HK2 := hdd (hk1.then hp2.keep)
    have hnt0 : (t == 0) = false := by simpa using ht0
    clear ht hne
    by_cases hA : id = 1 ∧ t = 11
    ·obtain ⟨rfl, rfl⟩ := hA
     have HA : Hid (K.pr.fI s1 = 1 ∧ K.pr.fT s1 = 11) := hdd ⟨HID.out.symm, HT0.out.symm⟩
     go_wp2_with fail
     refine (K.readString (hp2.inv HZ.out)).mono ?_
     rintro e w3 ⟨l3, ev, rfl, hp3, hv3⟩
     by_cases hz3 : K.pr.scK 11 (K.pr.fS s1) = 0
     ·have hev : ev = .nilIface := by have := hp3.err; rw [hz3] at this; exact this.isNil
      subst hev
      obtain rfl := hv3 hz3
      have HZ3 := hdd hz3
      clear hz3 hv3
      go_wp2_with fail
      refine (K.readFieldEnd (hp3.inv HZ3.out)).mono ?_
      rintro e w4 ⟨rfl, hp4⟩
      go_wp2_with fail
      go_roundg k
      case measure => exact Nat.lt_succ_self _
      case rel =>
       refine ⟨_, (K.pr.scB 11 (K.pr.fS s1), a.2), rfl, rfl, ⟨⟨ha1, ha2⟩, K.b_le (hp2.inv HZ.out) 11⟩, hp4.inv rfl, (HK2.out.then hp3.keep).then hp4.keep, ?_, ?_, ?_⟩
       ·have ok := K.ok
        have a1 := ok.fe (K.pr.scS 11 (K.pr.fS s1))
        have a2 := ok.sc 11 (K.pr.fS s1)
        have a3 := ok.f s1 HZ.out
        have a4 := HLT.out
        omega
       ·rw [← HF.out]; simp only [flt]; rw [if_pos HZ.out, if_neg HNE.out, if_pos HA.out, if_pos HZ3.out]
       ·have ok := K.ok
        have a1 := ok.fe (K.pr.scS 11 (K.pr.fS s1))
        have a2 := ok.sc 11 (K.pr.fS s1)
        have a3 := ok.f s1 HZ.out
        have a4 := HDP.out
        have a5 := ok.dfe (K.pr.scS 11 (K.pr.fS s1))
        have a6 := ok.dsc 11 _ HZ3.out
        have a7 := ok.df s1 HZ.out
        exact ⟨by omega, by omega⟩
     ·obtain ⟨tt, x, rfl⟩ := hp3.err.held hz3
      have HZ3 := hdd hz3
      have HPO := hdd (Rp.Post.onto HK2.out hp3)
      clear hz3 hv3
      go_wp2_with fail
      go_ret
      have e1 : tot = (K.pr.scK 11 (K.pr.fS s1), K.pr.scS 11 (K.pr.fS s1), a) := by
       rw [← HF.out]; simp only [flt]; rw [if_pos HZ.out, if_neg HNE.out, if_pos HA.out, if_neg HZ3.out]
      rw [e1]
      exact ⟨_, w3, m0, q0, rfl, HPO.out, Keep.refl _ _, (HPO.out.keep.block PX (lt_of_heap HP.out) HNP.out).trans HP.out, HQ0.out, fun hh => absurd hh HZ3.out⟩
    ·by_cases hB : id = 2 ∧ t = 8
     ·obtain ⟨rfl, rfl⟩ := hB
      have HB : Hid (K.pr.fI s1 = 2 ∧ K.pr.fT s1 = 8) := hdd ⟨HID.out.symm, HT0.out.symm⟩
      have HNA : Hid (¬ (K.pr.fI s1 = 1 ∧ K.pr.fT s1 = 11)) := hdd (by rw [HB.out.1]; rintro ⟨e, _⟩; exact absurd e (by decide))
      go_wp2_with fail
      refine (K.readI32 (hp2.inv HZ.out)).mono ?_
      rintro e w3 ⟨n3, ev, rfl, hp3, hv3, hn1, hn2⟩
      by_cases hz3 : K.pr.scK 8 (K.pr.fS s1) = 0
      ·have hev : ev = .nilIface := by have := hp3.err; rw [hz3] at this; exact this.isNil
       subst hev
       have HN3 : Hid (n3 = wrap32 (K.pr.scN 8 (K.pr.fS s1))) := hdd (by rw [← hv3 hz3]; simp only [wrap32]; omega)
       have HZ3 := hdd hz3
       clear hz3 hv3
       go_wp2_with fail
       refine (K.readFieldEnd (hp3.inv HZ3.out)).mono ?_
       rintro e w4 ⟨rfl, hp4⟩
       go_wp2_with fail
       go_roundg k
       case measure => exact Nat.lt_succ_self _
       case rel =>
        refine ⟨_, (a.1, wrap32 (K.pr.scN 8 (K.pr.fS s1))), rfl, by rw [HN3.out], by rw [← HN3.out]; exact ⟨⟨hn1, hn2⟩, ha3⟩, hp4.inv rfl, (HK2.out.then hp3.keep).then hp4.keep, ?_, ?_, ?_⟩
        ·have ok := K.ok
         have a1 := ok.fe (K.pr.scS 8 (K.pr.fS s1))
         have a2 := ok.sc 8 (K.pr.fS s1)
         have a3 := ok.f s1 HZ.out
         have a4 := HLT.out
         omega
        ·rw [← HF.out]; simp only [flt]; rw [if_pos HZ.out, if_neg HNE.out, if_neg HNA.out, if_pos HB.out, if_pos HZ3.out]
        ·have ok := K.ok
         have a1 := ok.fe (K.pr.scS 8 (K.pr.fS s1))
         have a2 := ok.sc 8 (K.pr.fS s1)
         have a3 := ok.f s1 HZ.out
         have a4 := HDP.out
         have a5 := ok.dfe (K.pr.scS 8 (K.pr.fS s1))
         have a6 := ok.dsc 8 _ HZ3.out
         have a7 := ok.df s1 HZ.out
         exact ⟨by omega, by omega⟩
      ·obtain ⟨tt, x, rfl⟩ := hp3.err.held hz3
       have HZ3 := hdd hz3
       have HPO := hdd (Rp.Post.onto HK2.out hp3)
       clear hz3 hv3
       go_wp2_with fail
       go_ret
       have e1 : tot = (K.pr.scK 8 (K.pr.fS s1), K.pr.scS 8 (K.pr.fS s1), a) := by
        rw [← HF.out]; simp only [flt]; rw [if_pos HZ.out, if_neg HNE.out, if_neg HNA.out, if_pos HB.out, if_neg HZ3.out]
       rw [e1]
       exact ⟨_, w3, m0, q0, rfl, HPO.out, Keep.refl _ _, (HPO.out.keep.block PX (lt_of_heap HP.out) HNP.out).trans HP.out, HQ0.out, fun hh => absurd hh HZ3.out⟩
     ·have HNA : Hid (¬ (K.pr.fI s1 = 1 ∧ K.pr.fT s1 = 11)) := hdd (fun hh => hA ⟨HID.out.trans hh.1, HT0.out.trans hh.2⟩)
      have HNB : Hid (¬ (K.pr.fI s1 = 2 ∧ K.pr.fT s1 = 8)) := hdd (fun hh => hB ⟨HID.out.trans hh.1, HT0.out.trans hh.2⟩)
      have hcs : (id = 1 ∧ ¬ t = 11) ∨ (id = 2 ∧ ¬ t = 8) ∨ (¬ id = 1 ∧ ¬ id = 2) := by
       by_cases h1 : id = 1
       ·exact .inl ⟨h1, fun h => hA ⟨h1, h⟩⟩
       ·by_cases h2 : id = 2
        ·exact .inr (.inl ⟨h2, fun h => hB ⟨h2, h⟩⟩)
        ·exact .inr (.inr ⟨h1, h2⟩)
      clear hA hB
      have hsk := fun (_ : World) => Rp.skip_default K t (K.pr.fS s1) w2 (hp2.inv HZ.out) HRM2.out
      have HSK := hdd hsk
      clear hsk
      rcases hcs with ⟨rfl, hu⟩ | ⟨rfl, hu⟩ | ⟨hu1, hu2⟩
      ·have hub : (t == 11) = false := by simpa using hu
       go_wp2_with fail
       refine (HSK.out w2).mono ?_
       rintro e w3 ⟨ev, rfl, hp3⟩
       rw [HT0.out] at hp3
       by_cases hz3 : (skp K.pr 64 (K.pr.fT s1) (K.pr.fS s1)).1 = 0
       ·have hev : ev = .nilIface := by have := hp3.err; rw [hz3] at this; exact this.isNil
        subst hev
        have HZ3 := hdd hz3
        clear hz3
        go_wp2_with fail
        refine (K.readFieldEnd (hp3.inv HZ3.out)).mono ?_
        rintro e w4 ⟨rfl, hp4⟩
        go_wp2_with fail
        go_roundg k
        case measure => exact Nat.lt_succ_self _
        case rel =>
         refine ⟨_, a, rfl, rfl, ⟨⟨ha1, ha2⟩, ha3⟩, hp4.inv rfl, (HK2.out.then hp3.keep).then hp4.keep, ?_, ?_, ?_⟩
         ·have ok := K.ok
          have a1 := ok.fe (skp K.pr 64 (K.pr.fT s1) (K.pr.fS s1)).2
          have a2 := skp_len ok 64 _ _ HZ3.out
          have a3 := ok.f s1 HZ.out
          have a4 := HLT.out
          omega
         ·rw [← HF.out]; simp only [flt]; rw [if_pos HZ.out, if_neg HNE.out, if_neg HNA.out, if_neg HNB.out, if_pos HZ3.out]
         ·have ok := K.ok
          have a1 := ok.fe (skp K.pr 64 (K.pr.fT s1) (K.pr.fS s1)).2
          have a2 := skp_len ok 64 _ _ HZ3.out
          have a3 := ok.f s1 HZ.out
          have a4 := HDP.out
          have a5 := ok.dfe (skp K.pr 64 (K.pr.fT s1) (K.pr.fS s1)).2
          have a6 := skp_dep ok 64 _ _ HZ3.out
          have a7 := ok.df s1 HZ.out
          exact ⟨by omega, by omega⟩
       ·obtain ⟨tt, x, rfl⟩ := hp3.err.held hz3
        have HZ3 := hdd hz3
        have HPO := hdd (Rp.Post.onto HK2.out hp3)
        clear hz3
        go_wp2_with fail
        go_ret
        have e1 : tot = ((skp K.pr 64 (K.pr.fT s1) (K.pr.fS s1)).1, (skp K.pr 64 (K.pr.fT s1) (K.pr.fS s1)).2, a) := by
         rw [← HF.out]; simp only [flt]; rw [if_pos HZ.out, if_neg HNE.out, if_neg HNA.out, if_neg HNB.out, if_neg HZ3.out]
        rw [e1]
        exact ⟨_, w3, m0, q0, rfl, HPO.out, Keep.refl _ _, (HPO.out.keep.block PX (lt_of_heap HP.out) HNP.out).trans HP.out, HQ0.out, fun hh => absurd hh HZ3.out⟩
      ·have hub : (t == 8) = false := by simpa using hu
       go_wp2_with fail
       refine (HSK.out w2).mono ?_
       rintro e w3 ⟨ev, rfl, hp3⟩
       rw [HT0.out] at hp3
       by_cases hz3 : (skp K.pr 64 (K.pr.fT s1) (K.pr.fS s1)).1 = 0
       ·have hev : ev = .nilIface := by have := hp3.err; rw [hz3] at this; exact this.isNil
        subst hev
        have HZ3 := hdd hz3
        clear hz3
        go_wp2_with fail
        refine (K.readFieldEnd (hp3.inv HZ3.out)).mono ?_
        rintro e w4 ⟨rfl, hp4⟩
        go_wp2_with fail
        go_roundg k
        case measure => exact Nat.lt_succ_self _
        case rel =>
         refine ⟨_, a, rfl, rfl, ⟨⟨ha1, ha2⟩, ha3⟩, hp4.inv rfl, (HK2.out.then hp3.keep).then hp4.keep, ?_, ?_, ?_⟩
         ·have ok := K.ok
          have a1 := ok.fe (skp K.pr 64 (K.pr.fT s1) (K.pr.fS s1)).2
          have a2 := skp_len ok 64 _ _ HZ3.out
          have a3 := ok.f s1 HZ.out
          have a4 := HLT.out
          omega
         ·rw [← HF.out]; simp only [flt]; rw [if_pos HZ.out, if_neg HNE.out, if_neg HNA.out, if_neg HNB.out, if_pos HZ3.out]
         ·have ok := K.ok
          have a1 := ok.fe (skp K.pr 64 (K.pr.fT s1) (K.pr.fS s1)).2
          have a2 := skp_len ok 64 _ _ HZ3.out
          have a3 := ok.f s1 HZ.out
          have a4 := HDP.out
          have a5 := ok.dfe (skp K.pr 64 (K.pr.fT s1) (K.pr.fS s1)).2
          have a6 := skp_dep ok 64 _ _ HZ3.out
          have a7 := ok.df s1 HZ.out
          exact ⟨by omega, by omega⟩
       ·obtain ⟨tt, x, rfl⟩ := hp3.err.held hz3
        have HZ3 := hdd hz3
        have HPO := hdd (Rp.Post.onto HK2.out hp3)
        clear hz3
        go_wp2_with fail
        go_ret
        have e1 : tot = ((skp K.pr 64 (K.pr.fT s1) (K.pr.fS s1)).1, (skp K.pr 64 (K.pr.fT s1) (K.pr.fS s1)).2, a) := by
         rw [← HF.out]; simp only [flt]; rw [if_pos HZ.out, if_neg HNE.out, if_neg HNA.out, if_neg HNB.out, if_neg HZ3.out]
        rw [e1]
        exact ⟨_, w3, m0, q0, rfl, HPO.out, Keep.refl _ _, (HPO.out.keep.block PX (lt_of_heap HP.out) HNP.out).trans HP.out, HQ0.out, fun hh => absurd hh HZ3.out⟩
      ·have hub1 : (id == 1) = false := by simpa using hu1
       have hub2 : (id == 2) = false := by simpa using hu2
       go_wp2_with fail
       refine (HSK.out w2).mono ?_
       rintro e w3 ⟨ev, rfl, hp3⟩
       rw [HT0.out] at hp3
       by_cases hz3 : (skp K.pr 64 (K.pr.fT s1) (K.pr.fS s1)).1 = 0
       ·have hev : ev = .nilIface := by have := hp3.err; rw [hz3] at this; exact this.isNil
        subst hev
        have HZ3 := hdd hz3
        clear hz3
        go_wp2_with fail
        refine (K.readFieldEnd (hp3.inv HZ3.out)).mono ?_
        rintro e w4 ⟨rfl, hp4⟩
        go_wp2_with fail
        go_roundg k
        case measure => exact Nat.lt_succ_self _
        case rel =>
         refine ⟨_, a, rfl, rfl, ⟨⟨ha1, ha2⟩, ha3⟩, hp4.inv rfl, (HK2.out.then hp3.keep).then hp4.keep, ?_, ?_, ?_⟩
         ·have ok := K.ok
          have a1 := ok.fe (skp K.pr 64 (K.pr.fT s1) (K.pr.fS s1)).2
          have a2 := skp_len ok 64 _ _ HZ3.out
          have a3 := ok.f s1 HZ.out
          have a4 := HLT.out
          omega
         ·rw [← HF.out]; simp only [flt]; rw [if_pos HZ.out, if_neg HNE.out, if_neg HNA.out, if_neg HNB.out, if_pos HZ3.out]
         ·have ok := K.ok
          have a1 := ok.fe (skp K.pr 64 (K.pr.fT s1) (K.pr.fS s1)).2
          have a2 := skp_len ok 64 _ _ HZ3.out
          have a3 := ok.f s1 HZ.out
          have a4 := HDP.out
          have a5 := ok.dfe (skp K.pr 64 (K.pr.fT s1) (K.pr.fS s1)).2
          have a6 := skp_dep ok 64 _ _ HZ3.out
          have a7 := ok.df s1 HZ.out
          exact ⟨by omega, by omega⟩
       ·obtain ⟨tt, x, rfl⟩ := hp3.err.held hz3
        have HZ3 := hdd hz3
        have HPO := hdd (Rp.Post.onto HK2.out hp3)
        clear hz3
        go_wp2_with fail
        go_ret
        have e1 : tot = ((skp K.pr 64 (K.pr.fT s1) (K.pr.fS s1)).1, (skp K.pr 64 (K.pr.fT s1) (K.pr.fS s1)).2, a) := by
         rw [← HF.out]; simp only [flt]; rw [if_pos HZ.out, if_neg HNE.out, if_neg HNA.out, if_neg HNB.out, if_neg HZ3.out]
        rw [e1]
        exact ⟨_, w3, m0, q0, rfl, HPO.out, Keep.refl _ _, (HPO.out.keep.block PX (lt_of_heap HP.out) HNP.out).trans HP.out, HQ0.out, fun hh => absurd hh HZ3.out⟩
  ·obtain ⟨tt, x, rfl⟩ := hp2.err.held hz
   have HZ := hdd hz
   have HPO := hdd (Rp.Post.onto hk1 hp2)
   clear hv2 hz
   go_wp2_with fail
   go_ret
   have e1 : tot = (K.pr.fK s1, K.pr.fS s1, a) := by
    rw [← HF.out]; simp only [flt]; rw [if_neg HZ.out]
   rw [e1]
   exact ⟨_, w2, m0, q0, rfl, HPO.out, Keep.refl _ _, (HPO.out.keep.block PX (lt_of_heap HP.out) HNP.out).trans HP.out, HQ0.out, fun hh => absurd hh HZ.out⟩
end Go.Proofs.YthehmlbolajljaaGreatDoor
