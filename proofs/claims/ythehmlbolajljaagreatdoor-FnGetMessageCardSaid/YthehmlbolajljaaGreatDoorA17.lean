/- Part 17 of the proof: Rt0, Gg1, Bi1, Bi2, RpXBin, Bi3, Val0, Gt0, Msg0, BegunR, Gg3. -/
import Derived.Test.YthehmlbolajljaaGreatDoorA15
import Derived.Test.YthehmlbolajljaaGreatDoorA16
import Derived.Test.YthehmlbolajljaaGreatDoorA10
import Derived.Deep.RegionWith
set_option linter.unusedVariables false
set_option linter.unusedSimpArgs false
set_option linter.unusedSectionVars false
namespace Go.Proofs.YthehmlbolajljaaGreatDoor
open Go Go.RowKit
theorem ret_cell2 {f : Func} {slot s2 : Nat} {a : Act} {w : World} {U : Nat} {Q : Ending → World → Prop} {T : TypeId} {fs : Array Field} {cs : Array Value} {v2 : Value} (hf : f.results = #[.cell slot T, .tmp s2]) (hd : a.defers = []) (ha : a.tmps[slot]?.getD undef = .pointer (some ⟨U, 0, none⟩)) (hb : a.tmps[s2]?.getD undef = v2)
    (hU : w.heap[U]? = some (.cells cs T (0, 0))) (hu : Tryz.prog.underlying T = some (.struct fs)) (hs : (Tryz.prog.info? T).map (·.size) = some cs.size) (hQ : Q (.returned (.tuple #[.agg cs, v2])) w) : bodyPost Tryz.prog f Q Exit.ret a w := by
  have hl := run_loadVar_row (P := Tryz.prog) w U T T _ (0, 0) _ hU hu rfl hs
  refine bodyPost_ret (v := .tuple #[.agg cs, v2]) ?_ hd hQ
  simp [results, hf, ha, hb, asAddr, hl]
theorem ret_cell3 {f : Func} {slot s2 s3 : Nat} {a : Act} {w : World} {U : Nat} {Q : Ending → World → Prop} {T : TypeId} {fs : Array Field} {cs : Array Value} {v2 v3 : Value} (hf : f.results = #[.cell slot T, .tmp s2, .tmp s3]) (hd : a.defers = []) (ha : a.tmps[slot]?.getD undef = .pointer (some ⟨U, 0, none⟩)) (hb : a.tmps[s2]?.getD undef = v2) (hc : a.tmps[s3]?.getD undef = v3)
    (hU : w.heap[U]? = some (.cells cs T (0, 0))) (hu : Tryz.prog.underlying T = some (.struct fs)) (hs : (Tryz.prog.info? T).map (·.size) = some cs.size) (hQ : Q (.returned (.tuple #[.agg cs, v2, v3])) w) : bodyPost Tryz.prog f Q Exit.ret a w := by
  have hl := run_loadVar_row (P := Tryz.prog) w U T T _ (0, 0) _ hU hu rfl hs
  refine bodyPost_ret (v := .tuple #[.agg cs, v2, v3]) ?_ hd hQ
  simp [results, hf, ha, hb, hc, asAddr, hl]
theorem igot_size : (Tryz.prog.info? 139).map (·.size) = some 7 := by kernel_rfl
theorem ival_size : (Tryz.prog.info? 29).map (·.size) = some 7 := by kernel_rfl
abbrev stepI (op : Int) : Array Value := #[.int .i64 op, .int .i64 0, .int .i64 0, .int .i64 0, .int .i64 0, .int .i64 0, .slice none 0 0]
end Go.Proofs.YthehmlbolajljaaGreatDoor

namespace Go.Proofs.YthehmlbolajljaaGreatDoor
open Go Go.RowKit
abbrev zVal : Array Value := valC 0 0 nilB 0 0 (.slice none 0 0) (.slice none 0 0)
abbrev getW (w : World) (t : Int) : World := ((w.alloc (.cells zVal 29 (0, 0))).alloc (.cells (valC t 0 nilB 0 0 (.slice none 0 0) (.slice none 0 0)) 29 (0, 0))).alloc (.cells zGot 139 (0, 0))
theorem getW_facts (w : World) (t : Int) : Keep (fun _ => False) w (getW w t) ∧ (getW w t).heap[w.heap.size]? = some (.cells zVal 29 (0, 0)) ∧ (getW w t).heap[w.heap.size + 1]? = some (.cells (valC t 0 nilB 0 0 (.slice none 0 0) (.slice none 0 0)) 29 (0, 0)) ∧
    (getW w t).heap[w.heap.size + 1 + 1]? = some (.cells zGot 139 (0, 0)) ∧ (getW w t).heap.size = w.heap.size + 3 := by
  refine ⟨(((Keep.refl _ w).alloc _).alloc _).alloc _, ?_, ?_, ?_, by simp⟩
  · exact (Below.heap_alloc _ _ _ (by simp; omega)).trans ((Below.heap_alloc _ _ _ (by simp)).trans (heap_alloc_new w _))
  · exact (Below.heap_alloc _ _ _ (by simp)).trans (heap_alloc_at (by simp) _)
  · exact heap_alloc_at (by simp) _
theorem val_set {w : World} {U : Nat} {v0 v1 v2 v3 v4 v5 v6 : Value} {T : TypeId} (h : w.heap[U]? = some (.cells #[v0, v1, v2, v3, v4, v5, v6] T (0, 0))) (x0 x1 x2 x3 x4 x5 x6 : Value) :
    (((((((w.setCell ⟨U, 0, none⟩ x0).setCell ⟨U, 1, none⟩ x1).setCell ⟨U, 2, none⟩ x2).setCell ⟨U, 3, none⟩ x3).setCell ⟨U, 4, none⟩ x4).setCell ⟨U, 5, none⟩ x5).setCell ⟨U, 6, none⟩ x6).heap[U]? = some (.cells #[x0, x1, x2, x3, x4, x5, x6] T (0, 0)) := by
  have h0 := heap_set_same (i := 0) h x0
  have h1 := heap_set_same (i := 1) h0 x1
  have h2 := heap_set_same (i := 2) h1 x2
  have h3 := heap_set_same (i := 3) h2 x3
  have h4 := heap_set_same (i := 4) h3 x4
  have h5 := heap_set_same (i := 5) h4 x5
  have h6 := heap_set_same (i := 6) h5 x6
  simpa using h6
end Go.Proofs.YthehmlbolajljaaGreatDoor

namespace Go.Proofs.YthehmlbolajljaaGreatDoor
open Go Go.RowKit
theorem Bin.M_lt {K : Bin.Ctx} {s : Bin.St} {w : World} (h : Bin.Inv K s w) : ∀ i, Bin.M K w i → i < w.heap.size := by
  rintro i (rfl | rfl)
  · exact h.p.mem.buf.lt
  · obtain ⟨sc, _, hb⟩ := h.p.blk
    exact lt_of_heap hb
theorem Bin.M_new {K : Bin.Ctx} {s : Bin.St} {w w1 : World} (h : Bin.Inv K s w) (_ : Keep (fun _ => False) w w1) : ∀ i, Bin.M K w1 i → i < w.heap.size := Bin.M_lt h
theorem Bin.Some.lt {K : Bin.Ctx} {w : World} (h : Bin.Some K w) : ∀ i, Bin.M K w i → i < w.heap.size := by
  obtain ⟨s, h⟩ := h
  rintro i (rfl | rfl)
  · exact h.mem.buf.lt
  · obtain ⟨sc, _, hb⟩ := h.blk
    exact lt_of_heap hb
theorem Bin.kept {K : Bin.Ctx} {s : Bin.St} {w w1 : World} (_ : Bin.Inv K s w) (k : Keep (fun _ => False) w w1) : Kpt (Bin.M K) w w1 := ⟨k.weak (fun _ _ x => x.elim), fun _ _ x => x⟩
theorem Bin.b2 (K : Bin.Ctx) (s : Bin.St) : (Bin.pr K).scB 2 s = [] := by simp [Bin.pr, Bin.scB]
theorem Bin.b3 (K : Bin.Ctx) (s : Bin.St) : (Bin.pr K).scB 3 s = [] := by simp [Bin.pr, Bin.scB]
theorem Bin.b4 (K : Bin.Ctx) (s : Bin.St) : (Bin.pr K).scB 4 s = [] := by simp [Bin.pr, Bin.scB]
theorem Bin.b6 (K : Bin.Ctx) (s : Bin.St) : (Bin.pr K).scB 6 s = [] := by simp [Bin.pr, Bin.scB]
theorem Bin.b8 (K : Bin.Ctx) (s : Bin.St) : (Bin.pr K).scB 8 s = [] := by simp [Bin.pr, Bin.scB]
theorem Bin.n11 (K : Bin.Ctx) (s : Bin.St) : (Bin.pr K).scN 11 s = 0 := by simp [Bin.pr, Bin.scN]
theorem Bin.n16 (K : Bin.Ctx) (s : Bin.St) : (Bin.pr K).scN 16 s = 0 := by simp [Bin.pr, Bin.scN]
theorem Bin.b_le {K : Bin.Ctx} {s : Bin.St} {w : World} (h : Bin.Inv K s w) (t : Int) : ((Bin.pr K).scB t s).length ≤ 140737488355328 := by
  have hl := h.len
  show (Bin.scB t s).length ≤ _
  unfold Bin.scB
  split
  · simp [strS]; omega
  · split
    · simp; omega
    · simp
theorem Bin.lT_w (K : Bin.Ctx) (s : Bin.St) : wrap64 ((Bin.pr K).lT s) = (Bin.pr K).lT s := by
  show wrap64 (listT s) = listT s
  cases s with
  | nil => simp [listT, wrap64]
  | cons b r =>
    have := b.toNat_lt
    simp only [listT, wrap64]
    omega
theorem Bin.lT_bd (K : Bin.Ctx) (s : Bin.St) : 0 ≤ (Bin.pr K).lT s ∧ (Bin.pr K).lT s ≤ 255 := by
  show 0 ≤ listT s ∧ listT s ≤ 255
  cases s with
  | nil => simp [listT]
  | cons b r => have := b.toNat_lt; simp only [listT]; omega
theorem Bin.fT_bd (K : Bin.Ctx) (s : Bin.St) : 0 ≤ (Bin.pr K).fT s ∧ (Bin.pr K).fT s ≤ 255 := by
  show 0 ≤ fieldT s ∧ fieldT s ≤ 255
  cases s with
  | nil => simp [fieldT]
  | cons b r => have := b.toNat_lt; simp only [fieldT]; omega
theorem Bin.mT_bd (K : Bin.Ctx) (s : Bin.St) : (0 ≤ (Bin.pr K).mT s ∧ (Bin.pr K).mT s ≤ 255) ∧ 0 ≤ (Bin.pr K).mKT s ∧ (Bin.pr K).mKT s ≤ 255 := by
  show (0 ≤ mapT s ∧ mapT s ≤ 255) ∧ 0 ≤ mapKT s ∧ mapKT s ≤ 255
  match s with
  | [] => simp [mapT, mapKT]
  | [_] => simp [mapT, mapKT]
  | k :: t :: _ => have := k.toNat_lt; have := t.toNat_lt; simp only [mapT, mapKT]; omega
theorem BinP.over {E : Env} {P MB B D : Nat} {a : Option Addr} {c : Cfg} {s s' : List UInt8} {w w2 w3 : World} {N : Nat → Prop} (h : BinP E P MB B D a c s w) (h2 : BinP E P MB B D a c s' w2) (k2 : Keep (MB2 P B) w w2) (k : Keep N w2 w3) (hN : ∀ i, N i → w.heap.size ≤ i) : BinP E P MB B D a c s' w3 := by
  have hP : P < w.heap.size := by obtain ⟨sc, _, hb⟩ := h.blk; exact lt_of_heap hb
  have hM : MB < w.heap.size := lt_of_cell h.mem.mb
  have hB : B < w.heap.size := h.mem.buf.lt
  have hD := h.mem.ltD
  have hE := h.glob.size
  have n1 : ∀ i, i < w.heap.size → ¬ N i := fun i hi x => by have := hN i x; omega
  refine h2.keep k (n1 _ hP) (n1 _ hM) (n1 _ hB) (n1 _ hD) (fun i x => by have := hN i x; omega) ?_
  have hc := h.cfg.weak (N := fun i => MB2 P B i ∨ N i) (fun i hi x => x.elim id (fun y => absurd y (n1 i hi)))
  exact ((hc.keep k2 (fun i x => .inl x)).keep k (fun i x => .inr x)).weak (fun i _ x => .inl x)
theorem Bin.turn {K : Bin.Ctx} {s s' : Bin.St} {w w2 w3 : World} {N : Nat → Prop} (h : Bin.Inv K s w) (k2 : Kpt (Bin.M K) w w2) (i2 : Bin.Inv K s' w2) (hk : Keep N w2 w3) (hN : ∀ i, N i → w.heap.size ≤ i ∧ ¬ Bin.M K w2 i) :
    Bin.Inv K s' w3 ∧ Kpt (Bin.M K) w w3 ∧ ∀ i, Bin.M K w3 i → Bin.M K w2 i :=
  ⟨⟨h.p.over i2.p k2.keep hk (fun i x => (hN i x).1), i2.len⟩, ⟨k2.keep.trans hk (fun i hi x => by have := (hN i x).1; omega), fun _ _ x => x⟩, fun _ x => x⟩
theorem Bin.thru {K : Bin.Ctx} {s s1 s' : Bin.St} {w w1 w2 w3 : World} {k : Int} {ev : Value} {N : Nat → Prop} (h : Bin.Inv K s w) (k1 : Kpt (Bin.M K) w w1) (_ : Bin.Inv K s1 w1) (hp : Bin.Post K w1 w2 k ev s') (hk : Keep N w2 w3) (hN : ∀ i, N i → w.heap.size ≤ i ∧ i < w1.heap.size ∧ ¬ Bin.M K w1 i) :
    Bin.Post K w w3 k ev s' ∧ ∀ i, Bin.M K w3 i → Bin.M K w2 i := by
  have hE := h.p.glob.size
  have k02 : Keep (MB2 K.P K.B) w w2 := k1.keep.then hp.keep.keep
  refine ⟨⟨(hp.err.keep hk (fun i hi x => by have := (hN i x).2; omega)).mono k1.size, fun hz => ⟨h.p.over (hp.inv hz).p k02 hk (fun i x => (hN i x).1), (hp.inv hz).len⟩, ?_, k02.trans hk (fun i hi x => by have := (hN i x).1; omega), fun _ _ x => x⟩, fun _ x => x⟩
  obtain ⟨s2, h2⟩ := hp.some
  exact ⟨s2, h.p.over h2 k02 hk (fun i x => (hN i x).1)⟩
theorem Bin.through {K : Bin.Ctx} {s s' : Bin.St} {w w1 w2 w3 : World} {k : Int} {ev : Value} {N : Nat → Prop} (h : Bin.Inv K s w) (hk0 : Keep (fun _ => False) w w1) (hp : Bin.Post K w1 w2 k ev s') (hk : Keep N w2 w3) (hN : ∀ i, N i → w.heap.size ≤ i ∧ i < w1.heap.size) : Bin.Post K w w3 k ev s' :=
  (Bin.thru h (Bin.kept h hk0) (h.fresh hk0) hp hk (fun i x => ⟨(hN i x).1, (hN i x).2, fun m => by have := Bin.M_new h hk0 i m; have := (hN i x).1; omega⟩)).1
theorem Bin.through_M {K : Bin.Ctx} {s s' : Bin.St} {w w1 w2 w3 : World} {k : Int} {ev : Value} {N : Nat → Prop} (h : Bin.Inv K s w) (hk0 : Keep (fun _ => False) w w1) (hp : Bin.Post K w1 w2 k ev s') (hk : Keep N w2 w3) (hN : ∀ i, N i → w.heap.size ≤ i ∧ i < w1.heap.size) : ∀ i, Bin.M K w3 i → Bin.M K w2 i :=
  (Bin.thru h (Bin.kept h hk0) (h.fresh hk0) hp hk (fun i x => ⟨(hN i x).1, (hN i x).2, fun m => by have := Bin.M_new h hk0 i m; have := (hN i x).1; omega⟩)).2
end Go.Proofs.YthehmlbolajljaaGreatDoor

namespace Go.Proofs.YthehmlbolajljaaGreatDoor
open Go Go.RowKit
theorem Bin.fI_bd (K : Bin.Ctx) (s : Bin.St) : -32768 ≤ (Bin.pr K).fI s ∧ (Bin.pr K).fI s ≤ 32767 := by
  show -32768 ≤ fieldI s ∧ fieldI s ≤ 32767
  cases s with
  | nil => simp [fieldI]
  | cons b r =>
    simp only [fieldI]
    split
    · omega
    · have key : ∀ n : Int, -32768 ≤ IntKind.i16.wrap n ∧ IntKind.i16.wrap n ≤ 32767 := fun n => by
        have e : IntKind.i16.wrap n = if n % 65536 ≥ 32768 then n % 65536 - 65536 else n % 65536 := by
          simp [IntKind.wrap, IntKind.bits, IntKind.signed]
        rw [e]
        split <;> omega
      exact key _
end Go.Proofs.YthehmlbolajljaaGreatDoor

namespace Go.Proofs.YthehmlbolajljaaGreatDoor
open Go Go.RowKit
abbrev Bin.rb (K : Bin.Ctx) : Rp.Base Bin.St where
  E := K.E
  T := 136
  P := K.P
  pr := Bin.pr K
  Mh h := Bin.M K { (default : World) with heap := h }
  Inv := Bin.Inv K
  Some := Bin.Some K
  fBool := 257
  fByte := 258
  fI16 := 262
  fI32 := 263
  fI64 := 264
  fDbl := 259
  fStr := 273
  fUuid := 276
  fFb := 260
  fMb := 267
  fLb := 265
  fTb := 271
  fSb := 274
  fSe := 275
  fFe := 261
  fMe := 268
  fLe := 266
  fTe := 272
theorem Bin.Post.rp {K : Bin.Ctx} {s : Bin.St} {w w' : World} {k : Int} {ev : Value} (h : Bin.Post K w w' k ev s) : Rp.Post (Bin.rb K) w w' k ev s := ⟨h.err, h.inv, h.some, h.keep⟩
theorem Bin.Post.of {K : Bin.Ctx} {s : Bin.St} {w w' : World} {k : Int} {ev : Value} (h : Rp.Post (Bin.rb K) w w' k ev s) : Bin.Post K w w' k ev s := ⟨h.err, h.inv, h.some, h.keep⟩
theorem Bin.mBool (K : Bin.Ctx) : Rp.Meth 136 K.P "ReadBool" 257 := ⟨fun w => by kernel_rfl, fun w => by kernel_rfl, fun args w => by kernel_rfl⟩
theorem Bin.mByte (K : Bin.Ctx) : Rp.Meth 136 K.P "ReadByte" 258 := ⟨fun w => by kernel_rfl, fun w => by kernel_rfl, fun args w => by kernel_rfl⟩
theorem Bin.mI16 (K : Bin.Ctx) : Rp.Meth 136 K.P "ReadI16" 262 := ⟨fun w => by kernel_rfl, fun w => by kernel_rfl, fun args w => by kernel_rfl⟩
theorem Bin.mI32 (K : Bin.Ctx) : Rp.Meth 136 K.P "ReadI32" 263 := ⟨fun w => by kernel_rfl, fun w => by kernel_rfl, fun args w => by kernel_rfl⟩
theorem Bin.mI64 (K : Bin.Ctx) : Rp.Meth 136 K.P "ReadI64" 264 := ⟨fun w => by kernel_rfl, fun w => by kernel_rfl, fun args w => by kernel_rfl⟩
theorem Bin.mDbl (K : Bin.Ctx) : Rp.Meth 136 K.P "ReadDouble" 259 := ⟨fun w => by kernel_rfl, fun w => by kernel_rfl, fun args w => by kernel_rfl⟩
theorem Bin.mStr (K : Bin.Ctx) : Rp.Meth 136 K.P "ReadString" 273 := ⟨fun w => by kernel_rfl, fun w => by kernel_rfl, fun args w => by kernel_rfl⟩
theorem Bin.mUuid (K : Bin.Ctx) : Rp.Meth 136 K.P "ReadUUID" 276 := ⟨fun w => by kernel_rfl, fun w => by kernel_rfl, fun args w => by kernel_rfl⟩
theorem Bin.mFb (K : Bin.Ctx) : Rp.Meth 136 K.P "ReadFieldBegin" 260 := ⟨fun w => by kernel_rfl, fun w => by kernel_rfl, fun args w => by kernel_rfl⟩
theorem Bin.mMb (K : Bin.Ctx) : Rp.Meth 136 K.P "ReadMapBegin" 267 := ⟨fun w => by kernel_rfl, fun w => by kernel_rfl, fun args w => by kernel_rfl⟩
theorem Bin.mLb (K : Bin.Ctx) : Rp.Meth 136 K.P "ReadListBegin" 265 := ⟨fun w => by kernel_rfl, fun w => by kernel_rfl, fun args w => by kernel_rfl⟩
theorem Bin.mTb (K : Bin.Ctx) : Rp.Meth 136 K.P "ReadSetBegin" 271 := ⟨fun w => by kernel_rfl, fun w => by kernel_rfl, fun args w => by kernel_rfl⟩
theorem Bin.mSb (K : Bin.Ctx) : Rp.Meth 136 K.P "ReadStructBegin" 274 := ⟨fun w => by kernel_rfl, fun w => by kernel_rfl, fun args w => by kernel_rfl⟩
theorem Bin.mSe (K : Bin.Ctx) : Rp.Meth 136 K.P "ReadStructEnd" 275 := ⟨fun w => by kernel_rfl, fun w => by kernel_rfl, fun args w => by kernel_rfl⟩
theorem Bin.mFe (K : Bin.Ctx) : Rp.Meth 136 K.P "ReadFieldEnd" 261 := ⟨fun w => by kernel_rfl, fun w => by kernel_rfl, fun args w => by kernel_rfl⟩
theorem Bin.mMe (K : Bin.Ctx) : Rp.Meth 136 K.P "ReadMapEnd" 268 := ⟨fun w => by kernel_rfl, fun w => by kernel_rfl, fun args w => by kernel_rfl⟩
theorem Bin.mLe (K : Bin.Ctx) : Rp.Meth 136 K.P "ReadListEnd" 266 := ⟨fun w => by kernel_rfl, fun w => by kernel_rfl, fun args w => by kernel_rfl⟩
theorem Bin.mTe (K : Bin.Ctx) : Rp.Meth 136 K.P "ReadSetEnd" 272 := ⟨fun w => by kernel_rfl, fun w => by kernel_rfl, fun args w => by kernel_rfl⟩
def Bin.rp (K : Bin.Ctx) : Rp.Ctx Bin.St where
  toBase := Bin.rb K
  ok := Bin.ok K
  fresh h k := Bin.Inv.fresh h k
  isSome h := Bin.Inv.some h
  fresh1 h k := ⟨Bin.Some.fresh (Bin.Inv.some h) k, Bin.kept h k, fun i m => Bin.M_new h k i m⟩
  lt h i m := Bin.Some.lt h i m
  glob h := Bin.Inv.glob h
  turn := Bin.turn
  thru h k1 i1 hp hk hN := let ⟨a, b⟩ := Bin.thru h k1 i1 (Bin.Post.of hp) hk hN; ⟨a.rp, b⟩
  b0 t s h1 h2 := by show Bin.scB t s = []; unfold Bin.scB; rw [if_neg h1, if_neg h2]
  n0 t s h := by rcases h with rfl | rfl; exact Bin.n11 K s; exact Bin.n16 K s
  b_le := Bin.b_le
  lT_bd := Bin.lT_bd K
  fT_bd := Bin.fT_bd K
  mT_bd := Bin.mT_bd K
  fI_bd := Bin.fI_bd K
  mBool := Bin.mBool K
  readBool h := (Bin.readBool h).mono (fun e w' r => by obtain ⟨v, ev, rfl, hp, hv⟩ := r; exact ⟨v, ev, rfl, hp.rp, hv⟩)
  mByte := Bin.mByte K
  readByte h := (Bin.readByte h).mono (fun e w' r => by obtain ⟨n, ev, rfl, hp, hv⟩ := r; exact ⟨n, ev, rfl, hp.rp, hv⟩)
  mI16 := Bin.mI16 K
  readI16 h := (Bin.readI16 h).mono (fun e w' r => by obtain ⟨n, ev, rfl, hp, hv⟩ := r; exact ⟨n, ev, rfl, hp.rp, hv⟩)
  mI32 := Bin.mI32 K
  readI32 h := (Bin.readI32 h).mono (fun e w' r => by obtain ⟨n, ev, rfl, hp, hv⟩ := r; exact ⟨n, ev, rfl, hp.rp, hv⟩)
  mI64 := Bin.mI64 K
  readI64 h := (Bin.readI64 h).mono (fun e w' r => by obtain ⟨n, ev, rfl, hp, hv⟩ := r; exact ⟨n, ev, rfl, hp.rp, hv⟩)
  mDbl := Bin.mDbl K
  readDouble h := (Bin.readDouble h).mono (fun e w' r => by obtain ⟨n, ev, rfl, hp, hv⟩ := r; exact ⟨n, ev, rfl, hp.rp, hv⟩)
  mStr := Bin.mStr K
  readString h := (Bin.readString h).mono (fun e w' r => by obtain ⟨l, ev, rfl, hp, hv⟩ := r; exact ⟨l, ev, rfl, hp.rp, hv⟩)
  mUuid := Bin.mUuid K
  readUUID h := (Bin.readUUID h).mono (fun e w' r => by obtain ⟨l, ev, rfl, hp, hv⟩ := r; exact ⟨l, ev, rfl, hp.rp, hv⟩)
  mFb := Bin.mFb K
  readFieldBegin h := (Bin.readFieldBegin h).mono (fun e w' r => by obtain ⟨l, t, id, ev, rfl, hp, hv⟩ := r; exact ⟨l, t, id, ev, rfl, hp.rp, hv⟩)
  mMb := Bin.mMb K
  readMapBegin h := (Bin.readMapBegin h).mono (fun e w' r => by obtain ⟨kt, t, n, ev, rfl, hp, hv⟩ := r; exact ⟨kt, t, n, ev, rfl, hp.rp, hv⟩)
  mLb := Bin.mLb K
  readListBegin h := (Bin.readListBegin h).mono (fun e w' r => by obtain ⟨t, n, ev, rfl, hp, hv⟩ := r; exact ⟨t, n, ev, rfl, hp.rp, hv⟩)
  mTb := Bin.mTb K
  readSetBegin h := (Bin.readSetBegin h).mono (fun e w' r => by obtain ⟨t, n, ev, rfl, hp, hv⟩ := r; exact ⟨t, n, ev, rfl, hp.rp, hv⟩)
  mSb := Bin.mSb K
  readStructBegin h d := (Bin.readStructBegin h d).mono (fun e w' r => by obtain ⟨l, rfl, hp⟩ := r; exact ⟨l, rfl, hp.rp⟩)
  mSe := Bin.mSe K
  readStructEnd h d := (Bin.readStructEnd h d).mono (fun e w' r => by obtain ⟨rfl, hp⟩ := r; exact ⟨rfl, hp.rp⟩)
  mFe := Bin.mFe K
  readFieldEnd h := (Bin.readFieldEnd h).mono (fun e w' r => by obtain ⟨rfl, hp⟩ := r; exact ⟨rfl, hp.rp⟩)
  mMe := Bin.mMe K
  readMapEnd h := (Bin.readMapEnd h).mono (fun e w' r => by obtain ⟨rfl, hp⟩ := r; exact ⟨rfl, hp.rp⟩)
  mLe := Bin.mLe K
  readListEnd h := (Bin.readListEnd h).mono (fun e w' r => by obtain ⟨rfl, hp⟩ := r; exact ⟨rfl, hp.rp⟩)
  mTe := Bin.mTe K
  readSetEnd h := (Bin.readSetEnd h).mono (fun e w' r => by obtain ⟨rfl, hp⟩ := r; exact ⟨rfl, hp.rp⟩)
end Go.Proofs.YthehmlbolajljaaGreatDoor

namespace Go.Proofs.YthehmlbolajljaaGreatDoor
open Go Go.RowKit
theorem bin_inv {E : Env} {w2 w3 : World} {MB B D P : Nat} {a : Option Addr} {c : Cfg} {l : List UInt8} (hg : Glob E w2) (hm : Mem E w2 MB B D l) (hP : w2.heap.size ≤ P) (hPb : w3.heap[P]? = some (binO MB a))
    (hcfg : CfgAt (fun i => i < w2.heap.size ∨ P ≤ i) w3 a c) (hk : Keep (fun _ => False) w2 w3) (hc : c.ok) (hl : l.length ≤ 140737488355328) : Bin.Inv ⟨E, P, MB, B, D, a, c⟩ l w3 := by
  have h1 : MB < w2.heap.size := lt_of_cell hm.mb
  have h2 : B < w2.heap.size := hm.buf.lt
  have h3 := hm.ltD
  have h4 := hg.size
  have h5 : BinP E P MB B D a c l w3 := by
    refine ⟨⟨List.replicate 64 0, by simp, hPb⟩, hm.keep hk id id id, hg.keep hk (fun _ x => x.elim), hcfg.weak (fun i hi h => ?_), hc, by omega, by omega, by omega, by omega⟩
    rcases h with h | h <;> omega
  exact ⟨h5, hl⟩
end Go.Proofs.YthehmlbolajljaaGreatDoor

namespace Go.Proofs.YthehmlbolajljaaGreatDoor
open Go Go.RowKit
inductive V where
  | mk (T N : Int) (S : List UInt8) (K E : Int) (IDs : List Int) (L : List V)
def IntsAt (A : Nat → Prop) (w : World) (v : Value) (l : List Int) : Prop :=
  (l = [] ∧ ∃ a c, v = .slice a 0 c) ∨ (l ≠ [] ∧ ∃ D o c, v = .slice (some ⟨D, o, none⟩) l.length c ∧ l.length ≤ c ∧ l.length ≤ 140737488355328 ∧ A D ∧ ∀ j b, l[j]? = some b → w.cell? ⟨D, o + j, none⟩ = some (.int .i64 b))
theorem IntsAt.keep {A M : Nat → Prop} {w w' : World} {v : Value} {l : List Int} (h : IntsAt A w v l) (k : Keep M w w') (hM : ∀ i, A i → ¬ M i) : IntsAt A w' v l := by
  rcases h with h | ⟨hne, D, o, c, rfl, h1, h2, h3, h4⟩
  · exact .inl h
  · exact .inr ⟨hne, D, o, c, rfl, h1, h2, h3, fun j b hj => (k.cell (p := ⟨D, o + j, none⟩) (lt_of_cell (p := ⟨D, o + j, none⟩) (h4 j b hj)) (hM _ h3)).trans (h4 j b hj)⟩
theorem IntsAt.weak {A A' : Nat → Prop} {w : World} {v : Value} {l : List Int} (h : IntsAt A w v l) (hA : ∀ i, i < w.heap.size → A i → A' i) : IntsAt A' w v l := by
  rcases h with h | ⟨hne, D, o, c, rfl, h1, h2, h3, h4⟩
  · exact .inl h
  · refine .inr ⟨hne, D, o, c, rfl, h1, h2, hA _ ?_ h3, h4⟩
    cases l with
    | nil => exact absurd rfl hne
    | cons x r => exact lt_of_cell (h4 0 x rfl)
def ValAt : Nat → (Nat → Prop) → World → List Value → V → Prop
  | 0, _, _, _, _ => False
  | d + 1, A, w, cs, .mk T N S K E IDs L => ∃ sv iv lv, cs = (valC T N sv K E iv lv).toList ∧ BytesAt A w sv S ∧ IntsAt A w iv IDs ∧
      ((L = [] ∧ ∃ a c, lv = .slice a 0 c) ∨ (L ≠ [] ∧ ∃ D o c, lv = .slice (some ⟨D, o, none⟩) L.length c ∧ (L.length ≤ c ∧ c ≤ 9223372036854775807) ∧ A D ∧
        ∀ j x, L[j]? = some x → ∃ cs', ValAt d A w cs' x ∧ ∀ i v, cs'[i]? = some v → w.cell? ⟨D, o + (j * 7 + i), none⟩ = some v))
theorem ValAt.len {A : Nat → Prop} {w : World} {cs : List Value} {x : V} : ∀ {d : Nat}, ValAt d A w cs x → cs.length = 7
  | 0, h => h.elim
  | d + 1, h => by
    cases x with
    | mk T N S K E IDs L =>
      obtain ⟨sv, iv, lv, rfl, _⟩ := h
      rfl
theorem ValAt.keep {A M : Nat → Prop} {w w' : World} (k : Keep M w w') (hM : ∀ i, A i → ¬ M i) : ∀ {d : Nat} {cs : List Value} {x : V}, ValAt d A w cs x → ValAt d A w' cs x
  | 0, _, _, h => h.elim
  | d + 1, cs, x, h => by
    cases x with
    | mk T N S K E IDs L =>
      obtain ⟨sv, iv, lv, rfl, h1, h2, h3⟩ := h
      refine ⟨sv, iv, lv, rfl, h1.keep k hM, h2.keep k hM, ?_⟩
      rcases h3 with h3 | ⟨hne, D, o, c, rfl, e1, e2, e3⟩
      · exact .inl h3
      · refine .inr ⟨hne, D, o, c, rfl, e1, e2, fun j y hj => ?_⟩
        obtain ⟨cs', hv, hc⟩ := e3 j y hj
        exact ⟨cs', ValAt.keep k hM hv, fun i v hi => (k.cell (p := ⟨D, o + (j * 7 + i), none⟩) (lt_of_cell (p := ⟨D, o + (j * 7 + i), none⟩) (hc i v hi)) (hM _ e2)).trans (hc i v hi)⟩
theorem ValAt.weak {A A' : Nat → Prop} {w : World} (hA : ∀ i, i < w.heap.size → A i → A' i) : ∀ {d : Nat} {cs : List Value} {x : V}, ValAt d A w cs x → ValAt d A' w cs x
  | 0, _, _, h => h.elim
  | d + 1, cs, x, h => by
    cases x with
    | mk T N S K E IDs L =>
      obtain ⟨sv, iv, lv, rfl, h1, h2, h3⟩ := h
      refine ⟨sv, iv, lv, rfl, h1.weak hA, h2.weak hA, ?_⟩
      rcases h3 with h3 | ⟨hne, D, o, c, rfl, e1, e2, e3⟩
      · exact .inl h3
      · cases L with
        | nil => exact absurd rfl hne
        | cons x0 r =>
          obtain ⟨cs0, hv0, hc0⟩ := e3 0 x0 rfl
          have hl := hv0.len
          have hD : D < w.heap.size := lt_of_cell (hc0 0 (cs0[0]'(by omega)) (List.getElem?_eq_getElem _))
          refine .inr ⟨hne, D, o, c, rfl, e1, hA _ hD e2, fun j y hj => ?_⟩
          obtain ⟨cs', hv, hc⟩ := e3 j y hj
          exact ⟨cs', ValAt.weak hA hv, hc⟩
end Go.Proofs.YthehmlbolajljaaGreatDoor

namespace Go.Proofs.YthehmlbolajljaaGreatDoor
open Go Go.RowKit
def V.zero : V := .mk 0 0 [] 0 0 [] []
section
variable {σ : Type}
def gseq (f : σ → Int × σ × V) : Nat → σ → List V → Int × σ × List V
  | 0, s, l => (0, s, l)
  | n + 1, s, l => if (f s).1 = 0 then gseq f n (f s).2.1 (l ++ [(f s).2.2]) else ((f s).1, (f s).2.1, l)
def gpairs (f g : σ → Int × σ × V) : Nat → σ → List V → Int × σ × List V
  | 0, s, l => (0, s, l)
  | n + 1, s, l => if (f s).1 = 0 then (if (g (f s).2.1).1 = 0 then gpairs f g n (g (f s).2.1).2.1 (l ++ [(f s).2.2] ++ [(g (f s).2.1).2.2]) else ((g (f s).2.1).1, (g (f s).2.1).2.1, l)) else ((f s).1, (f s).2.1, l)
def gflds (p : Pr σ) (f : Int → σ → Int × σ × V) : Nat → σ → List Int → List V → Int × σ × V
  | 0, s, ids, l => (0, s, .mk 12 0 [] 0 0 ids l)
  | n + 1, s, ids, l =>
    if p.fK s = 0 then
      (if p.fT s = 0 then (0, p.seS (p.fS s), .mk 12 0 [] 0 0 ids l)
       else if (f (p.fT s) (p.fS s)).1 = 0 then gflds p f n (p.feS (f (p.fT s) (p.fS s)).2.1) (ids ++ [p.fI s]) (l ++ [(f (p.fT s) (p.fS s)).2.2])
       else ((f (p.fT s) (p.fS s)).1, (f (p.fT s) (p.fS s)).2.1, V.zero))
    else (p.fK s, p.fS s, V.zero)
def gend (g : σ → σ) (mk : List V → V) (r : Int × σ × List V) : Int × σ × V := if r.1 = 0 then (0, g r.2.1, mk r.2.2) else (r.1, r.2.1, V.zero)
def gt (p : Pr σ) : Nat → Int → σ → Int × σ × V
  | 0, _, s => (50, s, V.zero)
  | d + 1, t, s =>
    if isSc t = true then (p.scK t s, p.scS t s, .mk t (p.scN t s) (p.scB t s) 0 0 [] [])
    else if t = 12 then gflds p (gt p d) (p.len (p.sbS s) + 1) (p.sbS s) [] []
    else if t = 13 then
      (if p.mK s = 0 then (if p.mN s > 100000 then (52, p.mS s, V.zero) else gend p.meS (fun l => .mk 13 0 [] (p.mKT s) (p.mT s) [] l) (gpairs (gt p d (p.mKT s)) (gt p d (p.mT s)) (p.mN s).toNat (p.mS s) []))
       else (p.mK s, p.mS s, V.zero))
    else if t = 14 ∨ t = 15 then
      (if p.lK s = 0 then (if p.lN s > 100000 then (52, p.lS s, V.zero) else gend p.leS (fun l => .mk t 0 [] 0 (p.lT s) [] l) (gseq (gt p d (p.lT s)) (p.lN s).toNat (p.lS s) []))
       else (p.lK s, p.lS s, V.zero))
    else (51, s, V.zero)
theorem gseq_len (len : σ → Nat) (f : σ → Int × σ × V) (hf : ∀ s, (f s).1 = 0 → len (f s).2.1 ≤ len s) : ∀ n s l, (gseq f n s l).1 = 0 → len (gseq f n s l).2.1 ≤ len s := by
  intro n
  induction n with
  | zero => intro s l _; exact Nat.le_refl _
  | succ n ih =>
    intro s l h
    simp only [gseq] at h ⊢
    by_cases h0 : (f s).1 = 0
    · rw [if_pos h0] at h ⊢
      exact Nat.le_trans (ih _ _ h) (hf s h0)
    · rw [if_neg h0] at h; exact absurd h h0
theorem gpairs_len (len : σ → Nat) (f g : σ → Int × σ × V) (hf : ∀ s, (f s).1 = 0 → len (f s).2.1 ≤ len s) (hg : ∀ s, (g s).1 = 0 → len (g s).2.1 ≤ len s) : ∀ n s l, (gpairs f g n s l).1 = 0 → len (gpairs f g n s l).2.1 ≤ len s := by
  intro n
  induction n with
  | zero => intro s l _; exact Nat.le_refl _
  | succ n ih =>
    intro s l h
    simp only [gpairs] at h ⊢
    by_cases h0 : (f s).1 = 0
    · rw [if_pos h0] at h ⊢
      by_cases h1 : (g (f s).2.1).1 = 0
      · rw [if_pos h1] at h ⊢
        exact Nat.le_trans (ih _ _ h) (Nat.le_trans (hg _ h1) (hf s h0))
      · rw [if_neg h1] at h; exact absurd h h1
    · rw [if_neg h0] at h; exact absurd h h0
theorem gflds_len {p : Pr σ} (ok : p.Ok) (f : Int → σ → Int × σ × V) (hf : ∀ t s, (f t s).1 = 0 → p.len (f t s).2.1 ≤ p.len s) : ∀ n s ids l, (gflds p f n s ids l).1 = 0 → p.len (gflds p f n s ids l).2.1 ≤ p.len s := by
  intro n
  induction n with
  | zero => intro s ids l _; exact Nat.le_refl _
  | succ n ih =>
    intro s ids l h
    simp only [gflds] at h ⊢
    by_cases h0 : p.fK s = 0
    · have h1 := ok.f s h0
      rw [if_pos h0] at h ⊢
      by_cases h2 : p.fT s = 0
      · rw [if_pos h2]
        exact Nat.le_trans (ok.se _) (Nat.le_of_lt h1)
      · rw [if_neg h2] at h ⊢
        by_cases h3 : (f (p.fT s) (p.fS s)).1 = 0
        · rw [if_pos h3] at h ⊢
          exact Nat.le_trans (ih _ _ _ h) (Nat.le_trans (ok.fe _) (Nat.le_trans (hf _ _ h3) (Nat.le_of_lt h1)))
        · rw [if_neg h3] at h; exact absurd h h3
    · rw [if_neg h0] at h; exact absurd h h0
theorem gend_len (len : σ → Nat) (g : σ → σ) (mk : List V → V) (hg : ∀ s, len (g s) ≤ len s) (r : Int × σ × List V) (h : (gend g mk r).1 = 0) : r.1 = 0 ∧ len (gend g mk r).2.1 ≤ len r.2.1 := by
  unfold gend at h ⊢
  by_cases h0 : r.1 = 0
  · rw [if_pos h0]; exact ⟨h0, hg _⟩
  · rw [if_neg h0] at h; exact absurd h h0
theorem gt_len {p : Pr σ} (ok : p.Ok) : ∀ d t s, (gt p d t s).1 = 0 → p.len (gt p d t s).2.1 ≤ p.len s := by
  intro d
  induction d with
  | zero => intro t s h; simp [gt] at h
  | succ d ih =>
    intro t s h
    simp only [gt] at h ⊢
    split at h
    · rename_i h1; rw [if_pos h1]; exact ok.sc _ _
    · rename_i h1
      rw [if_neg h1]
      split at h
      · rename_i h2; rw [if_pos h2]; exact Nat.le_trans (gflds_len ok _ ih _ _ _ _ h) (ok.sb s)
      · rename_i h2
        rw [if_neg h2]
        split at h
        · rename_i h3; rw [if_pos h3]
          by_cases h4 : p.mK s = 0
          · rw [if_pos h4] at h ⊢
            by_cases h7 : p.mN s > 100000
            · rw [if_pos h7] at h; exact absurd h (show ¬ (52 : Int) = 0 by decide)
            · rw [if_neg h7] at h ⊢
              obtain ⟨h5, h6⟩ := gend_len p.len _ _ ok.me _ h
              exact Nat.le_trans h6 (Nat.le_trans (gpairs_len p.len _ _ (ih _) (ih _) _ _ _ h5) (Nat.le_of_lt (ok.m s h4)))
          · rw [if_neg h4] at h; exact absurd h h4
        · rename_i h3
          rw [if_neg h3]
          split at h
          · rename_i h3; rw [if_pos h3]
            by_cases h4 : p.lK s = 0
            · rw [if_pos h4] at h ⊢
              by_cases h7 : p.lN s > 100000
              · rw [if_pos h7] at h; exact absurd h (show ¬ (52 : Int) = 0 by decide)
              · rw [if_neg h7] at h ⊢
                obtain ⟨h5, h6⟩ := gend_len p.len _ _ ok.le _ h
                exact Nat.le_trans h6 (Nat.le_trans (gseq_len p.len _ (ih _) _ _ _ h5) (Nat.le_of_lt (ok.l s h4)))
            · rw [if_neg h4] at h; exact absurd h h4
          · simp at h
theorem gseq_dep (dep : σ → Nat) (f : σ → Int × σ × V) (hf : ∀ s, (f s).1 = 0 → dep (f s).2.1 = dep s) : ∀ n s l, (gseq f n s l).1 = 0 → dep (gseq f n s l).2.1 = dep s := by
  intro n
  induction n with
  | zero => intro s l _; rfl
  | succ n ih =>
    intro s l h
    simp only [gseq] at h ⊢
    by_cases h0 : (f s).1 = 0
    · rw [if_pos h0] at h ⊢
      exact (ih _ _ h).trans (hf s h0)
    · rw [if_neg h0] at h; exact absurd h h0
theorem gpairs_dep (dep : σ → Nat) (f g : σ → Int × σ × V) (hf : ∀ s, (f s).1 = 0 → dep (f s).2.1 = dep s) (hg : ∀ s, (g s).1 = 0 → dep (g s).2.1 = dep s) : ∀ n s l, (gpairs f g n s l).1 = 0 → dep (gpairs f g n s l).2.1 = dep s := by
  intro n
  induction n with
  | zero => intro s l _; rfl
  | succ n ih =>
    intro s l h
    simp only [gpairs] at h ⊢
    by_cases h0 : (f s).1 = 0
    · rw [if_pos h0] at h ⊢
      by_cases h1 : (g (f s).2.1).1 = 0
      · rw [if_pos h1] at h ⊢
        exact (ih _ _ h).trans ((hg _ h1).trans (hf s h0))
      · rw [if_neg h1] at h; exact absurd h h1
    · rw [if_neg h0] at h; exact absurd h h0
theorem gflds_dep {p : Pr σ} (ok : p.Ok) (f : Int → σ → Int × σ × V) (hl : ∀ t s, (f t s).1 = 0 → p.len (f t s).2.1 ≤ p.len s) (hf : ∀ t s, (f t s).1 = 0 → p.dep (f t s).2.1 = p.dep s) :
    ∀ n s ids l, p.len s < n → p.one ≤ p.dep s → (gflds p f n s ids l).1 = 0 → p.dep (gflds p f n s ids l).2.1 + p.one = p.dep s := by
  intro n
  induction n with
  | zero => intro s ids l hn; exact absurd hn (Nat.not_lt_zero _)
  | succ n ih =>
    intro s ids l hn ho h
    simp only [gflds] at h ⊢
    by_cases h0 : p.fK s = 0
    · have h1 := ok.f s h0
      have e1 := ok.df s h0
      rw [if_pos h0] at h ⊢
      by_cases h2 : p.fT s = 0
      · rw [if_pos h2]
        show p.dep (p.seS (p.fS s)) + p.one = _
        rw [ok.dse _ (by rw [e1]; exact ho), e1]
      · rw [if_neg h2] at h ⊢
        by_cases h3 : (f (p.fT s) (p.fS s)).1 = 0
        · rw [if_pos h3] at h ⊢
          have e2 := hf _ _ h3
          have e3 := hl _ _ h3
          have e4 := ok.fe (f (p.fT s) (p.fS s)).2.1
          have e5 := ok.dfe (f (p.fT s) (p.fS s)).2.1
          rw [ih _ _ _ (by omega) (by rw [e5, e2, e1]; exact ho) h, e5, e2, e1]
        · rw [if_neg h3] at h; exact absurd h h3
    · rw [if_neg h0] at h; exact absurd h h0
theorem gend_dep (dep : σ → Nat) (g : σ → σ) (mk : List V → V) (hg : ∀ s, dep (g s) = dep s) (r : Int × σ × List V) (h : (gend g mk r).1 = 0) : r.1 = 0 ∧ dep (gend g mk r).2.1 = dep r.2.1 := by
  unfold gend at h ⊢
  by_cases h0 : r.1 = 0
  · rw [if_pos h0]; exact ⟨h0, hg _⟩
  · rw [if_neg h0] at h; exact absurd h h0
theorem gt_dep {p : Pr σ} (ok : p.Ok) : ∀ d t s, (gt p d t s).1 = 0 → p.dep (gt p d t s).2.1 = p.dep s := by
  intro d
  induction d with
  | zero => intro t s h; simp [gt] at h
  | succ d ih =>
    intro t s h
    simp only [gt] at h ⊢
    split at h
    · rename_i h1; rw [if_pos h1]; exact ok.dsc _ _ h
    · rename_i h1
      rw [if_neg h1]
      split at h
      · rename_i h2; rw [if_pos h2]
        have e1 := gflds_dep ok _ (gt_len ok d) ih _ _ _ _ (Nat.lt_succ_self _) (by rw [ok.dsb s]; omega) h
        rw [ok.dsb s] at e1
        exact Nat.add_right_cancel e1
      · rename_i h2
        rw [if_neg h2]
        split at h
        · rename_i h3; rw [if_pos h3]
          by_cases h4 : p.mK s = 0
          · rw [if_pos h4] at h ⊢
            by_cases h7 : p.mN s > 100000
            · rw [if_pos h7] at h; exact absurd h (show ¬ (52 : Int) = 0 by decide)
            · rw [if_neg h7] at h ⊢
              obtain ⟨h5, h6⟩ := gend_dep p.dep _ _ ok.dme _ h
              exact h6.trans ((gpairs_dep p.dep _ _ (ih _) (ih _) _ _ _ h5).trans (ok.dm s h4))
          · rw [if_neg h4] at h; exact absurd h h4
        · rename_i h3
          rw [if_neg h3]
          split at h
          · rename_i h3; rw [if_pos h3]
            by_cases h4 : p.lK s = 0
            · rw [if_pos h4] at h ⊢
              by_cases h7 : p.lN s > 100000
              · rw [if_pos h7] at h; exact absurd h (show ¬ (52 : Int) = 0 by decide)
              · rw [if_neg h7] at h ⊢
                obtain ⟨h5, h6⟩ := gend_dep p.dep _ _ ok.dle _ h
                exact h6.trans ((gseq_dep p.dep _ (ih _) _ _ _ h5).trans (ok.dl s h4))
            · rw [if_neg h4] at h; exact absurd h h4
          · simp at h
end
end Go.Proofs.YthehmlbolajljaaGreatDoor

namespace Go.Proofs.YthehmlbolajljaaGreatDoor
open Go Go.RowKit
def msgR {σ : Type} (p : Pr σ) (k : Int) (d : Nat) (s1 : σ) : Int × σ × V := if k = 0 then gt p d 12 s1 else (k, s1, V.zero)
end Go.Proofs.YthehmlbolajljaaGreatDoor

namespace Go.Proofs.YthehmlbolajljaaGreatDoor
open Go Go.RowKit
def Rp.BegP {St : Type} (K : Rp.Ctx St) (w : World) (s : St) (e : Ending) (w' : World) : Prop :=
  ∃ t n ev, e = .returned (.tuple #[gotV 0 t 0 n 0 0 nilB, ev]) ∧ Rp.Post K w w' (K.pr.lK s) ev (K.pr.lS s) ∧ (K.pr.lK s = 0 → t = K.pr.lT s ∧ n = K.pr.lN s)
set_option maxRecDepth 100000 in
set_option maxHeartbeats 2000000 in
theorem Rp.begun9 {St : Type} (K : Rp.Ctx St) (s : St) (w : World) (h : K.Inv s w) :
    Calls Tryz.prog 85 #[K.V, .agg (stepI 9)] w (Rp.BegP K w s) := by
  obtain ⟨hnam, hna, hnac⟩ := K.mLb
  have hk0 : Keep (fun _ => False) w (((w.alloc (.cells (stepI 9) 95 (0, 0))).alloc (.cells zGot 139 (0, 0))).alloc (.cells zGot 139 (0, 0))) := (((Keep.refl _ w).alloc _).alloc _).alloc _
  have hR0 : (((w.alloc (.cells (stepI 9) 95 (0, 0))).alloc (.cells zGot 139 (0, 0))).alloc (.cells zGot 139 (0, 0))).heap[w.heap.size + 1]? = some (.cells zGot 139 (0, 0)) := (Below.heap_alloc _ _ _ (by simp)).trans (heap_alloc_at (by simp) _)
  have hG0 : (((w.alloc (.cells (stepI 9) 95 (0, 0))).alloc (.cells zGot 139 (0, 0))).alloc (.cells zGot 139 (0, 0))).heap[w.heap.size + 1 + 1]? = some (.cells zGot 139 (0, 0)) := heap_alloc_at (by simp) _
  have hs0 : (((w.alloc (.cells (stepI 9) 95 (0, 0))).alloc (.cells zGot 139 (0, 0))).alloc (.cells zGot 139 (0, 0))).heap.size = w.heap.size + 3 := by simp
  go_enter Tryz.func85, Tryz.ntmps85
  go_wp2_with fail
  obtain ⟨n0, hn⟩ : ∃ n0, w.heap.size = n0 := ⟨_, rfl⟩
  rw [hn] at hR0 hG0 hs0 ⊢
  generalize ((w.alloc (.cells (stepI 9) 95 (0, 0))).alloc (.cells zGot 139 (0, 0))).alloc (.cells zGot 139 (0, 0)) = w1 at *
  have HN := Lib.hid hn
  have HR := Lib.hid hR0
  have HG := Lib.hid hG0
  have HS := Lib.hid hs0
  have HM := Lib.hid (Rp.M_new h hk0)
  obtain ⟨u0, u1, u2, u3, u4, u5, u6⟩ := got_cells hG0
  obtain ⟨f0, f1, f2, f3, f4, f5, f6⟩ := got_free hG0
  clear hn hR0 hG0 hs0
  go_region_with (first | (go_at_call 28; refine (ctx_at _).mono ?_; rintro e w' ⟨rfl, rfl⟩) | (refine (K.readListBegin (w := w1.drew) (h.fresh hk0.drew)).mono ?_; rintro e w2 ⟨t, n, ev, rfl, hp, hv⟩; have HP := Lib.hid hp; have HV := Lib.hid hv; have HG2 := Lib.hid ((hp.keep.block (n0 + 1 + 1) (by simpa using lt_of_heap HG.out) (fun x => by have := HM.out _ x; have := HN.out; omega)).trans HG.out); clear hp hv; obtain ⟨x0, x1, x2, x3, x4, x5, x6⟩ := got_cells HG2.out; obtain ⟨y0, y1, y2, y3, y4, y5, y6⟩ := got_free HG2.out))
  all_goals
    have hG3 := heap_set_same (i := 3) HG2.out (.int .i64 n)
    have hk3 : Keep (fun i => n0 ≤ i ∧ i < n0 + 3) w2 (w2.setCell ⟨n0 + 1 + 1, 3, none⟩ (.int .i64 n)) := (Keep.refl _ w2).set (n0 + 1 + 1) 3 (fun _ => by omega) _
    have hR3 : (w2.setCell ⟨n0 + 1 + 1, 3, none⟩ (.int .i64 n)).heap[n0 + 1]? = some (.cells zGot 139 (0, 0)) := (heap_set_other (p := ⟨n0 + 1 + 1, 3, none⟩) _ (by simp)).trans ((HP.out.keep.block (n0 + 1) (by simpa using lt_of_heap HR.out) (fun x => by have := HM.out _ x; have := HN.out; omega)).trans HR.out)
    clear x0 x1 x2 x3 x4 x5 x6 y0 y1 y2 y3 y4 y5 y6 u0 u1 u2 u3 u4 u5 u6 f0 f1 f2 f3 f4 f5 f6
    generalize w2.setCell ⟨n0 + 1 + 1, 3, none⟩ (.int .i64 n) = w3 at *
    have hG4 : w3.heap[n0 + 1 + 1]? = some (.cells (gotA 0 0 0 n 0 0 nilB) 139 (0, 0)) := hG3
    obtain ⟨x0, x1, x2, x3, x4, x5, x6⟩ := got_cells hG4
    obtain ⟨y0, y1, y2, y3, y4, y5, y6⟩ := got_free hG4
    obtain ⟨r0, r1, r2, r3, r4, r5, r6⟩ := got_cells hR3
    obtain ⟨z0, z1, z2, z3, z4, z5, z6⟩ := got_free hR3
    have HG4 := Lib.hid hG4
    have HR3 := Lib.hid hR3
    clear hG3 hG4 hR3
    go_wp2_with fail
    have hn0 := HN.out
    have hs1 := HS.out
    have hR4 : ((w3.setCell ⟨n0 + 1 + 1, 1, none⟩ (.int .i64 (wrap64 t))).setCell ⟨n0 + 1 + 1, 2, none⟩ (.int .i64 0)).heap[n0 + 1]? = some (.cells zGot 139 (0, 0)) := (heap_set_other (p := ⟨n0 + 1 + 1, 2, none⟩) _ (by simp)).trans ((heap_set_other (p := ⟨n0 + 1 + 1, 1, none⟩) _ (by simp)).trans HR3.out)
    have hkN : Keep (fun i => n0 ≤ i ∧ i < n0 + 3) w2 ((w3.setCell ⟨n0 + 1 + 1, 1, none⟩ (.int .i64 (wrap64 t))).setCell ⟨n0 + 1 + 1, 2, none⟩ (.int .i64 0)) := (hk3.set (n0 + 1 + 1) 1 (fun _ => by omega) _).set (n0 + 1 + 1) 2 (fun _ => by omega) _
    have hkW := got_keep hkN (U := n0 + 1) (fun _ => by omega) 0 (wrap64 t) 0 n 0 0 nilB
    refine ret_cell2 (U := n0 + 1) (T := 139) Tryz.results85 rfl rfl rfl (got_set hR4 _ _ _ _ _ _ _) Tryz.underlying139 igot_size ?_
    refine ⟨wrap64 t, n, ev, rfl, Rp.through h hk0.drew HP.out hkW (fun i hi => by simp; omega), fun hz => ?_⟩
    obtain ⟨e1, e2⟩ := HV.out hz
    exact ⟨by rw [e1]; exact Rp.lT_w K s, e2⟩
set_option maxRecDepth 100000 in
set_option maxHeartbeats 2000000 in
theorem Rp.begun11 {St : Type} (K : Rp.Ctx St) (s : St) (w : World) (h : K.Inv s w) :
    Calls Tryz.prog 85 #[K.V, .agg (stepI 11)] w (Rp.BegP K w s) := by
  obtain ⟨hnam, hna, hnac⟩ := K.mTb
  have hk0 : Keep (fun _ => False) w (((w.alloc (.cells (stepI 11) 95 (0, 0))).alloc (.cells zGot 139 (0, 0))).alloc (.cells zGot 139 (0, 0))) := (((Keep.refl _ w).alloc _).alloc _).alloc _
  have hR0 : (((w.alloc (.cells (stepI 11) 95 (0, 0))).alloc (.cells zGot 139 (0, 0))).alloc (.cells zGot 139 (0, 0))).heap[w.heap.size + 1]? = some (.cells zGot 139 (0, 0)) := (Below.heap_alloc _ _ _ (by simp)).trans (heap_alloc_at (by simp) _)
  have hG0 : (((w.alloc (.cells (stepI 11) 95 (0, 0))).alloc (.cells zGot 139 (0, 0))).alloc (.cells zGot 139 (0, 0))).heap[w.heap.size + 1 + 1]? = some (.cells zGot 139 (0, 0)) := heap_alloc_at (by simp) _
  have hs0 : (((w.alloc (.cells (stepI 11) 95 (0, 0))).alloc (.cells zGot 139 (0, 0))).alloc (.cells zGot 139 (0, 0))).heap.size = w.heap.size + 3 := by simp
  go_enter Tryz.func85, Tryz.ntmps85
  go_wp2_with fail
  obtain ⟨n0, hn⟩ : ∃ n0, w.heap.size = n0 := ⟨_, rfl⟩
  rw [hn] at hR0 hG0 hs0 ⊢
  generalize ((w.alloc (.cells (stepI 11) 95 (0, 0))).alloc (.cells zGot 139 (0, 0))).alloc (.cells zGot 139 (0, 0)) = w1 at *
  have HN := Lib.hid hn
  have HR := Lib.hid hR0
  have HG := Lib.hid hG0
  have HS := Lib.hid hs0
  have HM := Lib.hid (Rp.M_new h hk0)
  obtain ⟨u0, u1, u2, u3, u4, u5, u6⟩ := got_cells hG0
  obtain ⟨f0, f1, f2, f3, f4, f5, f6⟩ := got_free hG0
  clear hn hR0 hG0 hs0
  go_region_with (first | (go_at_call 28; refine (ctx_at _).mono ?_; rintro e w' ⟨rfl, rfl⟩) | (refine (K.readSetBegin (w := w1.drew) (h.fresh hk0.drew)).mono ?_; rintro e w2 ⟨t, n, ev, rfl, hp, hv⟩; have HP := Lib.hid hp; have HV := Lib.hid hv; have HG2 := Lib.hid ((hp.keep.block (n0 + 1 + 1) (by simpa using lt_of_heap HG.out) (fun x => by have := HM.out _ x; have := HN.out; omega)).trans HG.out); clear hp hv; obtain ⟨x0, x1, x2, x3, x4, x5, x6⟩ := got_cells HG2.out; obtain ⟨y0, y1, y2, y3, y4, y5, y6⟩ := got_free HG2.out))
  all_goals
    have hG3 := heap_set_same (i := 3) HG2.out (.int .i64 n)
    have hk3 : Keep (fun i => n0 ≤ i ∧ i < n0 + 3) w2 (w2.setCell ⟨n0 + 1 + 1, 3, none⟩ (.int .i64 n)) := (Keep.refl _ w2).set (n0 + 1 + 1) 3 (fun _ => by omega) _
    have hR3 : (w2.setCell ⟨n0 + 1 + 1, 3, none⟩ (.int .i64 n)).heap[n0 + 1]? = some (.cells zGot 139 (0, 0)) := (heap_set_other (p := ⟨n0 + 1 + 1, 3, none⟩) _ (by simp)).trans ((HP.out.keep.block (n0 + 1) (by simpa using lt_of_heap HR.out) (fun x => by have := HM.out _ x; have := HN.out; omega)).trans HR.out)
    clear x0 x1 x2 x3 x4 x5 x6 y0 y1 y2 y3 y4 y5 y6 u0 u1 u2 u3 u4 u5 u6 f0 f1 f2 f3 f4 f5 f6
    generalize w2.setCell ⟨n0 + 1 + 1, 3, none⟩ (.int .i64 n) = w3 at *
    have hG4 : w3.heap[n0 + 1 + 1]? = some (.cells (gotA 0 0 0 n 0 0 nilB) 139 (0, 0)) := hG3
    obtain ⟨x0, x1, x2, x3, x4, x5, x6⟩ := got_cells hG4
    obtain ⟨y0, y1, y2, y3, y4, y5, y6⟩ := got_free hG4
    obtain ⟨r0, r1, r2, r3, r4, r5, r6⟩ := got_cells hR3
    obtain ⟨z0, z1, z2, z3, z4, z5, z6⟩ := got_free hR3
    have HG4 := Lib.hid hG4
    have HR3 := Lib.hid hR3
    clear hG3 hG4 hR3
    go_wp2_with fail
    have hn0 := HN.out
    have hs1 := HS.out
    have hR4 : ((w3.setCell ⟨n0 + 1 + 1, 1, none⟩ (.int .i64 (wrap64 t))).setCell ⟨n0 + 1 + 1, 2, none⟩ (.int .i64 0)).heap[n0 + 1]? = some (.cells zGot 139 (0, 0)) := (heap_set_other (p := ⟨n0 + 1 + 1, 2, none⟩) _ (by simp)).trans ((heap_set_other (p := ⟨n0 + 1 + 1, 1, none⟩) _ (by simp)).trans HR3.out)
    have hkN : Keep (fun i => n0 ≤ i ∧ i < n0 + 3) w2 ((w3.setCell ⟨n0 + 1 + 1, 1, none⟩ (.int .i64 (wrap64 t))).setCell ⟨n0 + 1 + 1, 2, none⟩ (.int .i64 0)) := (hk3.set (n0 + 1 + 1) 1 (fun _ => by omega) _).set (n0 + 1 + 1) 2 (fun _ => by omega) _
    have hkW := got_keep hkN (U := n0 + 1) (fun _ => by omega) 0 (wrap64 t) 0 n 0 0 nilB
    refine ret_cell2 (U := n0 + 1) (T := 139) Tryz.results85 rfl rfl rfl (got_set hR4 _ _ _ _ _ _ _) Tryz.underlying139 igot_size ?_
    refine ⟨wrap64 t, n, ev, rfl, Rp.through h hk0.drew HP.out hkW (fun i hi => by simp; omega), fun hz => ?_⟩
    obtain ⟨e1, e2⟩ := HV.out hz
    exact ⟨by rw [e1]; exact Rp.lT_w K s, e2⟩
set_option maxRecDepth 100000 in
set_option maxHeartbeats 2000000 in
theorem Rp.begun10 {St : Type} (K : Rp.Ctx St) (s : St) (w : World) (h : K.Inv s w) :
    Calls Tryz.prog 85 #[K.V, .agg (stepI 10)] w fun e w' => ∃ v, e = .returned (.tuple #[v, .nilIface]) ∧ Rp.Post K w w' 0 .nilIface (K.pr.leS s) := by
  obtain ⟨hnam, hna, hnac⟩ := K.mLe
  have hk0 : Keep (fun _ => False) w (((w.alloc (.cells (stepI 10) 95 (0, 0))).alloc (.cells zGot 139 (0, 0))).alloc (.cells zGot 139 (0, 0))) := (((Keep.refl _ w).alloc _).alloc _).alloc _
  have hR0 : (((w.alloc (.cells (stepI 10) 95 (0, 0))).alloc (.cells zGot 139 (0, 0))).alloc (.cells zGot 139 (0, 0))).heap[w.heap.size + 1]? = some (.cells zGot 139 (0, 0)) := (Below.heap_alloc _ _ _ (by simp)).trans (heap_alloc_at (by simp) _)
  have hG0 : (((w.alloc (.cells (stepI 10) 95 (0, 0))).alloc (.cells zGot 139 (0, 0))).alloc (.cells zGot 139 (0, 0))).heap[w.heap.size + 1 + 1]? = some (.cells zGot 139 (0, 0)) := heap_alloc_at (by simp) _
  have hs0 : (((w.alloc (.cells (stepI 10) 95 (0, 0))).alloc (.cells zGot 139 (0, 0))).alloc (.cells zGot 139 (0, 0))).heap.size = w.heap.size + 3 := by simp
  go_enter Tryz.func85, Tryz.ntmps85
  go_wp2_with fail
  obtain ⟨n0, hn⟩ : ∃ n0, w.heap.size = n0 := ⟨_, rfl⟩
  rw [hn] at hR0 hG0 hs0 ⊢
  generalize ((w.alloc (.cells (stepI 10) 95 (0, 0))).alloc (.cells zGot 139 (0, 0))).alloc (.cells zGot 139 (0, 0)) = w1 at *
  have HN := Lib.hid hn
  have HR := Lib.hid hR0
  have HG := Lib.hid hG0
  have HS := Lib.hid hs0
  have HM := Lib.hid (Rp.M_new h hk0)
  obtain ⟨u0, u1, u2, u3, u4, u5, u6⟩ := got_cells hG0
  obtain ⟨f0, f1, f2, f3, f4, f5, f6⟩ := got_free hG0
  clear hn hR0 hG0 hs0
  go_region_with (first | (go_at_call 28; refine (ctx_at _).mono ?_; rintro e w' ⟨rfl, rfl⟩) | (refine (K.readListEnd (w := w1.drew) (h.fresh hk0.drew)).mono ?_; rintro e w2 ⟨rfl, hp⟩; have HP := Lib.hid hp; have HG2 := Lib.hid ((hp.keep.block (n0 + 1 + 1) (by simpa using lt_of_heap HG.out) (fun x => by have := HM.out _ x; have := HN.out; omega)).trans HG.out); clear hp; obtain ⟨x0, x1, x2, x3, x4, x5, x6⟩ := got_cells HG2.out; obtain ⟨y0, y1, y2, y3, y4, y5, y6⟩ := got_free HG2.out))
  all_goals
    have hG3 := HG2.out
    have hk3 : Keep (fun i => n0 ≤ i ∧ i < n0 + 3) w2 w2 := Keep.refl _ w2
    have hR3 : w2.heap[n0 + 1]? = some (.cells zGot 139 (0, 0)) := ((HP.out.keep.block (n0 + 1) (by simpa using lt_of_heap HR.out) (fun x => by have := HM.out _ x; have := HN.out; omega)).trans HR.out)
    clear x0 x1 x2 x3 x4 x5 x6 y0 y1 y2 y3 y4 y5 y6 u0 u1 u2 u3 u4 u5 u6 f0 f1 f2 f3 f4 f5 f6
    obtain ⟨w3, hw3⟩ : ∃ w3, w2 = w3 := ⟨_, rfl⟩
    have HW3 := Lib.hid hw3
    rw [hw3] at hG3 hk3 hR3 ⊢
    have hk3 : Keep (fun i => n0 ≤ i ∧ i < n0 + 3) w2 w3 := hw3 ▸ Keep.refl _ w2
    clear hw3
    have hG4 : w3.heap[n0 + 1 + 1]? = some (.cells (gotA 0 0 0 0 0 0 nilB) 139 (0, 0)) := hG3
    obtain ⟨x0, x1, x2, x3, x4, x5, x6⟩ := got_cells hG4
    obtain ⟨y0, y1, y2, y3, y4, y5, y6⟩ := got_free hG4
    obtain ⟨r0, r1, r2, r3, r4, r5, r6⟩ := got_cells hR3
    obtain ⟨z0, z1, z2, z3, z4, z5, z6⟩ := got_free hR3
    have HG4 := Lib.hid hG4
    have HR3 := Lib.hid hR3
    clear hG3 hG4 hR3
    go_wp2_with fail
    have hn0 := HN.out
    have hs1 := HS.out
    have hR4 : ((w3.setCell ⟨n0 + 1 + 1, 1, none⟩ (.int .i64 0)).setCell ⟨n0 + 1 + 1, 2, none⟩ (.int .i64 0)).heap[n0 + 1]? = some (.cells zGot 139 (0, 0)) := (heap_set_other (p := ⟨n0 + 1 + 1, 2, none⟩) _ (by simp)).trans ((heap_set_other (p := ⟨n0 + 1 + 1, 1, none⟩) _ (by simp)).trans HR3.out)
    have hkN : Keep (fun i => n0 ≤ i ∧ i < n0 + 3) w2 ((w3.setCell ⟨n0 + 1 + 1, 1, none⟩ (.int .i64 0)).setCell ⟨n0 + 1 + 1, 2, none⟩ (.int .i64 0)) := (hk3.set (n0 + 1 + 1) 1 (fun _ => by omega) _).set (n0 + 1 + 1) 2 (fun _ => by omega) _
    have hkW := got_keep hkN (U := n0 + 1) (fun _ => by omega) 0 0 0 0 0 0 nilB
    refine ret_cell2 (U := n0 + 1) (T := 139) Tryz.results85 rfl rfl rfl (got_set hR4 _ _ _ _ _ _ _) Tryz.underlying139 igot_size ?_
    exact ⟨_, rfl, Rp.through h hk0.drew HP.out hkW (fun i hi => by simp; omega)⟩
set_option maxRecDepth 100000 in
set_option maxHeartbeats 2000000 in
theorem Rp.begun12 {St : Type} (K : Rp.Ctx St) (s : St) (w : World) (h : K.Inv s w) :
    Calls Tryz.prog 85 #[K.V, .agg (stepI 12)] w fun e w' => ∃ v, e = .returned (.tuple #[v, .nilIface]) ∧ Rp.Post K w w' 0 .nilIface (K.pr.leS s) := by
  obtain ⟨hnam, hna, hnac⟩ := K.mTe
  have hk0 : Keep (fun _ => False) w (((w.alloc (.cells (stepI 12) 95 (0, 0))).alloc (.cells zGot 139 (0, 0))).alloc (.cells zGot 139 (0, 0))) := (((Keep.refl _ w).alloc _).alloc _).alloc _
  have hR0 : (((w.alloc (.cells (stepI 12) 95 (0, 0))).alloc (.cells zGot 139 (0, 0))).alloc (.cells zGot 139 (0, 0))).heap[w.heap.size + 1]? = some (.cells zGot 139 (0, 0)) := (Below.heap_alloc _ _ _ (by simp)).trans (heap_alloc_at (by simp) _)
  have hG0 : (((w.alloc (.cells (stepI 12) 95 (0, 0))).alloc (.cells zGot 139 (0, 0))).alloc (.cells zGot 139 (0, 0))).heap[w.heap.size + 1 + 1]? = some (.cells zGot 139 (0, 0)) := heap_alloc_at (by simp) _
  have hs0 : (((w.alloc (.cells (stepI 12) 95 (0, 0))).alloc (.cells zGot 139 (0, 0))).alloc (.cells zGot 139 (0, 0))).heap.size = w.heap.size + 3 := by simp
  go_enter Tryz.func85, Tryz.ntmps85
  go_wp2_with fail
  obtain ⟨n0, hn⟩ : ∃ n0, w.heap.size = n0 := ⟨_, rfl⟩
  rw [hn] at hR0 hG0 hs0 ⊢
  generalize ((w.alloc (.cells (stepI 12) 95 (0, 0))).alloc (.cells zGot 139 (0, 0))).alloc (.cells zGot 139 (0, 0)) = w1 at *
  have HN := Lib.hid hn
  have HR := Lib.hid hR0
  have HG := Lib.hid hG0
  have HS := Lib.hid hs0
  have HM := Lib.hid (Rp.M_new h hk0)
  obtain ⟨u0, u1, u2, u3, u4, u5, u6⟩ := got_cells hG0
  obtain ⟨f0, f1, f2, f3, f4, f5, f6⟩ := got_free hG0
  clear hn hR0 hG0 hs0
  go_region_with (first | (go_at_call 28; refine (ctx_at _).mono ?_; rintro e w' ⟨rfl, rfl⟩) | (refine (K.readSetEnd (w := w1.drew) (h.fresh hk0.drew)).mono ?_; rintro e w2 ⟨rfl, hp⟩; have HP := Lib.hid hp; have HG2 := Lib.hid ((hp.keep.block (n0 + 1 + 1) (by simpa using lt_of_heap HG.out) (fun x => by have := HM.out _ x; have := HN.out; omega)).trans HG.out); clear hp; obtain ⟨x0, x1, x2, x3, x4, x5, x6⟩ := got_cells HG2.out; obtain ⟨y0, y1, y2, y3, y4, y5, y6⟩ := got_free HG2.out))
  all_goals
    have hG3 := HG2.out
    have hk3 : Keep (fun i => n0 ≤ i ∧ i < n0 + 3) w2 w2 := Keep.refl _ w2
    have hR3 : w2.heap[n0 + 1]? = some (.cells zGot 139 (0, 0)) := ((HP.out.keep.block (n0 + 1) (by simpa using lt_of_heap HR.out) (fun x => by have := HM.out _ x; have := HN.out; omega)).trans HR.out)
    clear x0 x1 x2 x3 x4 x5 x6 y0 y1 y2 y3 y4 y5 y6 u0 u1 u2 u3 u4 u5 u6 f0 f1 f2 f3 f4 f5 f6
    obtain ⟨w3, hw3⟩ : ∃ w3, w2 = w3 := ⟨_, rfl⟩
    have HW3 := Lib.hid hw3
    rw [hw3] at hG3 hk3 hR3 ⊢
    have hk3 : Keep (fun i => n0 ≤ i ∧ i < n0 + 3) w2 w3 := hw3 ▸ Keep.refl _ w2
    clear hw3
    have hG4 : w3.heap[n0 + 1 + 1]? = some (.cells (gotA 0 0 0 0 0 0 nilB) 139 (0, 0)) := hG3
    obtain ⟨x0, x1, x2, x3, x4, x5, x6⟩ := got_cells hG4
    obtain ⟨y0, y1, y2, y3, y4, y5, y6⟩ := got_free hG4
    obtain ⟨r0, r1, r2, r3, r4, r5, r6⟩ := got_cells hR3
    obtain ⟨z0, z1, z2, z3, z4, z5, z6⟩ := got_free hR3
    have HG4 := Lib.hid hG4
    have HR3 := Lib.hid hR3
    clear hG3 hG4 hR3
    go_wp2_with fail
    have hn0 := HN.out
    have hs1 := HS.out
    have hR4 : ((w3.setCell ⟨n0 + 1 + 1, 1, none⟩ (.int .i64 0)).setCell ⟨n0 + 1 + 1, 2, none⟩ (.int .i64 0)).heap[n0 + 1]? = some (.cells zGot 139 (0, 0)) := (heap_set_other (p := ⟨n0 + 1 + 1, 2, none⟩) _ (by simp)).trans ((heap_set_other (p := ⟨n0 + 1 + 1, 1, none⟩) _ (by simp)).trans HR3.out)
    have hkN : Keep (fun i => n0 ≤ i ∧ i < n0 + 3) w2 ((w3.setCell ⟨n0 + 1 + 1, 1, none⟩ (.int .i64 0)).setCell ⟨n0 + 1 + 1, 2, none⟩ (.int .i64 0)) := (hk3.set (n0 + 1 + 1) 1 (fun _ => by omega) _).set (n0 + 1 + 1) 2 (fun _ => by omega) _
    have hkW := got_keep hkN (U := n0 + 1) (fun _ => by omega) 0 0 0 0 0 0 nilB
    refine ret_cell2 (U := n0 + 1) (T := 139) Tryz.results85 rfl rfl rfl (got_set hR4 _ _ _ _ _ _ _) Tryz.underlying139 igot_size ?_
    exact ⟨_, rfl, Rp.through h hk0.drew HP.out hkW (fun i hi => by simp; omega)⟩
end Go.Proofs.YthehmlbolajljaaGreatDoor

namespace Go.Proofs.YthehmlbolajljaaGreatDoor
open Go Go.RowKit
theorem gseq_ok {σ : Type} {f : σ → Int × σ × V} {n : Nat} {s : σ} {l : List V} (h : (f s).1 = 0) : gseq f (n + 1) s l = gseq f n (f s).2.1 (l ++ [(f s).2.2]) := by show (if _ then _ else _) = _; rw [if_pos h]
theorem gseq_bad {σ : Type} {f : σ → Int × σ × V} {n : Nat} {s : σ} {l : List V} (h : ¬ (f s).1 = 0) : gseq f (n + 1) s l = ((f s).1, (f s).2.1, l) := by show (if _ then _ else _) = _; rw [if_neg h]
theorem gend_ok {σ : Type} {g : σ → σ} {mk : List V → V} {r : Int × σ × List V} (h : r.1 = 0) : gend g mk r = (0, g r.2.1, mk r.2.2) := by show (if _ then _ else _) = _; rw [if_pos h]
theorem gend_bad {σ : Type} {g : σ → σ} {mk : List V → V} {r : Int × σ × List V} (h : ¬ r.1 = 0) : gend g mk r = (r.1, r.2.1, V.zero) := by show (if _ then _ else _) = _; rw [if_neg h]
theorem gpairs_ok {σ : Type} {f g : σ → Int × σ × V} {n : Nat} {s : σ} {l : List V} (h : (f s).1 = 0) (h2 : (g (f s).2.1).1 = 0) : gpairs f g (n + 1) s l = gpairs f g n (g (f s).2.1).2.1 (l ++ [(f s).2.2] ++ [(g (f s).2.1).2.2]) := by
  simp only [gpairs]
  rw [if_pos h, if_pos h2]
  try simp
theorem gpairs_bad1 {σ : Type} {f g : σ → Int × σ × V} {n : Nat} {s : σ} {l : List V} (h : ¬ (f s).1 = 0) : gpairs f g (n + 1) s l = ((f s).1, (f s).2.1, l) := by
  simp only [gpairs]
  rw [if_neg h]
theorem gpairs_bad2 {σ : Type} {f g : σ → Int × σ × V} {n : Nat} {s : σ} {l : List V} (h : (f s).1 = 0) (h2 : ¬ (g (f s).2.1).1 = 0) : ∃ l', gpairs f g (n + 1) s l = ((g (f s).2.1).1, (g (f s).2.1).2.1, l') := by
  simp only [gpairs]
  rw [if_pos h, if_neg h2]
  exact ⟨_, rfl⟩
theorem gflds_stop {σ : Type} {p : Pr σ} {f : Int → σ → Int × σ × V} {n : Nat} {s : σ} {ids : List Int} {l : List V} (h : p.fK s = 0) (h2 : p.fT s = 0) : gflds p f (n + 1) s ids l = (0, p.seS (p.fS s), .mk 12 0 [] 0 0 ids l) := by
  simp only [gflds]; rw [if_pos h, if_pos h2]
theorem gflds_ok {σ : Type} {p : Pr σ} {f : Int → σ → Int × σ × V} {n : Nat} {s : σ} {ids : List Int} {l : List V} (h : p.fK s = 0) (h2 : ¬ p.fT s = 0) (h3 : (f (p.fT s) (p.fS s)).1 = 0) : gflds p f (n + 1) s ids l = gflds p f n (p.feS (f (p.fT s) (p.fS s)).2.1) (ids ++ [p.fI s]) (l ++ [(f (p.fT s) (p.fS s)).2.2]) := by
  simp only [gflds]; rw [if_pos h, if_neg h2, if_pos h3]
theorem gflds_bad {σ : Type} {p : Pr σ} {f : Int → σ → Int × σ × V} {n : Nat} {s : σ} {ids : List Int} {l : List V} (h : p.fK s = 0) (h2 : ¬ p.fT s = 0) (h3 : ¬ (f (p.fT s) (p.fS s)).1 = 0) : gflds p f (n + 1) s ids l = ((f (p.fT s) (p.fS s)).1, (f (p.fT s) (p.fS s)).2.1, V.zero) := by
  simp only [gflds]; rw [if_pos h, if_neg h2, if_neg h3]
theorem gflds_err {σ : Type} {p : Pr σ} {f : Int → σ → Int × σ × V} {n : Nat} {s : σ} {ids : List Int} {l : List V} (h : ¬ p.fK s = 0) : gflds p f (n + 1) s ids l = (p.fK s, p.fS s, V.zero) := by
  simp only [gflds]; rw [if_neg h]
end Go.Proofs.YthehmlbolajljaaGreatDoor
