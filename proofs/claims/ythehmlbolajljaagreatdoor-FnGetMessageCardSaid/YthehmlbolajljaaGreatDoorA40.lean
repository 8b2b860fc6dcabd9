/- Part 40 of the proof: RpXCmp, SpC11, CmpMg, SpCMg. -/
import Derived.Test.YthehmlbolajljaaGreatDoorA10
import Derived.Test.YthehmlbolajljaaGreatDoorA39
import Derived.Test.YthehmlbolajljaaGreatDoorA35
import Derived.Test.YthehmlbolajljaaGreatDoorA21
set_option linter.unusedVariables false
set_option linter.unusedSimpArgs false
set_option linter.unusedSectionVars false
namespace Go.Proofs.YthehmlbolajljaaGreatDoor
open Go Go.RowKit
abbrev Cmp.rb (K : Cmp.Ctx) : Rp.Base Cmp.St where
  E := K.E
  T := 132
  P := K.P
  pr := Cmp.pr K
  Mh h := Cmp.M K { (default : World) with heap := h }
  Inv := Cmp.Inv K
  Some := Cmp.Some K
  fBool := 179
  fByte := 180
  fI16 := 184
  fI32 := 185
  fI64 := 186
  fDbl := 181
  fStr := 195
  fUuid := 198
  fFb := 182
  fMb := 189
  fLb := 187
  fTb := 193
  fSb := 196
  fSe := 197
  fFe := 183
  fMe := 190
  fLe := 188
  fTe := 194
theorem Cmp.Post.rp {K : Cmp.Ctx} {s : Cmp.St} {w w' : World} {k : Int} {ev : Value} (h : Cmp.Post K w w' k ev s) : Rp.Post (Cmp.rb K) w w' k ev s := ⟨h.err, h.inv, h.some, h.keep⟩
theorem Cmp.Post.of {K : Cmp.Ctx} {s : Cmp.St} {w w' : World} {k : Int} {ev : Value} (h : Rp.Post (Cmp.rb K) w w' k ev s) : Cmp.Post K w w' k ev s := ⟨h.err, h.inv, h.some, h.keep⟩
theorem Cmp.mBool (K : Cmp.Ctx) : Rp.Meth 132 K.P "ReadBool" 179 := ⟨fun w => by kernel_rfl, fun w => by kernel_rfl, fun args w => by kernel_rfl⟩
theorem Cmp.mByte (K : Cmp.Ctx) : Rp.Meth 132 K.P "ReadByte" 180 := ⟨fun w => by kernel_rfl, fun w => by kernel_rfl, fun args w => by kernel_rfl⟩
theorem Cmp.mI16 (K : Cmp.Ctx) : Rp.Meth 132 K.P "ReadI16" 184 := ⟨fun w => by kernel_rfl, fun w => by kernel_rfl, fun args w => by kernel_rfl⟩
theorem Cmp.mI32 (K : Cmp.Ctx) : Rp.Meth 132 K.P "ReadI32" 185 := ⟨fun w => by kernel_rfl, fun w => by kernel_rfl, fun args w => by kernel_rfl⟩
theorem Cmp.mI64 (K : Cmp.Ctx) : Rp.Meth 132 K.P "ReadI64" 186 := ⟨fun w => by kernel_rfl, fun w => by kernel_rfl, fun args w => by kernel_rfl⟩
theorem Cmp.mDbl (K : Cmp.Ctx) : Rp.Meth 132 K.P "ReadDouble" 181 := ⟨fun w => by kernel_rfl, fun w => by kernel_rfl, fun args w => by kernel_rfl⟩
theorem Cmp.mStr (K : Cmp.Ctx) : Rp.Meth 132 K.P "ReadString" 195 := ⟨fun w => by kernel_rfl, fun w => by kernel_rfl, fun args w => by kernel_rfl⟩
theorem Cmp.mUuid (K : Cmp.Ctx) : Rp.Meth 132 K.P "ReadUUID" 198 := ⟨fun w => by kernel_rfl, fun w => by kernel_rfl, fun args w => by kernel_rfl⟩
theorem Cmp.mFb (K : Cmp.Ctx) : Rp.Meth 132 K.P "ReadFieldBegin" 182 := ⟨fun w => by kernel_rfl, fun w => by kernel_rfl, fun args w => by kernel_rfl⟩
theorem Cmp.mMb (K : Cmp.Ctx) : Rp.Meth 132 K.P "ReadMapBegin" 189 := ⟨fun w => by kernel_rfl, fun w => by kernel_rfl, fun args w => by kernel_rfl⟩
theorem Cmp.mLb (K : Cmp.Ctx) : Rp.Meth 132 K.P "ReadListBegin" 187 := ⟨fun w => by kernel_rfl, fun w => by kernel_rfl, fun args w => by kernel_rfl⟩
theorem Cmp.mTb (K : Cmp.Ctx) : Rp.Meth 132 K.P "ReadSetBegin" 193 := ⟨fun w => by kernel_rfl, fun w => by kernel_rfl, fun args w => by kernel_rfl⟩
theorem Cmp.mSb (K : Cmp.Ctx) : Rp.Meth 132 K.P "ReadStructBegin" 196 := ⟨fun w => by kernel_rfl, fun w => by kernel_rfl, fun args w => by kernel_rfl⟩
theorem Cmp.mSe (K : Cmp.Ctx) : Rp.Meth 132 K.P "ReadStructEnd" 197 := ⟨fun w => by kernel_rfl, fun w => by kernel_rfl, fun args w => by kernel_rfl⟩
theorem Cmp.mFe (K : Cmp.Ctx) : Rp.Meth 132 K.P "ReadFieldEnd" 183 := ⟨fun w => by kernel_rfl, fun w => by kernel_rfl, fun args w => by kernel_rfl⟩
theorem Cmp.mMe (K : Cmp.Ctx) : Rp.Meth 132 K.P "ReadMapEnd" 190 := ⟨fun w => by kernel_rfl, fun w => by kernel_rfl, fun args w => by kernel_rfl⟩
theorem Cmp.mLe (K : Cmp.Ctx) : Rp.Meth 132 K.P "ReadListEnd" 188 := ⟨fun w => by kernel_rfl, fun w => by kernel_rfl, fun args w => by kernel_rfl⟩
theorem Cmp.mTe (K : Cmp.Ctx) : Rp.Meth 132 K.P "ReadSetEnd" 194 := ⟨fun w => by kernel_rfl, fun w => by kernel_rfl, fun args w => by kernel_rfl⟩
def Cmp.rp (K : Cmp.Ctx) : Rp.Ctx Cmp.St where
  toBase := Cmp.rb K
  ok := Cmp.ok K
  fresh h k := Cmp.Inv.fresh h k
  isSome h := Cmp.Inv.some h
  fresh1 h k := ⟨Cmp.Some.fresh (Cmp.Inv.some h) k, Cmp.kept h k, fun i m => Cmp.M_new h k i m⟩
  lt h i m := Cmp.Some.lt h i m
  glob h := Cmp.Inv.glob h
  turn := Cmp.turn
  thru h k1 i1 hp hk hN := let ⟨a, b⟩ := Cmp.thru h k1 i1 (Cmp.Post.of hp) hk hN; ⟨a.rp, b⟩
  b0 t s h1 h2 := by show Cmp.scB t s = []; unfold Cmp.scB; rw [if_neg h1, if_neg h2]
  n0 t s h := by rcases h with rfl | rfl; exact Cmp.n11 K s; exact Cmp.n16 K s
  b_le := Cmp.b_le
  lT_bd := Cmp.lT_bd K
  fT_bd := Cmp.fT_bd K
  mT_bd := Cmp.mT_bd K
  fI_bd := Cmp.fI_bd K
  mBool := Cmp.mBool K
  readBool h := (Cmp.readBool h).mono (fun e w' r => by obtain ⟨v, ev, rfl, hp, hv⟩ := r; exact ⟨v, ev, rfl, hp.rp, hv⟩)
  mByte := Cmp.mByte K
  readByte h := (Cmp.readByte h).mono (fun e w' r => by obtain ⟨n, ev, rfl, hp, hv⟩ := r; exact ⟨n, ev, rfl, hp.rp, hv⟩)
  mI16 := Cmp.mI16 K
  readI16 h := (Cmp.readI16 h).mono (fun e w' r => by obtain ⟨n, ev, rfl, hp, hv⟩ := r; exact ⟨n, ev, rfl, hp.rp, hv⟩)
  mI32 := Cmp.mI32 K
  readI32 h := (Cmp.readI32 h).mono (fun e w' r => by obtain ⟨n, ev, rfl, hp, hv⟩ := r; exact ⟨n, ev, rfl, hp.rp, hv⟩)
  mI64 := Cmp.mI64 K
  readI64 h := (Cmp.readI64 h).mono (fun e w' r => by obtain ⟨n, ev, rfl, hp, hv⟩ := r; exact ⟨n, ev, rfl, hp.rp, hv⟩)
  mDbl := Cmp.mDbl K
  readDouble h := (Cmp.readDouble h).mono (fun e w' r => by obtain ⟨n, ev, rfl, hp, hv⟩ := r; exact ⟨n, ev, rfl, hp.rp, hv⟩)
  mStr := Cmp.mStr K
  readString h := (Cmp.readString h).mono (fun e w' r => by obtain ⟨l, ev, rfl, hp, hv⟩ := r; exact ⟨l, ev, rfl, hp.rp, hv⟩)
  mUuid := Cmp.mUuid K
  readUUID h := (Cmp.readUUID h).mono (fun e w' r => by obtain ⟨l, ev, rfl, hp, hv⟩ := r; exact ⟨l, ev, rfl, hp.rp, hv⟩)
  mFb := Cmp.mFb K
  readFieldBegin h := (Cmp.readFieldBegin h).mono (fun e w' r => by obtain ⟨l, t, id, ev, rfl, hp, hv⟩ := r; exact ⟨l, t, id, ev, rfl, hp.rp, hv⟩)
  mMb := Cmp.mMb K
  readMapBegin h := (Cmp.readMapBegin h).mono (fun e w' r => by obtain ⟨kt, t, n, ev, rfl, hp, hv⟩ := r; exact ⟨kt, t, n, ev, rfl, hp.rp, hv⟩)
  mLb := Cmp.mLb K
  readListBegin h := (Cmp.readListBegin h).mono (fun e w' r => by obtain ⟨t, n, ev, rfl, hp, hv⟩ := r; exact ⟨t, n, ev, rfl, hp.rp, hv⟩)
  mTb := Cmp.mTb K
  readSetBegin h := (Cmp.readSetBegin h).mono (fun e w' r => by obtain ⟨t, n, ev, rfl, hp, hv⟩ := r; exact ⟨t, n, ev, rfl, hp.rp, hv⟩)
  mSb := Cmp.mSb K
  readStructBegin h d := (Cmp.readStructBegin h d).mono (fun e w' r => by obtain ⟨l, rfl, hp⟩ := r; exact ⟨l, rfl, hp.rp⟩)
  mSe := Cmp.mSe K
  readStructEnd h d := (Cmp.readStructEnd h d).mono (fun e w' r => by obtain ⟨rfl, hp⟩ := r; exact ⟨rfl, hp.rp⟩)
  mFe := Cmp.mFe K
  readFieldEnd h := (Cmp.readFieldEnd h).mono (fun e w' r => by obtain ⟨rfl, hp⟩ := r; exact ⟨rfl, hp.rp⟩)
  mMe := Cmp.mMe K
  readMapEnd h := (Cmp.readMapEnd h).mono (fun e w' r => by obtain ⟨rfl, hp⟩ := r; exact ⟨rfl, hp.rp⟩)
  mLe := Cmp.mLe K
  readListEnd h := (Cmp.readListEnd h).mono (fun e w' r => by obtain ⟨rfl, hp⟩ := r; exact ⟨rfl, hp.rp⟩)
  mTe := Cmp.mTe K
  readSetEnd h := (Cmp.readSetEnd h).mono (fun e w' r => by obtain ⟨rfl, hp⟩ := r; exact ⟨rfl, hp.rp⟩)
end Go.Proofs.YthehmlbolajljaaGreatDoor

namespace Go.Proofs.YthehmlbolajljaaGreatDoor
open Go Go.RowKit
section
variable {R TB DT : Nat} {c : Cfg} {n : Int} {s s2 s' : Cmp.St} {fv fv2 : Value} {v v2 : Int} {w wA w1 w' : World} {k T KT SZ ID N : Int} {S : List UInt8}
set_option maxRecDepth 100000 in
set_option maxHeartbeats 4000000 in
theorem rd_stepc (op : Int) (h0 : 0 ≤ op) (h22 : op < 22) (h6 : ¬ op = 6) (h : RdC R TB DT c n s fv v w)
    (hcmp : ∀ w, RdC R TB DT c n s fv v w → Calls Tryz.prog 88 #[.pointer (some ⟨R, 0, none⟩), .agg (stepA op)] w (GG R TB DT c n s fv w k s' T KT SZ ID N S)) :
    Calls Tryz.prog 63 #[.pointer (some ⟨R, 0, none⟩), .agg (stepA op)] w (GG R TB DT c n s fv w k s' T KT SZ ID N S) := by
  obtain ⟨c0, c1, c2, c3, c4, c5, c6, c7, c8⟩ := h.p.cells
  have hTU := h.ltT
  have hRU := h.ltR
  have hDU := h.dlt
  have n22 : ¬ op = 22 := by omega
  have ncond : (decide (op < 0) || decide (22 < op) || op == 6) = false := by simp; omega
  have ncond1 : decide (op < 0) = false := by simp; omega
  have ncond2 : decide (22 < op) = false := by simp; omega
  have ncond3 : (op == 6) = false := by simp; omega
  have hk0 : Keep (fun _ => False) w ((w.alloc (.cells (stepA op) 173)).alloc (.cells zGot 107)) := ((Keep.refl _ w).alloc _).alloc _
  have hU0 := heap_alloc_new (w.alloc (.cells (stepA op) 173)) (.cells zGot 107)
  have HH := Lib.hid h
  go_enter Tryz.func63, Tryz.ntmps63
  go_wp2_with fail
  obtain ⟨U, hU⟩ : ∃ U, w.heap.size + 1 = U := ⟨_, rfl⟩
  have hUs : ((w.alloc (.cells (stepA op) 173)).alloc (.cells zGot 107)).heap.size = U + 1 := by simp [← hU]
  rw [show (w.alloc (.cells (stepA op) 173)).heap.size = U by simp [← hU]] at hU0
  generalize (w.alloc (.cells (stepA op) 173)).alloc (.cells zGot 107) = wA at *
  rw [hU]
  have HUS := Lib.hid hU
  clear hU
  refine (hcmp wA (h.fresh hk0)).mono ?_
  rintro e w1 ⟨x, t, kt, size, id, N', S', rfl, ⟨Sa, Sm, Sc, rfl⟩, hx, hk1, s2, fv2, v2, h1, hs, ho, hv⟩
  have hUm : ¬ (RT R TB U ∨ fv.ownBlock = some U) := by
    have := HUS.out
    rintro ((e | e) | e)
    · omega
    · omega
    · have := (HH.out.row.lt U e).2; omega
  have HU := Lib.hid ((hk1.block U (lt_of_heap hU0) hUm).trans hU0)
  have HX := Lib.hid hx
  have HS := Lib.hid hs
  have HV := Lib.hid hv
  have HO := Lib.hid ho
  have HK1 := Lib.hid hk1
  have HK0 := Lib.hid hk0
  have H1 := Lib.hid h1
  clear hx hs hv ho hk1 hk0 h1 hU0 hUm
  obtain ⟨u0, u1, u2, u3, u4, u5, u6⟩ := got_cells HU.out
  obtain ⟨f0, f1, f2, f3, f4, f5, f6⟩ := got_free HU.out
  go_wp2_with fail
  have hkU : Keep (fun i => U = i) w1 (gotW w1 U x t kt size id N' (.slice Sa Sm Sc)) := got_keep (Keep.refl _ w1) (fun _ => rfl) _ _ _ _ _ _ _
  have hsz := HUS.out
  have hUs' := hUs
  refine ret_got (U := U) Tryz.results63 rfl rfl (got_set HU.out _ _ _ _ _ _ _) ⟨_, _, _, _, _, _, _, rfl, ⟨_, _, _, rfl⟩, HX.out, ?_, s2, fv2, v2, ?_, HS.out, ?_, fun hz => ?_⟩
  · exact ((HK0.out.weak (fun _ _ x => x.elim)).then HK1.out).trans hkU (fun i hi e => by omega)
  · refine H1.out.keep hkU (by omega) (by omega) (by omega) (fun i e e2 => ?_)
    rcases HO.out i e with y | y
    · have := (HH.out.row.lt i y).2; omega
    · omega
  · intro i e
    rcases HO.out i e with y | y
    · exact .inl y
    · exact .inr (by omega)
  · obtain ⟨q1, q2, q3, q4, q5, q6⟩ := HV.out hz
    exact ⟨q1, q2, q3, q4, q5, (q6.keep hkU (fun i hi e => by omega)).weak (fun i _ hi => ⟨by omega, hi.2⟩)⟩
theorem c_plain_any (op t : Int) (h13 : 13 ≤ op ∧ op ≤ 21) (h : RdC R TB DT c n s fv v w)
    (hpl : ∀ w, RdC R TB DT c n s fv v w → Calls Tryz.prog 104 #[.pointer (some ⟨R, 0, none⟩), .int .i64 op] w (GC R TB DT c n s fv w k s' T KT SZ ID N S)) :
    Calls Tryz.prog 88 #[.pointer (some ⟨R, 0, none⟩), .agg (stepA op)] w (GG R TB DT c n s fv w k s' T KT SZ ID N S) := by
  cases hp : s.pend with
  | false => exact (c_plain_d op h13 hp h hpl).mono (fun e w' hg => hg.gg h)
  | true =>
    by_cases h1 : op = 13
    · subst h1
      exact (c_d13_true hp h hpl).mono (fun e w' hg => hg.gg h)
    · exact (c_open op (by omega) h1 hp h).mono (fun e w' hg => hg.gg h)
theorem c_else (op : Int) (h5 : ¬ op = 5) (h13 : ¬ op = 13) (h : RdC R TB DT c n s fv v w)
    (hf : s.pend = false → Calls Tryz.prog 88 #[.pointer (some ⟨R, 0, none⟩), .agg (stepA op)] w (GG R TB DT c n s fv w k s' T KT SZ ID N S)) :
    Calls Tryz.prog 88 #[.pointer (some ⟨R, 0, none⟩), .agg (stepA op)] w (GG R TB DT c n s fv w k s' T KT SZ ID N S) := by
  cases hp : s.pend with
  | false => exact hf hp
  | true => exact (c_open op h5 h13 hp h).mono (fun e w' hg => hg.gg h)
end
def Cmp.rdr (R TB DT : Nat) (K : Cmp.Ctx) (n : Int) : Rdr Cmp.St where
  R := R
  pr := Cmp.pr K
  M := fun w i => RTD R TB DT i ∨ ∃ fv, w.cell? ⟨R, 10, none⟩ = some fv ∧ fv.ownBlock = some i
  Inv := fun s w => ∃ fv v, RdC R TB DT K.c n s fv v w
section
variable {R TB DT : Nat} {K : Cmp.Ctx} {n : Int} {s s2 s' : Cmp.St} {fv fv2 : Value} {v v2 : Int} {w wA w1 w' : World} {k T KT SZ ID N : Int} {S : List UInt8}
theorem Cmp.rM_at (h : RdC R TB DT K.c n s fv v w) (i : Nat) : (Cmp.rdr R TB DT K n).M w i ↔ RTD R TB DT i ∨ fv.ownBlock = some i := by
  obtain ⟨_, c10, _, _⟩ := h.ccells
  constructor
  · rintro (e | ⟨fv', e1, e2⟩)
    · exact .inl e
    · rw [c10] at e1
      cases e1
      exact .inr e2
  · rintro (e | e)
    · exact .inl e
    · exact .inr ⟨fv, c10, e⟩
theorem Cmp.rM_lt (h : RdC R TB DT K.c n s fv v w) (i : Nat) (hi : (Cmp.rdr R TB DT K n).M w i) : i < w.heap.size := by
  rcases (Cmp.rM_at h i).1 hi with (e | e | e) | e
  · rw [e]; exact h.ltR
  · rw [e]; exact h.ltT
  · rw [e]; exact h.dlt
  · exact (h.row.lt i e).2
theorem Cmp.gp {e : Ending} (h : RdC R TB DT K.c n s fv v w) (hg : GG R TB DT K.c n s fv w k s' T KT SZ ID N S e w') : (Cmp.rdr R TB DT K n).GP w k s' T KT SZ ID N S e w' := by
  obtain ⟨x, t, kt, size, id, N', S', rfl, hs, hx, hk, s2, fv2, v2, h1, hs2, ho, hv⟩ := hg
  refine ⟨x, t, kt, size, id, N', S', rfl, hs, hx, ⟨s2, ⟨fv2, v2, h1⟩, hs2⟩, ⟨hk.weak (fun i _ y => ?_), fun i hi y => ?_⟩, fun hz => ?_⟩
  · refine (Cmp.rM_at h i).2 ?_
    rcases y with (y | y) | y
    · exact .inl (.inl y.symm)
    · exact .inl (.inr (.inl y.symm))
    · exact .inr y
  · refine (Cmp.rM_at h i).2 ?_
    rcases (Cmp.rM_at h1 i).1 y with y | y
    · exact .inl y
    · rcases ho i y with z | z
      · exact .inr z
      · omega
  · obtain ⟨q1, q2, q3, q4, q5, q6⟩ := hv hz
    refine ⟨q1, q2, q3, q4, q5, q6.weak (fun i _ hi => ⟨hi.1, fun y => ?_⟩)⟩
    rcases (Cmp.rM_at h1 i).1 y with z | z
    · have := Cmp.rM_lt h i ((Cmp.rM_at h i).2 (.inl z)); have := hi.1; omega
    · exact hi.2 z
theorem Cmp.rstep (op : Int) (h0 : 0 ≤ op) (h22 : op < 22) (h6 : ¬ op = 6) (h : RdC R TB DT K.c n s fv v w)
    (hcmp : ∀ w, RdC R TB DT K.c n s fv v w → Calls Tryz.prog 88 #[.pointer (some ⟨R, 0, none⟩), .agg (stepA op)] w (GG R TB DT K.c n s fv w k s' T KT SZ ID N S)) : (Cmp.rdr R TB DT K n).Step op w ((Cmp.rdr R TB DT K n).GP w k s' T KT SZ ID N S) :=
  (rd_stepc op h0 h22 h6 h hcmp).mono (fun e w' hg => Cmp.gp h hg)
theorem Cmp.rscalar (t : Int) (ht : isSc t = true) (h : RdC R TB DT K.c n s fv v w) : (Cmp.rdr R TB DT K n).Step (opOf t) w ((Cmp.rdr R TB DT K n).GP w (Cmp.scK K.c t s) (Cmp.scS t s) 0 0 0 0 (Cmp.scN t s) (Cmp.scB t s)) := by
  have ht : t = 2 ∨ t = 3 ∨ t = 6 ∨ t = 8 ∨ t = 10 ∨ t = 4 ∨ t = 11 ∨ t = 16 := by simpa [isSc, or_assoc] using ht
  rcases ht with rfl | rfl | rfl | rfl | rfl | rfl | rfl | rfl
  · exact Cmp.rstep 13 (by omega) (by omega) (by omega) h (fun w h => c_plain_any 13 2 (by omega) h (fun w h => c_op13 h))
  · exact Cmp.rstep 14 (by omega) (by omega) (by omega) h (fun w h => c_plain_any 14 3 (by omega) h (fun w h => c_op14 h))
  · exact Cmp.rstep 15 (by omega) (by omega) (by omega) h (fun w h => c_plain_any 15 6 (by omega) h (fun w h => c_op15 h))
  · exact Cmp.rstep 16 (by omega) (by omega) (by omega) h (fun w h => c_plain_any 16 8 (by omega) h (fun w h => c_op16 h))
  · exact Cmp.rstep 17 (by omega) (by omega) (by omega) h (fun w h => c_plain_any 17 10 (by omega) h (fun w h => c_op17 h))
  · exact Cmp.rstep 18 (by omega) (by omega) (by omega) h (fun w h => c_plain_any 18 4 (by omega) h (fun w h => c_op18 h))
  · exact Cmp.rstep 19 (by omega) (by omega) (by omega) h (fun w h => c_plain_any 19 11 (by omega) h (fun w h => c_op19 h))
  · exact Cmp.rstep 21 (by omega) (by omega) (by omega) h (fun w h => c_plain_any 21 16 (by omega) h (fun w h => c_op21 h))
theorem Cmp.rdr_ok : (Cmp.rdr R TB DT K n).Ok where
  pr := Cmp.ok K
  lt := by
    rintro s w ⟨fv, v, h⟩ i hi
    exact Cmp.rM_lt h i hi
  turn := by
    rintro s w w' N ⟨fv, v, h⟩ hk hN
    have hN' : ∀ i, N i → ¬ (RTD R TB DT i ∨ fv.ownBlock = some i) := fun i x y => hN i x ((Cmp.rM_at h i).2 y)
    have h1 := h.keep hk (fun x => hN' _ x (.inl (.inl rfl))) (fun x => hN' _ x (.inl (.inr (.inl rfl)))) (fun x => hN' _ x (.inl (.inr (.inr rfl)))) (fun i e x => hN' i x (.inr e))
    exact ⟨⟨fv, v, h1⟩, fun i x => (Cmp.rM_at h i).2 ((Cmp.rM_at h1 i).1 x)⟩
  sc := by
    rintro s w t ht ⟨fv, v, h⟩
    exact Cmp.rscalar t ht h
  sb := by
    rintro s w ⟨fv, v, h⟩ hd
    exact Cmp.rstep 2 (by omega) (by omega) (by omega) h (fun w h => c_else 2 (by omega) (by omega) h (fun hp => c_d2_false hp hd h))
  se := by
    rintro s w ⟨fv, v, h⟩ hd
    exact Cmp.rstep 3 (by omega) (by omega) (by omega) h (fun w h => c_else 3 (by omega) (by omega) h (fun hp => c_d3_false hp hd h))
  f := by
    rintro s w ⟨fv, v, h⟩
    exact Cmp.rstep 4 (by omega) (by omega) (by omega) h (fun w h => c_else 4 (by omega) (by omega) h (fun hp => (c_d4_false hp h).mono (fun e w' hg => hg.gg h)))
  fe := by
    rintro s w ⟨fv, v, h⟩
    refine Cmp.rstep 5 (by omega) (by omega) (by omega) h (fun w h => ?_)
    cases hp : s.pend with
    | false => exact (c_d5_false hp h).mono (fun e w' hg => hg.gg h)
    | true => exact (c_d5_true hp h).mono (fun e w' hg => hg.gg h)
  m := by
    rintro s w ⟨fv, v, h⟩
    exact Cmp.rstep 7 (by omega) (by omega) (by omega) h (fun w h => c_else 7 (by omega) (by omega) h (fun hp => (c_d7_false hp h).mono (fun e w' hg => hg.gg h)))
  me := by
    rintro s w ⟨fv, v, h⟩
    exact Cmp.rstep 8 (by omega) (by omega) (by omega) h (fun w h => c_else 8 (by omega) (by omega) h (fun hp => (c_d8_false hp h).mono (fun e w' hg => hg.gg h)))
  l := by
    rintro s w ⟨fv, v, h⟩
    exact Cmp.rstep 9 (by omega) (by omega) (by omega) h (fun w h => c_else 9 (by omega) (by omega) h (fun hp => (c_d9_false hp h).mono (fun e w' hg => hg.gg h)))
  le := by
    rintro s w ⟨fv, v, h⟩
    exact Cmp.rstep 10 (by omega) (by omega) (by omega) h (fun w h => c_else 10 (by omega) (by omega) h (fun hp => (c_d10_false hp h).mono (fun e w' hg => hg.gg h)))
  t := by
    rintro s w ⟨fv, v, h⟩
    exact Cmp.rstep 11 (by omega) (by omega) (by omega) h (fun w h => c_else 11 (by omega) (by omega) h (fun hp => (c_d11_false hp h).mono (fun e w' hg => hg.gg h)))
  te := by
    rintro s w ⟨fv, v, h⟩
    exact Cmp.rstep 12 (by omega) (by omega) (by omega) h (fun w h => c_else 12 (by omega) (by omega) h (fun hp => (c_d12_false hp h).mono (fun e w' hg => hg.gg h)))
end
end Go.Proofs.YthehmlbolajljaaGreatDoor

namespace Go.Proofs.YthehmlbolajljaaGreatDoor
open Go Go.RowKit
def cmK (c : Cfg) (s : Cmp.St) : Int := match s.rem with
  | [] => 1
  | b :: r => if b.toNat = 130 then (match r with | [] => 1 | b1 :: r1 => if b1.toNat % 32 = 1 then (if vK r1 = 0 then cstrK (vR r1) c else pk (vK r1)) else 14) else 14
def cmS (s : Cmp.St) : Cmp.St := s.at (cstrRem (vR (s.rem.drop 2)))
def cmT (s : Cmp.St) : Int := match s.rem with | _ :: b1 :: _ => ((b1.toNat / 32 : Nat) : Int) | _ => 0
def cmN (s : Cmp.St) : Int := v32 (s.rem.drop 2)
def cmB (s : Cmp.St) : List UInt8 := cstrS (vR (s.rem.drop 2))
theorem cmK_lt (c : Cfg) (s : Cmp.St) : cmK c s < 50 := by
  unfold cmK; repeat' split
  all_goals first | decide | exact pk_lt _ | exact cstrK_lt _ _
theorem and31_fin : ∀ m : Fin 256, bits .and .u8 ((m.val : Nat) : Int) 31 = ((m.val % 32 : Nat) : Int) := by decide +kernel
theorem u8_and31 (b : UInt8) : bits .and .u8 ((b.toNat : Nat) : Int) 31 = ((b.toNat % 32 : Nat) : Int) := and31_fin ⟨b.toNat, b.toNat_lt⟩
theorem and7_fin : ∀ m : Fin 8, bits .and .u8 ((m.val : Nat) : Int) 7 = ((m.val : Nat) : Int) := by decide +kernel
theorem shr5_and (b : UInt8) : bits .and .u8 ((b.toNat : Int) / 32) 7 = (b.toNat : Int) / 32 := by
  have h := b.toNat_lt
  have := and7_fin ⟨b.toNat / 32, by omega⟩
  simpa using this
section
variable {E : Env} {P MB B D : Nat} {a : Option Addr} {c : Cfg} {s s' : Cmp.St} {fv : Value} {sc sc' : List UInt8} {w w' : World}
def CMsg (E : Env) (P MB B D : Nat) (a : Option Addr) (c : Cfg) (s : Cmp.St) (fv : Value) (w : World) (e : Ending) (w' : World) : Prop :=
  ∃ n t sq ev s' sc', e = .returned (.tuple #[.string n, .int .i32 t, .int .i32 sq, ev]) ∧ ErrAt E w.heap.size w' ev (cmK c s) ∧ CmpP E P MB B D a c s' fv sc' w' ∧ Keep (MB2 P B) w w' ∧
    (cmK c s = 0 → n = ⟨(cmB s).toArray⟩ ∧ t = cmT s ∧ sq = cmN s ∧ s' = cmS s)
set_option maxRecDepth 100000 in
set_option maxHeartbeats 4000000 in
theorem cmp_msgBegin (h : CmpP E P MB B D a c s fv sc w) :
    Calls Tryz.prog 191 #[.pointer (some ⟨P, 0, none⟩), ctxV] w (CMsg E P MB B D a c s fv w) := by
  go_enter Tryz.func191, Tryz.ntmps191
  go_wp2_with fail
  refine (ctx_deadline _).mono ?_
  rintro e w1 ⟨rfl, hk1⟩
  go_wp2_with fail
  generalize hw2 : w1.alloc (.cells #[] 366) = w2
  have hk2 : Keep (fun _ => False) w w2 := hw2 ▸ hk1.alloc _
  clear hw2 hk1
  have h2 := h.fresh hk2
  have HK2 := Lib.hid hk2
  clear hk2
  refine wp_loop_rounds 1 ?_
  rw [rounds_succ]
  go_wp2_with fail
  refine (cmp_byte h2).mono ?_
  rintro e w3 ⟨n, ev, rfl, he, hp, hk, hn, hv⟩
  have HK3 := Lib.hid ((HK2.out.weak (fun _ _ x => x.elim) : Keep (MB2 P B) w w2).then (hk.weak (fun _ _ x => .inl x)))
  obtain ⟨rem, last, outer, pend, val⟩ := s
  cases rem with
  | nil =>
    have HE := Lib.hid (he.mono HK2.out.size)
    obtain ⟨t, x, rfl⟩ := he.held (show (1 : Int) ≠ 0 by decide)
    clear hv he
    go_wp2_with fail
    go_returns
    exact ⟨_, _, _, _, _, _, rfl, HE.out, hp, HK3.out, fun hh => by cases hh⟩
  | cons b r =>
    have hev : ev = .nilIface := by rw [endK, if_pos (by simp)] at he; exact he.isNil
    subst hev
    have hnb := hv b r rfl
    subst hnb
    have HP1 : Hid (CmpP E P MB B D a c ⟨r, last, outer, pend, val⟩ fv sc w3) := Lib.hid hp
    clear hv he hp hk hn h2
    by_cases hid : b.toNat = 130
    · have hidi : (b.toNat : Int) = 130 := by omega
      rw [hidi]
      go_wp2_with fail
      refine (cmp_byte HP1.out).mono ?_
      rintro e w4 ⟨n, ev, rfl, he, hp, hk, hn, hv⟩
      have HK4 := Lib.hid (HK3.out.then (hk.weak (fun _ _ x => .inl x)))
      cases r with
      | nil =>
        have HE := Lib.hid (he.mono HK3.out.size)
        have HKK : Hid (cmK c ⟨[b], last, outer, pend, val⟩ = 1) := Lib.hid (by simp only [cmK]; rw [if_pos hid])
        obtain ⟨t, x, rfl⟩ := he.held (show (1 : Int) ≠ 0 by decide)
        clear hv he
        go_wp2_with fail
        go_returns
        exact ⟨_, _, _, _, _, _, rfl, by rw [HKK.out]; exact HE.out, hp, HK4.out, fun hh => by rw [HKK.out] at hh; omega⟩
      | cons b1 r1 =>
        have hev : ev = .nilIface := by rw [endK, if_pos (by simp)] at he; exact he.isNil
        subst hev
        have hnb := hv b1 r1 rfl
        subst hnb
        have HP2 : Hid (CmpP E P MB B D a c ⟨r1, last, outer, pend, val⟩ fv sc w4) := Lib.hid hp
        have h31 := u8_and31 b1
        have h7 := shr5_and b1
        have hb8 := b1.toNat_lt
        clear hv he hp hk hn
        by_cases hver : b1.toNat % 32 = 1
        · have hveri : ((b1.toNat % 32 : Nat) : Int) = 1 := by omega
          rw [hveri] at h31
          have HKA : Hid (cmK c ⟨b :: b1 :: r1, last, outer, pend, val⟩ = if vK r1 = 0 then cstrK (vR r1) c else pk (vK r1)) := Lib.hid (by simp only [cmK]; rw [if_pos hid, if_pos hver])
          go_wp2_with fail
          refine (cmp_varint32 HP2.out).mono ?_
          rintro e w5 ⟨sq, ev, rfl, he5, hp5, hk5, hv5, hlo5, hhi5⟩
          have HK5 := Lib.hid (HK4.out.then (hk5.weak (fun _ _ x => .inl x)))
          by_cases hz : vK r1 = 0
          · have hev : ev = .nilIface := by
              have he2 : ErrAt E w4.heap.size w5 ev (vK r1) := he5
              rw [hz] at he2; exact he2.isNil
            subst hev
            have HSQ : Hid (sq = v32 r1) := Lib.hid (hv5 hz)
            have HKB : Hid (cmK c ⟨b :: b1 :: r1, last, outer, pend, val⟩ = cstrK (vR r1) c) := Lib.hid (HKA.out.trans (if_pos hz))
            clear he5 hv5 hz
            go_wp2_with fail
            refine (cmp_readString hp5).mono ?_
            rintro e w6 ⟨l, ev, r', sc', rfl, he6, hp6, hl6, hk6, hv6⟩
            have HK6 := Lib.hid (HK5.out.then hk6)
            have HE6 := Lib.hid (he6.mono HK5.out.size)
            have HV6 := Lib.hid hv6
            clear he6 hv6
            go_wp2_with fail
            go_returns
            refine ⟨_, _, _, _, _, _, rfl, by rw [HKB.out]; exact HE6.out, hp6, HK6.out, fun hh => ?_⟩
            rw [HKB.out] at hh
            obtain ⟨q1, q2⟩ := HV6.out hh
            refine ⟨by rw [q1]; rfl, ?_, by rw [HSQ.out]; rfl, by rw [q2]; rfl⟩
            simp [cmT]
          · have he2 : ErrAt E w4.heap.size w5 ev (vK r1) := he5
            have HE := Lib.hid (he2.mono HK4.out.size)
            obtain ⟨t, x, rfl⟩ := he2.held hz
            have HKB : Hid (cmK c ⟨b :: b1 :: r1, last, outer, pend, val⟩ = pk (vK r1)) := Lib.hid (HKA.out.trans (if_neg hz))
            have HZ := Lib.hid hz
            have hlt := vK_lt r1
            clear he5 he2 hv5 hz
            go_wp2_with fail
            refine (newPExc hp5.glob HK5.out.size HE.out hlt).mono ?_
            rintro e w6 ⟨ev', rfl, he6, hk6⟩
            go_wp2_with fail
            go_returns
            exact ⟨_, _, _, _, _, _, rfl, by rw [HKB.out]; exact he6, hp5.fresh hk6, HK5.out.then (hk6.weak (fun _ _ x => x.elim)), fun hh => absurd (HKB.out ▸ hh) (pk_ne HZ.out)⟩
        · have hveri : ¬ ((b1.toNat % 32 : Nat) : Int) = 1 := by omega
          have HKA : Hid (cmK c ⟨b :: b1 :: r1, last, outer, pend, val⟩ = 14) := Lib.hid (by simp only [cmK]; rw [if_pos hid, if_neg hver])
          obtain ⟨m, hm⟩ : ∃ m : Int, ((b1.toNat % 32 : Nat) : Int) = m := ⟨_, rfl⟩
          rw [hm] at h31 hveri
          have hm0 : 0 ≤ m := by omega
          have hm1 : m < 32 := by omega
          clear hm hver
          go_wp2_with fail
          refine (errNew _ _).mono ?_
          rintro e w8 ⟨q, rfl, hb, _, hk8⟩
          go_wp2_with fail
          refine (newPExcT' (E := E) (n0 := w.heap.size) 4 (by omega) q 0 _ _ hb (hk8.lt HK4.out.size)).mono ?_
          rintro e w9 ⟨v, rfl, hv, hk9⟩
          go_wp2_with fail
          go_returns
          exact ⟨_, _, _, _, _, _, rfl, by rw [HKA.out]; exact hv, HP2.out.fresh (hk8.then hk9), HK4.out.then ((hk8.then hk9).weak (fun _ _ x => x.elim)), fun hh => by rw [HKA.out] at hh; omega⟩
    · have hidi : ¬ (b.toNat : Int) = 130 := by omega
      have HKA : Hid (cmK c ⟨b :: r, last, outer, pend, val⟩ = 14) := Lib.hid (by simp only [cmK]; rw [if_neg hid])
      have hb8 := b.toNat_lt
      clear hid
      go_wp2_with fail
      refine (errNew _ _).mono ?_
      rintro e w8 ⟨q, rfl, hb, _, hk8⟩
      go_wp2_with fail
      refine (newPExcT' (E := E) (n0 := w.heap.size) 4 (by omega) q 0 _ _ hb (hk8.lt HK3.out.size)).mono ?_
      rintro e w9 ⟨v, rfl, hv, hk9⟩
      go_wp2_with fail
      go_returns
      exact ⟨_, _, _, _, _, _, rfl, by rw [HKA.out]; exact hv, HP1.out.fresh (hk8.then hk9), HK3.out.then ((hk8.then hk9).weak (fun _ _ x => x.elim)), fun hh => by rw [HKA.out] at hh; omega⟩
end
end Go.Proofs.YthehmlbolajljaaGreatDoor

namespace Go.Proofs.YthehmlbolajljaaGreatDoor
open Go Go.RowKit
section
variable {R TB DT : Nat} {c : Cfg} {n : Int} {s s2 s' : Cmp.St} {fv : Value} {v v2 : Int} {w w1 w' : World}
set_option maxRecDepth 100000 in
set_option maxHeartbeats 8000000 in
theorem c_msg (h : RdC R TB DT c n s fv v w) :
    Calls Tryz.prog 100 #[.pointer (some ⟨R, 0, none⟩)] w (GC R TB DT c n s fv w (cmK c s) (cmS s) (cmT s) 0 0 0 (cmN s) (cmB s)) := by
  obtain ⟨rem, last, outer, pend, val⟩ := s
  have hk0 : Keep (fun _ => False) w (w.alloc (.cells zGot 107)) := (Keep.refl _ w).alloc _
  have hU0 := heap_alloc_new w (.cells zGot 107)
  have hTU := h.ltT
  have hRU := h.ltR
  have HH := Lib.hid h
  go_enter Tryz.func100, Tryz.ntmps100
  go_wp2_with fail
  have hsA : (w.alloc (.cells zGot 107)).heap.size = w.heap.size + 1 := by simp
  generalize w.alloc (.cells zGot 107) = wA at *
  obtain ⟨U, hU⟩ : ∃ U, w.heap.size = U := ⟨_, rfl⟩
  rw [hU] at hU0 hTU hRU hsA ⊢
  have HUS := Lib.hid hU
  clear hU
  have hA := h.fresh hk0
  refine (rd_byte hA.p).mono ?_
  rintro e w1 ⟨b0, x, rfl, hx, hp1, hk1, hb⟩
  have hs1 : U + 1 ≤ w1.heap.size := by have := hk1.size; omega
  have HU := Lib.hid ((hk1.block U (lt_of_heap hU0) (by omega)).trans hU0)
  have HK := Lib.hid ((hk0.weak (fun _ _ x => x.elim) : Keep (RT R TB) w wA).then (hk1.weak (fun _ _ x => .inr x)))
  have H1 := Lib.hid (hA.took hp1 hk1)
  obtain ⟨u0, u1, u2, u3, u4, u5, u6⟩ := got_cells HU.out
  obtain ⟨f0, f1, f2, f3, f4, f5, f6⟩ := got_free HU.out
  clear hU0 hp1 hk1
  cases rem with
  | nil =>
    have hx1 : x = -1 := by rcases hx with ⟨hx, _⟩ | ⟨_, hx⟩; exact hx; exact absurd rfl hx
    subst hx1
    clear hx hb
    go_wp2_with fail
    exact gc_ret (U := U) Tryz.results100 rfl rfl (Nat.le_of_eq HUS.out) HH.out H1.out HK.out HU.out ⟨_, _, _, rfl⟩ (.inr (.inl ⟨rfl, by simp [cmK], cmK_lt _ _⟩)) (fun hz => by cases hz)
  | cons b r =>
    have hx1 : x = 0 := by rcases hx with ⟨_, hx⟩ | ⟨hx, _⟩; cases hx; exact hx
    subst hx1
    have hb0 := hb b r rfl
    subst hb0
    have hb8 := b.toNat_lt
    clear hx hb
    by_cases hid : b.toNat = 130
    · have hidi : (b.toNat : Int) = 130 := by omega
      rw [hidi]
      go_wp2_with fail
      refine (rd_byte H1.out.p).mono ?_
      rintro e w2 ⟨b0, x, rfl, hx, hp2, hk2, hb⟩
      have hs2 : U + 1 ≤ w2.heap.size := by have := hk2.size; omega
      have HU2 := Lib.hid ((hk2.block U (lt_of_heap HU.out) (by omega)).trans HU.out)
      have HK2 := Lib.hid (HK.out.then (hk2.weak (fun _ _ x => .inr x)))
      have H2 := Lib.hid (H1.out.took hp2 hk2)
      clear u0 u1 u2 u3 u4 u5 u6 f0 f1 f2 f3 f4 f5 f6 hp2 hk2
      obtain ⟨u0, u1, u2, u3, u4, u5, u6⟩ := got_cells HU2.out
      obtain ⟨f0, f1, f2, f3, f4, f5, f6⟩ := got_free HU2.out
      cases r with
      | nil =>
        have hx1 : x = -1 := by rcases hx with ⟨hx, _⟩ | ⟨_, hx⟩; exact hx; exact absurd rfl hx
        subst hx1
        have HKK : Hid (cmK c ⟨[b], last, outer, pend, val⟩ = 1) := Lib.hid (by simp only [cmK]; rw [if_pos hid])
        clear hx hb
        go_wp2_with fail
        exact gc_ret (U := U) Tryz.results100 rfl rfl (Nat.le_of_eq HUS.out) HH.out H2.out HK2.out HU2.out ⟨_, _, _, rfl⟩ (.inr (.inl ⟨rfl, by rw [HKK.out]; decide, cmK_lt _ _⟩)) (fun hz => by cases hz)
      | cons b1 r1 =>
        have hx1 : x = 0 := by rcases hx with ⟨_, hx⟩ | ⟨hx, _⟩; cases hx; exact hx
        subst hx1
        have hb0 := hb b1 r1 rfl
        subst hb0
        have h31 := u8_and31 b1
        have hb18 := b1.toNat_lt
        clear hx hb
        by_cases hver : b1.toNat % 32 = 1
        · have hveri : ((b1.toNat % 32 : Nat) : Int) = 1 := by omega
          rw [hveri] at h31
          have HKA : Hid (cmK c ⟨b :: b1 :: r1, last, outer, pend, val⟩ = if vK r1 = 0 then cstrK (vR r1) c else pk (vK r1)) := Lib.hid (by simp only [cmK]; rw [if_pos hid, if_pos hver])
          go_wp2_with fail
          refine (rd_varint H2.out.p 32 (.inl rfl)).mono ?_
          rintro e w3 ⟨N, x, r', rfl, hp3, hl3, hk3, hx, hN⟩
          have hs3 : U + 1 ≤ w3.heap.size := by have := hk3.size; omega
          have HU3 := Lib.hid ((hk3.block U (lt_of_heap HU2.out) (by omega)).trans HU2.out)
          have HK3 := Lib.hid (HK2.out.then (hk3.weak (fun _ _ x => .inr x)))
          have H3 := Lib.hid (H2.out.took hp3 hk3)
          clear u0 u1 u2 u3 u4 u5 u6 f0 f1 f2 f3 f4 f5 f6 hp3 hk3
          obtain ⟨u0, u1, u2, u3, u4, u5, u6⟩ := got_cells HU3.out
          obtain ⟨f0, f1, f2, f3, f4, f5, f6⟩ := got_free HU3.out
          rcases hx with ⟨rfl, rfl⟩ | ⟨rfl, rfl, hvv⟩ | ⟨rfl, hvv, hnn, hr⟩
          · go_wp2_with fail
            exact gc_ret (U := U) Tryz.results100 rfl rfl (Nat.le_of_eq HUS.out) HH.out H3.out HK3.out HU3.out ⟨_, _, _, rfl⟩ (.inl rfl) (fun hz => by cases hz)
          · have HV : Hid (¬ vK r1 = 0) := Lib.hid hvv
            clear hvv
            go_wp2_with fail
            exact gc_ret (U := U) Tryz.results100 rfl rfl (Nat.le_of_eq HUS.out) HH.out H3.out HK3.out HU3.out ⟨_, _, _, rfl⟩ (.inr (.inl ⟨rfl, by rw [HKA.out, if_neg HV.out]; exact pk_ne HV.out, cmK_lt _ _⟩)) (fun hz => by cases hz)
          · have HV : Hid (vK r1 = 0) := Lib.hid hvv
            have HKB : Hid (cmK c ⟨b :: b1 :: r1, last, outer, pend, val⟩ = cstrK (vR r1) c) := Lib.hid (HKA.out.trans (if_pos hvv))
            have hr2 : r' = vR r1 := hr
            subst hr2
            have HNN : Hid (N = vN r1) := Lib.hid hnn
            have hN2 : N < 4294967296 := by simpa using hN
            clear hvv hnn hr hN
            go_wp2_with fail
            refine (rd_text H3.out.p).mono ?_
            rintro e w4 ⟨S, x, r', rfl, hx, hp4, hl4, hr, hk4, hb, Sa, Sm, Sc, rfl⟩
            have HU4 := Lib.hid ((hk4.block U (lt_of_heap HU3.out) (by omega)).trans HU3.out)
            have HK4 := Lib.hid (HK3.out.then (hk4.weak (fun _ _ x => .inr x)))
            have H4 := Lib.hid (H3.out.took hp4 hk4)
            have HX := Lib.hid hx
            have HR := Lib.hid hr
            have HB := Lib.hid hb
            clear u0 u1 u2 u3 u4 u5 u6 f0 f1 f2 f3 f4 f5 f6 hp4 hk4 hx hr hb
            obtain ⟨u0, u1, u2, u3, u4, u5, u6⟩ := got_cells HU4.out
            obtain ⟨f0, f1, f2, f3, f4, f5, f6⟩ := got_free HU4.out
            by_cases hx0 : x = 0
            · subst hx0
              have HSH : Hid (IntKind.i32.wrap (N : Int) = v32 r1) := Lib.hid (by rw [i32_w32, HNN.out, v32_eq])
              obtain ⟨sq, hsq⟩ : ∃ sq, IntKind.i32.wrap (N : Int) = sq := ⟨_, rfl⟩
              have hsb := v32_bd r1
              rw [← HSH.out, hsq] at hsb
              obtain ⟨hsb1, hsb2⟩ := hsb
              go_wp2_with fail
              refine gc_ret (U := U) Tryz.results100 rfl rfl (Nat.le_of_eq HUS.out) HH.out H4.out HK4.out HU4.out ⟨_, _, _, rfl⟩ (by rw [HKB.out]; exact HX.out) (fun _ => ⟨?_, rfl, rfl, rfl, rfl, hsq.symm.trans HSH.out, ?_⟩)
              · rw [HR.out (by trivial)]
                rfl
              · exact (HB.out (by trivial)).weak (fun i _ hi => by omega)
            · have hxb : (x == 0) = false := by simpa using hx0
              have HX0 := Lib.hid hx0
              go_wp2_with fail
              exact gc_ret (U := U) Tryz.results100 rfl rfl (Nat.le_of_eq HUS.out) HH.out H4.out HK4.out HU4.out ⟨_, _, _, rfl⟩ (by rw [HKB.out]; exact HX.out) (fun hz => absurd hz HX0.out)
        · have hveri : ¬ ((b1.toNat % 32 : Nat) : Int) = 1 := by omega
          have HKA : Hid (cmK c ⟨b :: b1 :: r1, last, outer, pend, val⟩ = 14) := Lib.hid (by simp only [cmK]; rw [if_pos hid, if_neg hver])
          obtain ⟨m, hm⟩ : ∃ m : Int, ((b1.toNat % 32 : Nat) : Int) = m := ⟨_, rfl⟩
          rw [hm] at h31 hveri
          clear hm hver
          go_wp2_with fail
          exact gc_ret (U := U) Tryz.results100 rfl rfl (Nat.le_of_eq HUS.out) HH.out H2.out HK2.out HU2.out ⟨_, _, _, rfl⟩ (.inr (.inl ⟨rfl, by rw [HKA.out]; decide, cmK_lt _ _⟩)) (fun hz => by cases hz)
    · have hidi : ¬ (b.toNat : Int) = 130 := by omega
      have HKA : Hid (cmK c ⟨b :: r, last, outer, pend, val⟩ = 14) := Lib.hid (by simp only [cmK]; rw [if_neg hid])
      clear hid
      go_wp2_with fail
      exact gc_ret (U := U) Tryz.results100 rfl rfl (Nat.le_of_eq HUS.out) HH.out H1.out HK.out HU.out ⟨_, _, _, rfl⟩ (.inr (.inl ⟨rfl, by rw [HKA.out]; decide, cmK_lt _ _⟩)) (fun hz => by cases hz)
set_option maxRecDepth 100000 in
set_option maxHeartbeats 8000000 in
theorem c_d0_false (hp : s.pend = false) (h : RdC R TB DT c n s fv v w) :
    Calls Tryz.prog 88 #[.pointer (some ⟨R, 0, none⟩), .agg (stepA 0)] w (GC R TB DT c n s fv w (cmK c s) (cmS s) (cmT s) 0 0 0 (cmN s) (cmB s)) := by
  have hTU := h.ltT
  have hRU := h.ltR
  have HH := Lib.hid h
  obtain ⟨c9, c10, c11, c12⟩ := h.ccells
  rw [hp] at c11
  have hk0 : Keep (fun _ => False) w ((w.alloc (.cells (stepA 0) 173)).alloc (.cells zGot 107)) := ((Keep.refl _ w).alloc _).alloc _
  have hU0 := heap_alloc_new (w.alloc (.cells (stepA 0) 173)) (.cells zGot 107)
  go_enter Tryz.func88, Tryz.ntmps88
  go_wp2_with fail
  obtain ⟨U, hU⟩ : ∃ U, w.heap.size + 1 = U := ⟨_, rfl⟩
  have hsA : ((w.alloc (.cells (stepA 0) 173)).alloc (.cells zGot 107)).heap.size = U + 1 := by simp [← hU]
  rw [show (w.alloc (.cells (stepA 0) 173)).heap.size = U by simp [← hU]] at hU0
  generalize (w.alloc (.cells (stepA 0) 173)).alloc (.cells zGot 107) = wA at *
  rw [hU]
  have HUS := Lib.hid hU
  clear hU
  have hA := h.fresh hk0
  refine (c_msg hA).mono ?_
  rintro e w1 ⟨x, t, kt, size, id, N', S', rfl, ⟨Sa, Sm, Sc, rfl⟩, hx, h1, hk1, hv⟩
  have HU := Lib.hid ((hk1.block U (lt_of_heap hU0) (by have := HUS.out; rintro (e | e) <;> omega)).trans hU0)
  have HK := Lib.hid hk1
  have H1 := Lib.hid h1
  have HX := Lib.hid hx
  have HV := Lib.hid hv
  have HK0 := Lib.hid hk0
  obtain ⟨u0, u1, u2, u3, u4, u5, u6⟩ := got_cells HU.out
  obtain ⟨f0, f1, f2, f3, f4, f5, f6⟩ := got_free HU.out
  clear hx hv hU0 h1 hk1 hk0
  go_wp2_with fail
  exact gc_thru (U := U) Tryz.results88 rfl rfl (by have := HUS.out; omega) hsA HH.out HK0.out HU.out ⟨_, _, _, rfl⟩ HX.out H1.out HK.out HV.out
set_option maxRecDepth 100000 in
set_option maxHeartbeats 8000000 in
theorem c_d1_false (hp : s.pend = false) (h : RdC R TB DT c n s fv v w) :
    Calls Tryz.prog 88 #[.pointer (some ⟨R, 0, none⟩), .agg (stepA 1)] w (GC R TB DT c n s fv w 0 s 0 0 0 0 0 []) := by
  have hTU := h.ltT
  have hRU := h.ltR
  have HH := Lib.hid h
  obtain ⟨c9, c10, c11, c12⟩ := h.ccells
  rw [hp] at c11
  go_enter Tryz.func88, Tryz.ntmps88
  go_wp2_with fail
  exact gc_ret_new (U := w.heap.size + 1) Tryz.results88 rfl rfl (by simp) HH.out (HH.out.fresh ((Keep.refl _ w).alloc _)) ((Keep.refl _ w).alloc _) ⟨_, _, _, rfl⟩ (.inr (.inr rfl)) (fun _ => ⟨rfl, rfl, rfl, rfl, rfl, rfl, fun w2 => BytesAt.nil _ w2⟩)
end
end Go.Proofs.YthehmlbolajljaaGreatDoor
