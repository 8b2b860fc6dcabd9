/- Part 21 of the proof: Ds4, Ds5. -/
import Derived.Test.YtjekbomlpcdojaaGreatDoorH18
import Derived.Test.YtjekbomlpcdojaaGreatDoorH20
import Derived.Test.YtjekbomlpcdojaaGreatDoorH14
import Derived.Test.YtjekbomlpcdojaaGreatDoorH19
import Derived.Test.YtjekbomlpcdojaaGreatDoorH16
import Derived.Test.YtjekbomlpcdojaaGreatDoorH11
import Derived.WalkSpells
set_option linter.unusedVariables false
set_option linter.unusedSimpArgs false
set_option linter.unusedSectionVars false
set_option maxHeartbeats 16000000
namespace Go.Proofs.YtjekbomlpcdojaaGreatDoor
open Go Go.RowKit
abbrev askC (who kd : Int) (nm : ByteArray) (sq : Int) : Array Value := #[.int .i64 who, .int .i64 kd, .string nm, .int .i32 sq]
abbrev procC (id : Int) (t r : Nat) : Array Value := #[.int .i64 id, .pointer (some ⟨t, 0, none⟩), .map (some r)]
abbrev procV (P : Nat) : Value := .iface 107 (.pointer (some ⟨P, 0, none⟩))
abbrev muxC (r : Nat) (D : Value) : Array Value := #[.map (some r), D]
abbrev stoC (V : Value) (nm : ByteArray) (t q : Int) : Array Value := #[V, .string nm, .int .i32 t, .int .i32 q]
set_option maxRecDepth 100000 in
theorem newProc_at (id : Int) (t : Nat) (w : World) :
  Calls Tryz.prog 43 #[.int .i64 id, .pointer (some ⟨t, 0, none⟩), .slice none 0 0] w fun e w' => ∃ P r, e = .returned (.pointer (some ⟨P, 0, none⟩)) ∧ w.heap.size ≤ P ∧ w'.heap[P]? = some (.cells (procC id t r) 192 (0, 0)) ∧ Keep (fun _ => False) w w' := by
 go_enter Tryz.func43, Tryz.ntmps43
 go_wp2_with (refine wpList_mkmapS rfl _ rfl ?_)
 have hk0 : Keep (fun _ => False) w ((w.alloc (.map #[] 0)).alloc (.cells (procC id t w.heap.size) 192 (0, 0))) := ((Keep.refl _ w).alloc _).alloc _
 have hP0 : ((w.alloc (.map #[] 0)).alloc (.cells (procC id t w.heap.size) 192 (0, 0))).heap[w.heap.size + 1]? = some (.cells (procC id t w.heap.size) 192 (0, 0)) := heap_alloc_at (by simp) _
 generalize (w.alloc (.map #[] 0)).alloc (.cells (procC id t w.heap.size) 192 (0, 0)) = w2 at *
 go_loopg [17] 0 (fun k v17 wr => v17 = .int .i64 0 ∧ w2 = wr)
 case atStart => exact ⟨rfl, rfl⟩
 case round =>
  obtain ⟨rfl, rfl⟩ := hrel
  go_wp2_with fail
  go_ret
  exact ⟨_, _, rfl, Nat.le_succ _, hP0, hk0⟩
set_option maxRecDepth 100000 in
theorem newMux_at (w : World) :
  Calls Tryz.prog 41 #[] w fun e w' => ∃ M r, e = .returned (.pointer (some ⟨M, 0, none⟩)) ∧ w.heap.size ≤ M ∧ w.heap.size ≤ r ∧ w'.heap[M]? = some (.cells (muxC r .nilIface) 189 (0, 0)) ∧ w'.heap[r]? = some (.map #[] 0) ∧ Keep (fun _ => False) w w' := by
 go_enter Tryz.func41, Tryz.ntmps41
 go_wp2_with (refine wpList_mkmapS rfl _ rfl ?_)
 go_ret
 exact ⟨_, w.heap.size, rfl, Nat.le_succ _, Nat.le_refl _, heap_alloc_at (by simp) _, (Below.heap_alloc _ _ _ (by simp)).trans (heap_alloc_new w _), ((Keep.refl _ w).alloc _).alloc _⟩
set_option maxRecDepth 100000 in
theorem register_at {M r n P : Nat} {D : Value} {es : Array MapEntry} {f : List UInt8 → Option Value} {w : World} (hM : w.heap[M]? = some (.cells (muxC r D) 189 (0, 0))) (hr : w.heap[r]? = some (.map es n)) (hS : SMap es n f) (k : List UInt8) :
  Calls Tryz.prog 42 #[.pointer (some ⟨M, 0, none⟩), strV k, procV P] w fun e w' => e = .returned (.tuple #[]) ∧ ∃ es' n', w'.heap[r]? = some (.map es' n') ∧ SMap es' n' (fun x => if x = k then some (procV P) else f x) ∧ Keep (r = ·) w w' := by
 have c0 := cellAt hM 0
 simp at c0
 have hnil := run_eql_map_nil (P := Tryz.prog) w 185 _ _ (some r) Tryz.underlying185
 simp only [Option.isNone_some] at hnil
 go_enter Tryz.func42, Tryz.ntmps42
 go_wp2_with (at_mapUpdate; refine wpList_putS rfl _ _ _ Tryz.underlying185 Tryz.underlying9 _ _ _ rfl r rfl k rfl _ rfl es n f hr hS ?_; intro w1 es' n' h1 h2 h3)
 go_end0
 exact ⟨rfl, es', n', h1, h2, h3⟩
set_option maxRecDepth 100000 in
theorem registerDefault_at {M r P : Nat} {D : Value} {w : World} (hM : w.heap[M]? = some (.cells (muxC r D) 189 (0, 0))) :
  Calls Tryz.prog 44 #[.pointer (some ⟨M, 0, none⟩), procV P] w fun e w' => e = .returned (.tuple #[]) ∧ w'.heap[M]? = some (.cells (muxC r (procV P)) 189 (0, 0)) ∧ Keep (M = ·) w w' := by
 have f1 := freeAt hM 1
 have c1 := cellAt hM 1
 simp at c1
 have h1 := heap_set_same (i := 1) hM (procV P)
 have hk : Keep (M = ·) w (w.setCell ⟨M, 1, none⟩ (procV P)) := (Keep.refl _ w).set M 1 (fun _ => rfl) _
 go_enter Tryz.func44, Tryz.ntmps44
 go_wp2_with fail
 go_end0
 exact ⟨rfl, by simpa using h1, hk⟩
set_option maxRecDepth 100000 in
theorem newSto_at (ty : TypeId) (v : Value) (nm : ByteArray) (t q : Int) (w : World) :
  Calls Tryz.prog 79 #[.iface ty v, .string nm, .int .i32 t, .int .i32 q] w fun e w' => e = .returned (.pointer (some ⟨w.heap.size, 0, none⟩)) ∧ w.alloc (.cells (stoC (.iface ty v) nm t q) 278 (0, 0)) = w' := by
 go_enter Tryz.func79, Tryz.ntmps79
 go_wp2_with fail
 go_ret
 exact ⟨rfl, rfl⟩
theorem sto_meth (S : Nat) : Rp.Meth 202 S "ReadMessageBegin" 354 := ⟨fun w => by kernel_rfl, fun w => by kernel_rfl, fun args w => by kernel_rfl⟩
theorem proc_meth (P : Nat) : Rp.Meth 107 P "Process" 215 := ⟨fun w => by kernel_rfl, fun w => by kernel_rfl, fun args w => by kernel_rfl⟩
set_option maxRecDepth 100000 in
theorem sto_read {S : Nat} {V : Value} {nm : ByteArray} {t q : Int} {w : World} (h : w.heap[S]? = some (.cells (stoC V nm t q) 278 (0, 0))) (cx : Value) :
  Calls Tryz.prog 354 #[.pointer (some ⟨S, 0, none⟩), cx] w fun e w' => e = .returned (.tuple #[.string nm, .int .i32 t, .int .i32 q, .nilIface]) ∧ ∃ n, w.drewN n = w' := by
 have c1 := cellAt h 1
 have c2 := cellAt h 2
 have c3 := cellAt h 3
 simp at c1 c2 c3
 go_enter Tryz.func354, Tryz.ntmps354
 go_wp2_with fail
 go_quiet (fail)
 go_wp2_with fail
 go_returns
 exact ⟨rfl, _, rfl⟩
set_option maxRecDepth 100000 in
theorem proc_at {P T S r : Nat} {id t q : Int} {V out : Value} {nm : ByteArray} {cs : Array Value} {w : World} (hP : w.heap[P]? = some (.cells (procC id T r) 192 (0, 0))) (hT : w.heap[T]? = some (.cells cs 103 (0, 0))) (hcs : cs.size = 4) (hS : w.heap[S]? = some (.cells (stoC V nm t q) 278 (0, 0))) (ht : IntKind.i64.wrap t = t) :
  Calls Tryz.prog 215 #[.pointer (some ⟨P, 0, none⟩), ctxV, .iface 202 (.pointer (some ⟨S, 0, none⟩)), out] w fun e w' => e = .returned (.tuple #[.bool true, .nilIface]) ∧ w'.heap[T]? = some (.cells (askC id t nm q) 103 (0, 0)) ∧ Keep (T = ·) w w' := by
 match cs, hcs with
 | ⟨[u0, u1, u2, u3]⟩, _ =>
 obtain ⟨hm, hna, hcf⟩ := sto_meth S
 go_enter Tryz.func215, Tryz.ntmps215
 go_wp2_with fail
 refine (sto_read hS _).mono ?_
 rintro e w1 ⟨rfl, n, rfl⟩
 have hPn : (w.drewN n).heap[P]? = some (.cells (procC id T r) 192 (0, 0)) := hP
 have hTn : (w.drewN n).heap[T]? = some (.cells #[u0, u1, u2, u3] 103 (0, 0)) := hT
 have c0 := cellAt hP 0
 have c1 := cellAt hP 1
 have f0 := freeAt hT 0
 have f1 := freeAt hT 1
 have f2 := freeAt hT 2
 have f3 := freeAt hT 3
 have t0 := cellAt hT 0
 have t1 := cellAt hT 1
 have t2 := cellAt hT 2
 have t3 := cellAt hT 3
 simp at c0 c1 t0 t1 t2 t3
 go_wp2_with fail
 go_region
 all_goals
  go_wp2_with fail
  go_returns
  have hTm : (w.drewN (n + 1)).heap[T]? = some (.cells #[u0, u1, u2, u3] 103 (0, 0)) := hT
  have h0 := heap_set_same (i := 0) hTm (.int .i64 id)
  have h1 := heap_set_same (i := 1) h0 (.int .i64 t)
  have h2 := heap_set_same (i := 2) h1 (.string nm)
  have h3 := heap_set_same (i := 3) h2 (.int .i32 q)
  exact ⟨rfl, by simpa using h3, ((((((Keep.refl (T = ·) w).drewN _).set T 0 (fun _ => rfl) _).set T 1 (fun _ => rfl) _).set T 2 (fun _ => rfl) _).set T 3 (fun _ => rfl) _)⟩
structure MuxAt (ls : List (List UInt8)) (i : Nat) (fb : Bool) (n0 n1 T M r : Nat) (w : World) (es : Array MapEntry) (n : Nat) (D : Value) (ps : Nat → Nat) : Prop where
 lt : (n0 ≤ T ∧ T < n1) ∧ (n0 ≤ M ∧ M < n1) ∧ (n0 ≤ r ∧ r < n1)
 m : w.heap[M]? = some (.cells (muxC r D) 189 (0, 0))
 t : w.heap[T]? = some (.cells (askC (-2) 0 ⟨#[]⟩ 0) 103 (0, 0))
 r : w.heap[r]? = some (.map es n)
 s : SMap es n (fun k => (lastA ls k i).map fun j => procV (ps j))
 p : ∀ j, j < i → (n0 ≤ ps j ∧ ps j < n1) ∧ ∃ q, w.heap[ps j]? = some (.cells (procC j T q) 192 (0, 0))
 d : (fb = false ∧ D = .nilIface) ∨ (fb = true ∧ ∃ P q, D = procV P ∧ (n0 ≤ P ∧ P < n1) ∧ w.heap[P]? = some (.cells (procC (-1) T q) 192 (0, 0)))
theorem MuxAt.keep {ls : List (List UInt8)} {i : Nat} {fb : Bool} {n0 n1 T M r : Nat} {w w' : World} {es : Array MapEntry} {n : Nat} {D : Value} {ps : Nat → Nat} {N : Nat → Prop} (h : MuxAt ls i fb n0 n1 T M r w es n D ps) (k : Keep N w w') (hN : ∀ i, n0 ≤ i → i < n1 → ¬ N i) : MuxAt ls i fb n0 n1 T M r w' es n D ps := by
 obtain ⟨⟨⟨t1, t2⟩, ⟨m1, m2⟩, ⟨r1, r2⟩⟩, hm, ht, hr, hs, hp, hd⟩ := h
 refine ⟨⟨⟨t1, t2⟩, ⟨m1, m2⟩, ⟨r1, r2⟩⟩, (k.block M (lt_of_heap hm) (hN _ m1 m2)).trans hm, (k.block T (lt_of_heap ht) (hN _ t1 t2)).trans ht, (k.block r (lt_of_heap hr) (hN _ r1 r2)).trans hr, hs, fun j hj => ?_, ?_⟩
 ·obtain ⟨⟨p1, p2⟩, q, hq⟩ := hp j hj
  exact ⟨⟨p1, p2⟩, q, (k.block _ (lt_of_heap hq) (hN _ p1 p2)).trans hq⟩
 ·rcases hd with hd | ⟨hf, P, q, hD, ⟨p1, p2⟩, hq⟩
  ·exact .inl hd
  ·exact .inr ⟨hf, P, q, hD, ⟨p1, p2⟩, (k.block _ (lt_of_heap hq) (hN _ p1 p2)).trans hq⟩
theorem MuxAt.mono {ls : List (List UInt8)} {i : Nat} {fb : Bool} {n0 n1 n2 T M r : Nat} {w : World} {es : Array MapEntry} {n : Nat} {D : Value} {ps : Nat → Nat} (h : MuxAt ls i fb n0 n1 T M r w es n D ps) (hn : n1 ≤ n2) : MuxAt ls i fb n0 n2 T M r w es n D ps := by
 obtain ⟨⟨⟨t1, t2⟩, ⟨m1, m2⟩, ⟨r1, r2⟩⟩, hm, ht, hr, hs, hp, hd⟩ := h
 refine ⟨⟨⟨t1, by omega⟩, ⟨m1, by omega⟩, ⟨r1, by omega⟩⟩, hm, ht, hr, hs, fun j hj => ?_, ?_⟩
 ·obtain ⟨⟨p1, p2⟩, q, hq⟩ := hp j hj
  exact ⟨⟨p1, by omega⟩, q, hq⟩
 ·rcases hd with hd | ⟨hf, P, q, hD, ⟨p1, p2⟩, hq⟩
  ·exact .inl hd
  ·exact .inr ⟨hf, P, q, hD, ⟨p1, by omega⟩, hq⟩
def ProcP (E : Env) (w0 : World) (T : Nat) (gT gN : Int) (q : Int × Int × List UInt8) (e : Ending) (w' : World) : Prop :=
 ∃ b ev, e = .returned (.tuple #[.bool b, ev]) ∧ ErrAt E 0 w' ev q.1 ∧ w'.heap[T]? = some (.cells (if q.1 = 0 then askC q.2.1 gT ⟨q.2.2.toArray⟩ gN else askC (-2) 0 ⟨#[]⟩ 0) 103 (0, 0)) ∧ (q.1 ≠ 0 → q.2.1 = -2) ∧ Keep (fun _ => False) w0 w'
theorem alloc_eq {w w' : World} {o : Obj} (h : w.alloc o = w') : w'.heap[w.heap.size]? = some o := h ▸ heap_alloc_new w o
theorem words_err {E : Env} (b o : Nat) (s : ByteArray) (w : World) (hb : w.cell? ⟨b, o, none⟩ = some (.string s)) :
  Calls Tryz.prog 76 #[.iface 273 (.pointer (some ⟨b, o, none⟩))] w fun e w' => ∃ v, e = .returned v ∧ ErrAt E 0 w' v 10 ∧ Keep (fun _ => False) w w' := by
 refine (newPExc_str b o s w hb).mono ?_
 rintro e w' ⟨rfl, rfl⟩
 exact ⟨_, rfl, .inr (.inr (.inr (.inl ⟨by decide, by decide, PExc.new 0 w 0 _ s (Nat.zero_le _)⟩))), (Keep.refl _ _).alloc _⟩
def TyOk (t : Int) : Prop := t = 1 ∨ t = 4
theorem dspR_none' {gT : Int} {gB : List UInt8} {ls : List (List UInt8)} {fb : Bool} (h : TyOk gT) (hd : dspW ls fb gB = none) : dspR 0 gT gB ls fb = (10, -2, []) := dspR_none h hd
theorem dspR_some' {gT : Int} {gB : List UInt8} {ls : List (List UInt8)} {fb : Bool} (h : TyOk gT) {who : Int} {nm : List UInt8} (hd : dspW ls fb gB = some (who, nm)) : dspR 0 gT gB ls fb = (0, who, nm) := dspR_some h hd
theorem zeroProc (w : World) : (zeroValue 187).run Tryz.prog w = .ok .nilIface w := by kernel_rfl
set_option maxRecDepth 100000 in
theorem mux_process {St : Type} {K : Rp.Ctx St} {gK : St → Int} {gS : St → St} {gT gN : St → Int} {gB : St → List UInt8} {fbg fe : FuncId} (hmg : Rp.Msg K gK gS gT gN gB fbg fe) {s : St} {w0 w : World} (hI : K.Inv s w) (hk0 : Keep (fun _ => False) w0 w) (hg : Glob K.E w0) {ls : List (List UInt8)} {fb : Bool} {n0 n1 T M r n : Nat} {es : Array MapEntry} {D : Value} {ps : Nat → Nat} (hX : MuxAt ls ls.length fb n0 n1 T M r w es n D ps) (hn0 : w0.heap.size ≤ n0) (hKn : ∀ i, K.M w i → n1 ≤ i) (hbd : 0 ≤ gK s ∧ gK s ≤ 16) (hT : IntKind.i64.wrap (gT s) = gT s) (hB : (gB s).length ≤ 140737488355328) (out : Value) (q : Int × Int × List UInt8) (hq : dspR (gK s) (gT s) (gB s) ls fb = q) :
  Calls Tryz.prog 45 #[.pointer (some ⟨M, 0, none⟩), ctxV, K.V, out] w (ProcP K.E w0 T (gT s) (gN s) q) := by
 have HQ := hdd hq
 have HX := hdd hX
 have HKN := hdd hKn
 have HK0 := hdd hk0
 clear hq hX hKn hk0
 obtain ⟨hm, hna, hcf⟩ := hmg.mb
 have hrb := hmg.rb hI
 go_enter Tryz.func45, Tryz.ntmps45
 go_wp2_with fail
 refine hrb.mono ?_
 rintro e w2 ⟨l', t, q', ev, rfl, hp, hv⟩
 have HX2 := hdd (HX.out.keep hp.keep.keep (fun i _ h2 x => by have := HKN.out i x; omega))
 have HK2 := hdd (HK0.out.trans hp.keep.keep (fun i hi x => by have := HKN.out i x; have := HX.out.lt; have := HK0.out.size; omega))
 have HG2 := hdd (hg.keep HK2.out (fun _ x => x.elim))
 have HE := hdd (hp.err.mono (Nat.zero_le _))
 clear hp hrb hm hna hcf
 generalize gK s = k at *
 generalize gT s = gt at *
 generalize gN s = gn at *
 generalize gB s = nm at *
 have told : ∀ (W : World) (v : Value) (b : Bool), q = (10, -2, []) → ErrAt K.E 0 W v 10 → Keep (fun _ => False) w2 W → ProcP K.E w0 T gt gn q (.returned (.tuple #[.bool b, v])) W := fun W v b e h1 h2 => by
  subst e
  exact ⟨b, v, rfl, h1, (h2.block T (lt_of_heap HX2.out.t) id).trans HX2.out.t, fun _ => rfl, HK2.out.then h2⟩
 have HTOLD := hdd told
 clear told
 by_cases hz : k = 0
 ·subst hz
  obtain ⟨rfl, rfl, rfl⟩ := hv rfl
  have hev : ev = .nilIface := HE.out.isNil
  subst hev
  clear hv
  by_cases hty : t = 1 ∨ t = 4
  ·have HTY := hdd (show TyOk t from hty)
   have hsp := zzSplitTwo_at nm hB w2
   unfold strV at hsp
   rcases hty with rfl | rfl
   all_goals
    go_wp2_with fail
    refine hsp.mono ?_
    rintro e w3 ⟨hs3, hk3⟩
    have HX3 := hdd (HX2.out.keep hk3 (fun _ _ _ => id))
    have HK3 := hdd hk3
    have cM0 := cellAt HX3.out.m 0
    have cM1 := cellAt HX3.out.m 1
    simp at cM0 cM1
    rcases hs3 with ⟨B, i, hci, rfl, b0, b1⟩ | ⟨B, hci, rfl, b0⟩
    ·have HW := hdd (dspW_cut (ls := ls) (fb := fb) hci)
     have hget := fun n => HX3.out.s.get (w := w3.drewN n) (nm.take i) HX3.out.r Tryz.underlying185 Tryz.underlying9 (zeroProc _)
     unfold strV at b0 b1 hget
     cases hA : lastA ls (nm.take i) ls.length with
     | none =>
      rw [hA] at hget
      have HD := hdd (dspR_none' (fb := fb) HTY.out (HW.out.trans (by rw [hA]; rfl)))
      simp only [Option.map_none, Option.getD_none, Option.isSome_none] at hget
      clear hA hci
      go_wp2_with fail
      go_quiet (fail)
      go_wp2_with fail
      refine (errNew _ _).mono ?_
      rintro e w4 ⟨b, rfl, hb4, _, hk4⟩
      go_wp2_with fail
      refine (words_err (E := K.E) b 0 _ w4 hb4).mono ?_
      rintro e w5 ⟨v5, rfl, he5, hk5⟩
      go_wp2_with fail
      go_returns
      exact HTOLD.out _ _ _ (HQ.out.symm.trans HD.out) he5 (((HK3.out.drewN _).then hk4).then hk5)
     | some j =>
      rw [hA] at hget
      have HD := hdd (dspR_some' (fb := fb) HTY.out (HW.out.trans (by rw [hA]; rfl)))
      have hjl := lastA_lt _ _ _ _ hA
      simp only [Option.map_some, Option.getD_some, Option.isSome_some] at hget
      obtain ⟨hpl, qq, hpj⟩ := HX3.out.p j hjl
      clear hA hci
      go_wp2_with fail
      go_quiet (fail)
      go_wp2_with fail
      refine (newSto_at _ _ _ _ _ _).mono ?_
      rintro e w4 ⟨rfl, hw4⟩
      have hk4 : Keep (fun _ => False) w3 w4 := hw4 ▸ ((Keep.refl _ w3).drewN _).alloc _
      have hS4 := alloc_eq hw4
      change w4.heap[w3.heap.size]? = _ at hS4
      have hP4 := (hk4.block _ (lt_of_heap hpj) id).trans hpj
      have hT4 := (hk4.block T (lt_of_heap HX3.out.t) id).trans HX3.out.t
      have HK4 := hdd hk4
      clear hw4 hpj
      obtain ⟨hm, hna, hcf⟩ := proc_meth (ps j)
      have hpr := proc_at (out := out) hP4 hT4 rfl hS4 hT
      clear hP4 hT4 hS4
      go_wp2_with fail
      refine hpr.mono ?_
      rintro e w5 ⟨rfl, hT5, hk5⟩
      have HD5 := hdd (And.intro hT5 hk5)
      clear hT5 hk5 hpr
      go_wp2_with fail
      go_returns
      have hqd := HQ.out.symm.trans HD.out
      subst hqd
      refine ⟨true, .nilIface, rfl, ErrAt.nil _ _ _, ?_, fun h => absurd rfl h, ?_⟩
      ·rw [if_pos rfl]
       exact HD5.out.1
      ·exact ((HK2.out.then HK3.out).then HK4.out).trans HD5.out.2 (fun i hi e => by have := HX2.out.lt.1; omega)
    ·have HW := hdd (dspW_all (ls := ls) (fb := fb) hci)
     unfold strV at b0
     rcases HX3.out.d with ⟨rfl, rfl⟩ | ⟨rfl, PD, qd, rfl, hpl, hpd⟩
     ·have HD := hdd (dspR_none' HTY.out (HW.out.trans rfl))
      clear hci
      go_wp2_with fail
      refine (errNew _ _).mono ?_
      rintro e w4 ⟨b, rfl, hb4, _, hk4⟩
      go_wp2_with fail
      refine (words_err (E := K.E) b 0 _ w4 hb4).mono ?_
      rintro e w5 ⟨v5, rfl, he5, hk5⟩
      go_wp2_with fail
      go_returns
      exact HTOLD.out _ _ _ (HQ.out.symm.trans HD.out) he5 ((HK3.out.then hk4).then hk5)
     ·have HD := hdd (dspR_some' HTY.out (HW.out.trans rfl))
      have HPD := hdd hpd
      clear hci hpd
      go_wp2_with fail
      refine (newSto_at _ _ _ _ _ _).mono ?_
      rintro e w4 ⟨rfl, hw4⟩
      have hk4 : Keep (fun _ => False) w3 w4 := hw4 ▸ (Keep.refl _ w3).alloc _
      have hS4 := alloc_eq hw4
      change w4.heap[w3.heap.size]? = _ at hS4
      have hP4 := (hk4.block _ (lt_of_heap HPD.out) id).trans HPD.out
      have hT4 := (hk4.block T (lt_of_heap HX3.out.t) id).trans HX3.out.t
      have cM1' := (hk4.cell (p := ⟨M, 1, none⟩) (lt_of_cell cM1) id).trans cM1
      have HK4 := hdd hk4
      clear hw4
      obtain ⟨hm, hna, hcf⟩ := proc_meth PD
      have hpr := proc_at (out := out) hP4 hT4 rfl hS4 hT
      clear hP4 hT4 hS4 hk4
      go_wp2_with fail
      refine hpr.mono ?_
      rintro e w5 ⟨rfl, hT5, hk5⟩
      have HD5 := hdd (And.intro hT5 hk5)
      clear hT5 hk5 hpr
      go_wp2_with fail
      go_returns
      have hqd := HQ.out.symm.trans HD.out
      subst hqd
      refine ⟨true, .nilIface, rfl, ErrAt.nil _ _ _, ?_, fun h => absurd rfl h, ?_⟩
      ·rw [if_pos rfl]
       exact HD5.out.1
      ·exact ((HK2.out.then HK3.out).then HK4.out).trans HD5.out.2 (fun i hi e => by have := HX2.out.lt.1; omega)
  ·have hT1 : (t != 1) = true := by simpa using fun e => hty (.inl e)
   have hT4 : (t != 4) = true := by simpa using fun e => hty (.inr e)
   have HTY := hdd hty
   clear hty
   go_wp2_with fail
   refine (errNew _ _).mono ?_
   rintro e w4 ⟨b, rfl, hb4, _, hk4⟩
   go_wp2_with fail
   refine (words_err (E := K.E) b 0 _ w4 hb4).mono ?_
   rintro e w5 ⟨v5, rfl, he5, hk5⟩
   go_wp2_with fail
   go_returns
   exact HTOLD.out _ _ _ (HQ.out.symm.trans (dspR_type HTY.out)) he5 (hk4.then hk5)
 ·obtain ⟨ty, vx, rfl⟩ := HE.out.held hz
  have HZ := hdd hz
  clear hz
  go_wp2_with fail
  refine (newPExc HG2.out (Nat.zero_le _) HE.out (by omega)).mono ?_
  rintro e w3 ⟨v3, rfl, he3, hk3⟩
  go_wp2_with fail
  go_returns
  have hqd := HQ.out.symm.trans (dspR_bad HZ.out)
  subst hqd
  refine ⟨_, v3, rfl, he3, ?_, fun _ => rfl, HK2.out.then hk3⟩
  rw [if_neg (show ¬ pk k = 0 from fun e => HZ.out (by unfold pk at e; repeat' split at e; all_goals omega))]
  exact (hk3.block T (lt_of_heap HX2.out.t) id).trans HX2.out.t
end Go.Proofs.YtjekbomlpcdojaaGreatDoor
