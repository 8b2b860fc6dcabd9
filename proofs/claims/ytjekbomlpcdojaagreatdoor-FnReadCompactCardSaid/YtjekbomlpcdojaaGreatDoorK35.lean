/- Part 35 of the proof: Run0, Rx0, Pmx, Rds0, Rds, ImpRd, Rx1, SpRd. -/
import Derived.Test.YtjekbomlpcdojaaGreatDoorK31
import Derived.Test.YtjekbomlpcdojaaGreatDoorK34
import Derived.Test.YtjekbomlpcdojaaGreatDoorK18
import Derived.Test.YtjekbomlpcdojaaGreatDoorK15
import Derived.Maps.AppendAt
import Derived.Deep.LoopGhost
set_option linter.unusedVariables false
set_option linter.unusedSimpArgs false
set_option linter.unusedSectionVars false
set_option maxHeartbeats 16000000
namespace Go.Proofs.YtjekbomlpcdojaaGreatDoor
open Go Go.RowKit
structure Pm.Le {St : Type} (P : Pm St) : Prop where
 ok : P.pr.Ok
 gS : ∀ s, P.pr.len (P.gS s) + P.pr.dep (P.gS s) ≤ P.pr.len s + P.pr.dep s
theorem stF_le {St : Type} {P : Pm St} (h : P.Le) (op t : Int) (s : St) (hk : (stF P op t s).k = 0) : P.pr.len (stF P op t s).s + P.pr.dep (stF P op t s).s ≤ P.pr.len s + P.pr.dep s + 1 := by
 have ok := h.ok
 have o1 := ok.one1
 unfold stF at hk ⊢
 split at hk
 ·rename_i e; rw [if_pos e]; have := h.gS s; show P.pr.len (P.gS s) + P.pr.dep (P.gS s) ≤ _; omega
 rename_i e0; rw [if_neg e0]
 split at hk
 ·rename_i e; rw [if_pos e]; have := ok.sb s; have := ok.dsb s; show P.pr.len (P.pr.sbS s) + P.pr.dep (P.pr.sbS s) ≤ _; omega
 rename_i e0; rw [if_neg e0]
 split at hk
 ·rename_i e; rw [if_pos e]
  split at hk
  ·rename_i e; rw [if_pos e]; have := ok.se s; have := ok.dse s e; show P.pr.len (P.pr.seS s) + P.pr.dep (P.pr.seS s) ≤ _; omega
  ·exact absurd hk (by show ¬ (11 : Int) = 0; decide)
 rename_i e0; rw [if_neg e0]
 split at hk
 ·rename_i e; rw [if_pos e]; have := ok.f s hk; have := ok.df s hk; show P.pr.len (P.pr.fS s) + P.pr.dep (P.pr.fS s) ≤ _; omega
 rename_i e0; rw [if_neg e0]
 split at hk
 ·rename_i e; rw [if_pos e]; have := ok.fe s; have := ok.dfe s; show P.pr.len (P.pr.feS s) + P.pr.dep (P.pr.feS s) ≤ _; omega
 rename_i e0; rw [if_neg e0]
 split at hk
 ·rename_i e; rw [if_pos e]; have := ok.m s hk; have := ok.dm s hk; show P.pr.len (P.pr.mS s) + P.pr.dep (P.pr.mS s) ≤ _; omega
 rename_i e0; rw [if_neg e0]
 split at hk
 ·rename_i e; rw [if_pos e]; have := ok.me s; have := ok.dme s; show P.pr.len (P.pr.meS s) + P.pr.dep (P.pr.meS s) ≤ _; omega
 rename_i e0; rw [if_neg e0]
 split at hk
 ·rename_i e; rw [if_pos e]; have := ok.l s hk; have := ok.dl s hk; show P.pr.len (P.pr.lS s) + P.pr.dep (P.pr.lS s) ≤ _; omega
 rename_i e0; rw [if_neg e0]
 split at hk
 ·rename_i e; rw [if_pos e]; have := ok.le s; have := ok.dle s; show P.pr.len (P.pr.leS s) + P.pr.dep (P.pr.leS s) ≤ _; omega
 rename_i e0; rw [if_neg e0]
 split at hk
 ·rename_i e; rw [if_pos e]; have := ok.sc (tyOf op) s; have := ok.dsc (tyOf op) s hk; show P.pr.len (P.pr.scS (tyOf op) s) + P.pr.dep (P.pr.scS (tyOf op) s) ≤ _; omega
 rename_i e0; rw [if_neg e0]
 split at hk
 ·rename_i e; rw [if_pos e]; have := skp_len ok 64 (IntKind.u8.wrap t) s hk; have := skp_dep ok 64 (IntKind.u8.wrap t) s hk; show P.pr.len (skp P.pr 64 (IntKind.u8.wrap t) s).2 + P.pr.dep (skp P.pr 64 (IntKind.u8.wrap t) s).2 ≤ _; omega
 rename_i e0; rw [if_neg e0]
 show P.pr.len s + P.pr.dep s ≤ _
 omega
def Sto.sg {St : Type} (o : Sto St) : Sg := ⟨o.k, o.t, o.kt, o.z, o.i, o.n, o.b⟩
def runA {St : Type} (P : Pm St) : List Sg → St → List Sg × St × Int
 | [], s => ([], s, 0)
 | x :: l, s => if (stF P x.op x.t s).k = 0 then ((stF P x.op x.t s).sg :: (runA P l (stF P x.op x.t s).s).1, (runA P l (stF P x.op x.t s).s).2) else ([(stF P x.op x.t s).sg], (stF P x.op x.t s).s, (stF P x.op x.t s).k)
theorem runA_ok {St : Type} {P : Pm St} {l : List Sg} {i : Nat} {x : Sg} {s : St} (hx : l[i]? = some x) (hk : (stF P x.op x.t s).k = 0) (gs : List Sg) :
  (gs ++ (runA P (l.drop i) s).1, (runA P (l.drop i) s).2) = (((gs ++ [(stF P x.op x.t s).sg]) ++ (runA P (l.drop (i + 1)) (stF P x.op x.t s).s).1), (runA P (l.drop (i + 1)) (stF P x.op x.t s).s).2) := by
 obtain ⟨hi, e⟩ := List.getElem?_eq_some_iff.1 hx
 have hd : l.drop i = x :: l.drop (i + 1) := by rw [← e]; exact List.drop_eq_getElem_cons hi
 rw [hd]
 simp only [runA, if_pos hk]
 simp
theorem runA_bad {St : Type} {P : Pm St} {l : List Sg} {i : Nat} {x : Sg} {s : St} (hx : l[i]? = some x) (hk : ¬ (stF P x.op x.t s).k = 0) (gs : List Sg) :
  (gs ++ (runA P (l.drop i) s).1, (runA P (l.drop i) s).2) = (gs ++ [(stF P x.op x.t s).sg], (stF P x.op x.t s).s, (stF P x.op x.t s).k) := by
 obtain ⟨hi, e⟩ := List.getElem?_eq_some_iff.1 hx
 have hd : l.drop i = x :: l.drop (i + 1) := by rw [← e]; exact List.drop_eq_getElem_cons hi
 rw [hd]
 simp only [runA, if_neg hk]
def RunRel (gi rs : List Sg) : Prop := gi.length = rs.length ∧ ∀ (j : Nat) (x y : Sg), gi[j]? = some x → rs[j]? = some y → x.op = y.op ∧ (y.op = 0 → x = y)
structure Rdr.X {σ : Type} (r : Rdr σ) : Prop where
 ok : r.Ok
 b : ∀ s w, r.Inv s w → r.Step 20 w (r.GP w (r.pr.scK 11 s) (r.pr.scS 11 s) 0 0 0 0 (r.pr.scN 11 s) (r.pr.scB 11 s))
 se0 : ∀ s w, r.Inv s w → ¬ r.pr.one ≤ r.pr.dep s → r.Step 3 w (r.GP w 11 s 0 0 0 0 0 [])
theorem and255 (t : Int) : bits BinOp.and IntKind.i64 t 255 = IntKind.u8.wrap t := by
 have e1 : BitVec.ofInt 64 t = BitVec.ofNat 64 (t % 18446744073709551616).toNat := by
  apply BitVec.eq_of_toNat_eq
  simp only [BitVec.toNat_ofInt, BitVec.toNat_ofNat]
  omega
 have e2 : BitVec.ofInt 64 255 = BitVec.ofNat 64 255 := by decide
 have h3 : (t % 18446744073709551616).toNat &&& 255 = (t % 18446744073709551616).toNat % 256 := by
  have := Nat.and_two_pow_sub_one_eq_mod (t % 18446744073709551616).toNat 8
  simpa using this
 show IntKind.i64.wrap ((BitVec.ofInt 64 t &&& BitVec.ofInt 64 255).toNat : Int) = _
 rw [e1, e2, ← BitVec.ofNat_and, h3, BitVec.toNat_ofNat]
 simp [IntKind.wrap, IntKind.bits, IntKind.signed]
 omega
section
variable {σ : Type} {r : Rdr σ} {s : σ} {w : World} {a2 a3 a4 a5 : Int} {sv : Value}
set_option maxRecDepth 100000 in
theorem Rdr.step22 (ok : r.Ok) (t : Int) (h : r.Inv s w) (hr : r.pr.Room s) :
  Calls Tryz.prog 49 #[.pointer (some ⟨r.R, 0, none⟩), .agg (stepG 22 t a2 a3 a4 a5 sv)] w (r.GP w (skp r.pr 64 (IntKind.u8.wrap t) s).1 (skp r.pr 64 (IntKind.u8.wrap t) s).2 0 0 0 0 0 []) := by
 have ha := and255 t
 have hk0 : Keep (fun _ => False) w ((w.alloc (.cells (stepG 22 t a2 a3 a4 a5 sv) 119)).alloc (.cells zGot 75)) := ((Keep.refl _ w).alloc _).alloc _
 have hU0 := heap_alloc_new (w.alloc (.cells (stepG 22 t a2 a3 a4 a5 sv) 119)) (.cells zGot 75)
 go_enter Tryz.func49, Tryz.ntmps49
 go_wp2_with fail
 obtain ⟨U, hU⟩ : ∃ U, w.heap.size + 1 = U := ⟨_, rfl⟩
 rw [show (w.alloc (.cells (stepG 22 t a2 a3 a4 a5 sv) 119)).heap.size = U by simp [← hU]] at hU0
 generalize (w.alloc (.cells (stepG 22 t a2 a3 a4 a5 sv) 119)).alloc (.cells zGot 75) = wA at *
 rw [hU]
 refine (ok.skips 64 64 (IntKind.u8.wrap t) s wA (by decide) (by decide) (by decide) (ok.fresh h hk0) hr).mono ?_
 rintro e w1 ⟨x, rfl, hx, hs2, hk1⟩
 have hnU : ¬ r.M wA U := ok.new h hk0 U (by omega)
 have HU := hdd ((hk1.block U (lt_of_heap hU0) hnU).trans hU0)
 have HX := hdd hx
 have HS2 := hdd hs2
 have HK1 := hdd hk1
 have HK0 := hdd hk0
 have HNU := hdd hnU
 have HLU := hdd (lt_of_heap hU0)
 have HH := hdd h
 clear hx hs2 hk1 hk0 hnU hU0 h
 obtain ⟨u0, u1, u2, u3, u4, u5, u6⟩ := got_cells HU.out
 obtain ⟨f0, f1, f2, f3, f4, f5, f6⟩ := got_free HU.out
 go_wp2_with fail
 have hkU : Keep (fun i => U = i) w1 (gotW w1 U x 0 0 0 0 0 nilB) := got_keep (Keep.refl _ w1) (fun _ => rfl) _ _ _ _ _ _ _
 obtain ⟨s2, hi2, hs3⟩ := HS2.out
 have ht := ok.turn hi2 hkU (fun i e m => by subst e; exact HNU.out (HK1.out.grow _ HLU.out m))
 have hkw : Kpt r.M w w1 := (ok.kept HH.out HK0.out).then HK1.out
 refine ret_got (U := U) Tryz.results49 rfl rfl (got_set HU.out _ _ _ _ _ _ _) ⟨_, _, _, _, _, _, _, rfl, ⟨_, _, _, rfl⟩, HX.out, ⟨s2, ht.1, hs3⟩, hkw.turned hkU (fun i e => by omega) ht.2, fun hz => ⟨rfl, rfl, rfl, rfl, rfl, .inl ⟨rfl, _, _, rfl⟩⟩⟩
set_option maxRecDepth 100000 in
theorem Rdr.stepN (ok : r.Ok) (op t : Int) (hop : op < 0 ∨ 22 < op ∨ op = 6) (h : r.Inv s w) :
  Calls Tryz.prog 49 #[.pointer (some ⟨r.R, 0, none⟩), .agg (stepG op t a2 a3 a4 a5 sv)] w (r.GP w 0 s 0 0 0 0 0 []) := by
 have n22 : (op == 22) = false := by simp; omega
 have hk0 : Keep (fun _ => False) w ((w.alloc (.cells (stepG op t a2 a3 a4 a5 sv) 119)).alloc (.cells zGot 75)) := ((Keep.refl _ w).alloc _).alloc _
 have hU0 : ((w.alloc (.cells (stepG op t a2 a3 a4 a5 sv) 119)).alloc (.cells zGot 75)).heap[w.heap.size + 1]? = some (.cells (gotA 0 0 0 0 0 0 nilB) 75 (0, 0)) := heap_alloc_at (by simp) _
 have HH := hdd h
 have HK0 := hdd hk0
 clear h hk0
 rcases (show (decide (op < 0) = true) ∨ (decide (op < 0) = false ∧ decide (22 < op) = true) ∨ (decide (op < 0) = false ∧ decide (22 < op) = false ∧ (op == 6) = true) by simp; omega) with q1 | ⟨q1, q2⟩ | ⟨q1, q2, q3⟩
 all_goals
  go_enter Tryz.func49, Tryz.ntmps49
  go_wp2_with fail
  refine ret_got (U := w.heap.size + 1) Tryz.results49 rfl rfl hU0 ⟨_, _, _, _, _, _, _, rfl, ⟨_, _, _, rfl⟩, .inr (.inr rfl), ⟨s, ok.fresh HH.out HK0.out, fun _ => rfl⟩, ok.kept HH.out HK0.out, fun hz => ⟨rfl, rfl, rfl, rfl, rfl, .inl ⟨rfl, _, _, rfl⟩⟩⟩
end
structure Pm.X {St : Type} (P : Pm St) : Prop where
 le : P.Le
 start : ∀ l : List UInt8, P.pr.dep (P.st0 l) = 0 ∧ P.pr.len (P.st0 l) = l.length
 made : ∀ {E : Env} {MB B D : Nat} {l : List UInt8} {w : World}, Glob E w → Mem E w MB B D l → l.length ≤ 140737488355328 → Calls Tryz.prog 35 #[confV P.no P.c, memV MB] w fun e w' =>
  ∃ (K : Rp.Ctx St) (fb fe fy fk : FuncId), e = .returned K.V ∧ K.E = E ∧ K.pr = P.pr ∧ K.Inv (P.st0 l) w' ∧ Keep (fun _ => False) w w' ∧ (∀ i, K.M w' i → B = i ∨ w.heap.size ≤ i) ∧
   (∀ s W, K.Inv s W → ∃ D', Mem E W MB B D' (P.rem s)) ∧ (∀ W, K.Some W → ∃ D' s', Mem E W MB B D' s' ∧ Glob E W) ∧ Rp.Ext K P.gK P.gS P.gT P.gN P.gB fb fe fy fk
 read : ∀ {A : Nat → Prop} (v : Value) (l : List UInt8) (w : World), BytesAt A w v l → l.length ≤ 140737488355328 → Calls Tryz.prog 48 #[confV P.no P.c, v] w fun e w' =>
  ∃ r : Rdr St, e = .returned (.pointer (some ⟨r.R, 0, none⟩)) ∧ r.X ∧ r.pr = P.pr ∧ r.Inv (P.st0 l) w' ∧ Keep (fun _ => False) w w' ∧ (∀ i, r.M w' i → w.heap.size ≤ i) ∧
   (∀ s w2, r.Inv s w2 → Calls Tryz.prog 63 #[.pointer (some ⟨r.R, 0, none⟩)] w2 fun e w3 => e = .returned (.int .i64 (r.pr.len s)) ∧ w2 = w3) ∧
   (∀ s w2, r.Inv s w2 → r.Step 0 w2 (r.GP w2 (P.gK s) (P.gS s) (P.gT s) 0 0 0 (P.gN s) (P.gB s))) ∧
   (∀ s w2, r.Inv s w2 → r.Step 1 w2 (r.GP w2 0 s 0 0 0 0 0 []))
theorem igot_info : ∃ i, Tryz.prog.info? 145 = some i ∧ i.zero = some (.agg (gotA 0 0 0 0 0 0 nilB)) ∧ i.size = 7 ∧ i.bytes = 72 := ⟨Tryz.t145, by kernel_rfl, by kernel_rfl, by kernel_rfl, by kernel_rfl⟩
structure RdRows (T : TypeId) (w W : World) (M : Nat → Prop) (gs : List Sg) (v : Value) (rows : List (List Value)) : Prop where
 len : rows.length = gs.length
 own : W.ownsRow w.heap.size T 7 v gs.length rows.flatten
 not : ∀ i, v.ownBlock = some i → ¬ M i
 row : ∀ (j : Nat) (x : Sg), gs[j]? = some x → ∃ sa sm sc, rows[j]? = some (gotA x.op x.t x.k x.z x.i x.n (.slice sa sm sc)).toList ∧ (x.op = 0 → BytesAt (fun i => w.heap.size ≤ i ∧ ¬ M i ∧ v.ownBlock ≠ some i) W (.slice sa sm sc) x.s)
theorem RdRows.nil (T : TypeId) (w W : World) (M : Nat → Prop) : RdRows T w W M [] (.slice none 0 0) [] :=
 ⟨rfl, World.ownsRow_nil _ _ _ _, fun i e => (by cases e), fun j x hj => by simp at hj⟩
theorem RdRows.seven {T : TypeId} {w W : World} {M : Nat → Prop} {gs : List Sg} {v : Value} {rows : List (List Value)} (h : RdRows T w W M gs v rows) : ∀ cs ∈ rows, cs.length = 7 := fun cs hcs => by
 obtain ⟨j, hj, rfl⟩ := List.mem_iff_getElem.1 hcs
 have hjl : j < gs.length := by rw [← h.len]; exact hj
 obtain ⟨sa, sm, sc, e1, _⟩ := h.row j _ (List.getElem?_eq_getElem hjl)
 rw [List.getElem?_eq_getElem hj] at e1
 rw [Option.some.inj e1]
 rfl
theorem RdRows.gots {T : TypeId} {w W : World} {M : Nat → Prop} {gs : List Sg} {v : Value} {rows : List (List Value)} (h : RdRows T w W M gs v rows) (hb : gs.length ≤ 140737488355328) : GotsAt (fun i => w.heap.size ≤ i ∧ ¬ M i) W v gs := by
 have hown := h.own
 rw [← h.len] at hown
 obtain ⟨a, c, e1, e2, e3⟩ := own_row hown h.seven
 rw [h.len] at e1 e2
 refine ⟨a, c, e1, hb, e2, fun j x hx => ?_⟩
 obtain ⟨sa, sm, sc, e4, e5⟩ := h.row j x hx
 obtain ⟨D, e6, e7, e8⟩ := e3 j _ _ _ _ _ _ _ e4
 refine ⟨D, 0, sa, sm, sc, e6, ⟨e7, h.not D ?_⟩, e8, fun hz => (e5 hz).weak (fun i _ y => ⟨y.1, y.2.1⟩)⟩
 rw [e1, e6]
 rfl
theorem RdRows.more {T : TypeId} {w wr w2 w7 : World} {Mr M2 M7 : Nat → Prop} {gs : List Sg} {v v' : Value} {rows : List (List Value)} {y : Sg} {sa : Option Addr} {sm sc n6 : Nat} (h : RdRows T w wr Mr gs v rows)
  (hw : w.heap.size ≤ wr.heap.size) (k2 : Keep Mr wr w2) (g2 : ∀ i, i < wr.heap.size → M2 i → Mr i) (k7 : Keep (fun i => v.ownBlock = some i) w2 w7) (hM7 : ∀ i, M7 i → M2 i) (hlt : ∀ i, M2 i → i < w2.heap.size) (hn6 : w2.heap.size ≤ n6)
  (hown : w7.ownsRow w.heap.size T 7 v' (gs.length + 1) (rows.flatten ++ (gotA y.op y.t y.k y.z y.i y.n (.slice sa sm sc)).toList)) (hat : v'.ownBlock = v.ownBlock ∨ v'.ownBlock = some n6)
  (hy : y.op = 0 → BytesAt (fun i => wr.heap.size ≤ i ∧ ¬ M2 i) w2 (.slice sa sm sc) y.s) :
  RdRows T w w7 M7 (gs ++ [y]) v' (rows ++ [(gotA y.op y.t y.k y.z y.i y.n (.slice sa sm sc)).toList]) := by
 have hs2 := k2.size
 have hol := World.ownsRow.lt h.own
 have hnn : ∀ i, i < wr.heap.size → ¬ Mr i → ¬ M7 i := fun i hi hm x => hm (g2 i hi (hM7 i x))
 have hno : ∀ i, i < w2.heap.size → v.ownBlock ≠ some i → v'.ownBlock ≠ some i := fun i hi hv e => by
  rcases hat with h1 | h1
  ·exact hv (h1 ▸ e)
  ·rw [h1] at e
   have := Option.some.inj e
   omega
 refine ⟨by simp [h.len], by simpa using hown, fun i e => ?_, fun j x hj => ?_⟩
 ·rcases hat with h1 | h1
  ·rw [h1] at e
   exact hnn i (hol i e).2 (h.not i e)
  ·rw [h1] at e
   have := Option.some.inj e
   intro m
   have := hlt i (hM7 i m)
   omega
 ·by_cases hjl : j < gs.length
  ·rw [List.getElem?_append_left hjl] at hj
   obtain ⟨a, m, c, e1, e2⟩ := h.row j x hj
   refine ⟨a, m, c, by rw [List.getElem?_append_left (by rw [h.len]; exact hjl)]; exact e1, fun hz => ?_⟩
   have b1 := (e2 hz).weak (A' := fun i => (w.heap.size ≤ i ∧ ¬ Mr i ∧ v.ownBlock ≠ some i) ∧ i < wr.heap.size) (fun i hi y => ⟨y, hi⟩)
   have b2 := b1.keep k2 (fun i y => y.1.2.1)
   have b3 := b2.keep k7 (fun i y => y.1.2.2)
   exact b3.weak (fun i _ y => ⟨y.1.1, hnn i y.2 y.1.2.1, hno i (by have := y.2; omega) y.1.2.2⟩)
  ·have hje : j = gs.length := by
    have := (List.getElem?_eq_some_iff.1 hj).1
    simp at this
    omega
   subst hje
   rw [List.getElem?_append_right (Nat.le_refl _)] at hj
   simp at hj
   subst hj
   refine ⟨sa, sm, sc, by rw [List.getElem?_append_right (by rw [h.len]; exact Nat.le_refl _), h.len]; simp, fun hz => ?_⟩
   have b1 := (hy hz).weak (A' := fun i => (wr.heap.size ≤ i ∧ ¬ M2 i) ∧ i < w2.heap.size) (fun i hi y => ⟨y, hi⟩)
   have b3 := b1.keep k7 (fun i y e => by have := (hol i e).2; omega)
   exact b3.weak (fun i _ y => ⟨by have := y.1.1; omega, fun m => y.1.2 (hM7 i m), hno i y.2 (fun e => by have := (hol i e).2; omega)⟩)
def Rp.RdsP {St : Type} (K : Rp.Ctx St) (r : List Sg × St × Int) (w : World) (e : Ending) (w' : World) : Prop :=
 ∃ gv gi, e = .returned gv ∧ RunRel gi r.1 ∧ GotsAt (fun i => w.heap.size ≤ i ∧ ¬ K.M w' i) w' gv gi ∧ Kpt K.M w w' ∧ K.Some w' ∧ (r.2.2 = 0 → K.Inv r.2.1 w')
def Rp.RdRel {St : Type} (K : Rp.Ctx St) (P : Pm St) (w : World) (l : List Sg) (tot : List Sg × St × Int) (L k : Nat) (v5 v12 : Value) (wr : World) : Prop :=
 ∃ (i : Nat) (s : St) (gs : List Sg) (rows : List (List Value)), v12 = .int .i64 i ∧ i + k = L ∧ gs.length = i ∧ K.Inv s wr ∧ Kpt K.M w wr ∧ P.pr.len s + P.pr.dep s + k < 1099511627776 ∧ (gs ++ (runA P (l.drop i) s).1, (runA P (l.drop i) s).2) = tot ∧ RdRows 145 w wr (K.M wr) gs v5 rows
theorem RunRel.refl (l : List Sg) : RunRel l l := ⟨rfl, fun j x y h1 h2 => by rw [h1] at h2; obtain rfl := Option.some.inj h2; exact ⟨rfl, fun _ => rfl⟩⟩
theorem RunRel.last (l : List Sg) {x y : Sg} (h : x.op = y.op) (hz : ¬ y.op = 0) : RunRel (l ++ [x]) (l ++ [y]) := ⟨by simp, fun j a b h1 h2 => by
 by_cases hj : j < l.length
 ·rw [List.getElem?_append_left hj] at h1 h2
  rw [h1] at h2
  obtain rfl := Option.some.inj h2
  exact ⟨rfl, fun _ => rfl⟩
 ·rw [List.getElem?_append_right (by omega)] at h1 h2
  have hj0 : j - l.length = 0 := by
   have := (List.getElem?_eq_some_iff.1 h1).1
   simp at this
   omega
  rw [hj0] at h1 h2
  simp at h1 h2
  subst h1 h2
  exact ⟨h, fun e => absurd e hz⟩⟩
section
variable {St : Type} {P : Pm St} {K : Rp.Ctx St} {fb fe fy fk : FuncId}
set_option maxRecDepth 100000 in
theorem Rp.reads_at (hpr : K.pr = P.pr) (x : Rp.Ext K P.gK P.gS P.gT P.gN P.gB fb fe fy fk) (hle : P.Le) (hgl : ∀ W, K.Some W → Glob K.E W) {A : Nat → Prop} {v : Value} {l : List Sg} (s0 : St) (w : World) (h : K.Inv s0 w) (hS : StepsAt A w v l) (hA : ∀ i, A i → ¬ K.M w i)
  (hb : P.pr.len s0 + P.pr.dep s0 + l.length < 1099511627776) (hl6 : l.length ≤ 65536) (tot : List Sg × St × Int) (htot : runA P l s0 = tot) :
  Calls Tryz.prog 61 #[K.V, v] w (Rp.RdsP K tot w) := by
 obtain ⟨a, c, rfl, hl, hc, g⟩ := hS
 obtain ⟨L, hL⟩ : ∃ L, l.length = L := ⟨_, rfl⟩
 rw [hL] at hl hc hb hl6 ⊢
 have HL := hdd hL
 have G := hdd g
 have HC := hdd hc
 have HA := hdd hA
 have HT := hdd htot
 clear hL g hc hA htot
 go_enter Tryz.func61, Tryz.ntmps61
 go_wp2_with fail
 go_loopg [5, 12] L (fun k v5 v12 wr => Rp.RdRel K P w l tot L k v5 v12 wr)
 case atStart => exact ⟨0, s0, [], [], rfl, by omega, rfl, h, Kpt.refl _ _, hb, by rw [← HT.out]; rfl, RdRows.nil _ _ _ _⟩
 case round =>
  obtain ⟨i, s, gs, rows, rfl, hik, hgl2, hi, hkr, hroom, hrun, hrows⟩ := hrel
  obtain ⟨va, vm, vc, rfl⟩ := own_shape hrows.own
  have HROWS := hdd hrows
  have HKR := hdd hkr
  have HI := hdd hi
  have HGS := hdd hgl2
  have HRUN := hdd hrun
  clear hrows hkr hi hgl2 hrun
  by_cases hlt : i < L
  ·cases gk with
   | zero => omega
   | succ k =>
   have hlt' : (i : Int) < (L : Int) := by omega
   have hj : l[i]? = some (l[i]'(by have := HL.out; omega)) := List.getElem?_eq_getElem _
   obtain ⟨D, o, sv, ha, hAD, hs, h7⟩ := G.out i _ hj
   generalize (l[i]'(by have := HL.out; omega)) = xs at *
   subst ha
   have HJ := hdd hj
   obtain ⟨sa, sm, sc, rfl⟩ := hs.shape
   obtain ⟨d0, d1, d2, d3, d4, d5, d6⟩ := h7.keep HKR.out.keep (HA.out D hAD)
   have hnc : L ≤ c := (HC.out (by omega)).1
   have hw : IntKind.i64.wrap ((i : Int) + 1) = (i : Int) + 1 := IntWalk.i64_in _ (by omega)
   obtain ⟨op, t, kk, z, ii, n, bs⟩ := xs
   obtain ⟨q, hq⟩ : ∃ q, stF P op t s = q := ⟨_, rfl⟩
   have hst : ∀ W, Keep (fun _ => False) wr W → Calls Tryz.prog 91 #[K.V, .agg (stepJ op t kk z ii n (.slice sa sm sc))] W (Rp.StO K W q) := fun W hW => by
    rw [← hq]
    exact Rp.stepI hpr x op s W (HI.out.fresh hW) (by rw [hpr]; show P.pr.len s + P.pr.dep s < 1099511627776; omega)
   have HST := hdd hst
   have HQ := hdd hq
   have hk1 : Keep (fun _ => False) wr (wr.alloc (.cells (stepJ op t kk z ii n (.slice sa sm sc)) 63 (0, 0))) := (Keep.refl _ wr).alloc _
   clear hj hs h7 hst hq
   go_wp2_with fail
   generalize wr.alloc (.cells (stepJ op t kk z ii n (.slice sa sm sc)) 63 (0, 0)) = w1 at *
   have HK1 := hdd hk1
   clear hk1 d0 d1 d2 d3 d4 d5 d6
   refine (HST.out _ HK1.out).mono ?_
   rintro e w2 ⟨t', kt', z', i', n', ua, um, uc, ev, rfl, hp, hv⟩
   have hev : (q.k = 0 ∧ ev = .nilIface) ∨ (¬ q.k = 0 ∧ ∃ t x, ev = .iface t x) := by
    by_cases hz : q.k = 0
    ·refine .inl ⟨hz, ?_⟩
     have := hp.err
     rw [hz] at this
     exact this.isNil
    ·exact .inr ⟨hz, hp.err.held hz⟩
   have HP := hdd hp
   have HV := hdd hv
   have HEV := hdd hev
   clear hp hv hev
   go_wp2_with fail
   have hk3 : Keep (fun _ => False) w2 (w2.alloc (.cells (gotA 0 t' kt' z' i' n' (.slice ua um uc)) 145 (0, 0))) := (Keep.refl _ w2).alloc _
   have hG3 : (w2.alloc (.cells (gotA 0 t' kt' z' i' n' (.slice ua um uc)) 145 (0, 0))).heap[w2.heap.size]? = some (.cells (gotA 0 t' kt' z' i' n' (.slice ua um uc)) 145 (0, 0)) := heap_alloc_new w2 _
   obtain ⟨GB, hGB⟩ : ∃ GB, w2.heap.size = GB := ⟨_, rfl⟩
   rw [hGB] at hG3 ⊢
   generalize w2.alloc (.cells (gotA 0 t' kt' z' i' n' (.slice ua um uc)) 145 (0, 0)) = w3 at *
   refine (kind_any (E := K.E) (n0 := w1.heap.size) ((hgl _ HP.out.some).keep hk3 (fun _ x => x.elim)) (HP.out.err.keep hk3 (fun _ _ => id))).mono ?_
   rintro e w4 ⟨rfl, hk34⟩
   have hG4 := (hk34.block GB (lt_of_heap hG3) id).trans hG3
   have hk4 : Keep (fun _ => False) w2 w4 := hk3.then hk34
   obtain ⟨x0, x1, x2, x3, x4, x5, x6⟩ := got_cells hG4
   obtain ⟨y0, y1, y2, y3, y4, y5, y6⟩ := got_free hG4
   have HK4 := hdd hk4
   have HGB := hdd hGB
   have HG4 := hdd hG4
   clear hk3 hG3 hk34 hk4 hGB hG4
   obtain ⟨kq, hkq⟩ : ∃ kq, q.k = kq := ⟨_, rfl⟩
   rw [hkq]
   have HKQ := hdd hkq
   clear hkq
   obtain ⟨si, hsi, hsz, hss, hsb⟩ := igot_info
   have hown4 : (w4.setCell ⟨GB, 0, none⟩ (.int .i64 kq)).ownsRow w.heap.size 145 7 (.slice va vm vc) gs.length rows.flatten := by
    have e1 := ownsRow_keep HROWS.out.own HK1.out (fun _ _ x => x)
    have hol := World.ownsRow.lt HROWS.out.own
    have e2 := ownsRow_keep e1 HP.out.keep.keep (fun b e => (Rp.kept HI.out HK1.out).not (hol b e).2 (HROWS.out.not b e))
    have e3 := ownsRow_keep e2 HK4.out (fun _ _ x => x)
    exact ownsRow_keep e3 ((Keep.refl (fun b => b = GB) w4).set GB 0 (fun _ => rfl) _) (fun b e e2 => by have := (hol b e).2; have := HK1.out.size; have := HP.out.keep.size; have := HGB.out; omega)
   have HOWN4 := hdd hown4
   have hnews := row_new (w4.setCell ⟨GB, 0, none⟩ (.int .i64 kq)) (gotA kq t' kt' z' i' n' (.slice ua um uc)) 145
   have hsz4 : (w4.setCell ⟨GB, 0, none⟩ (.int .i64 kq)).heap.size = w4.heap.size := by simp [World.setCell]
   rw [hsz4] at hnews
   have hone := stepG_one kq t' kt' z' i' n' ua um uc
   have hb0 : w.heap.size ≤ ((w4.setCell ⟨GB, 0, none⟩ (.int .i64 kq)).alloc (.cells (gotA kq t' kt' z' i' n' (.slice ua um uc)) 145)).heap.size := by
    have := HKR.out.size; have := HK1.out.size; have := HP.out.keep.size; have := HK4.out.size
    simp [World.setCell]; omega
   have hmx : gs.length + 1 ≤ maxLen := by have := HGS.out; simp only [maxLen]; omega
   have hby : (gs.length + 1) * 72 ≤ 140737488355328 := by have := HGS.out; omega
   clear hown4 hsz4
   go_wp2_with (at_builtin; go_loud (refine wpList_append_own_at _ rfl (.tmp 25) (.tmp 27) 65 rfl w.heap.size 145 si (.agg (gotA 0 0 0 0 0 0 nilB)) 7 72 Tryz.underlying65 hsi hsz hss hsb rfl (by decide) (.slice va vm vc) gs.length rows.flatten rfl (HOWN4.out.alloc _) ⟨w4.heap.size, 0, none⟩ 1 1 (gotA kq t' kt' z' i' n' (.slice ua um uc)).toList rfl rfl hnews hone hmx hby hb0 ?_))
   intro v' w7 hown7 hgrow hnil hat
   obtain ⟨va7, vm7, vc7, rfl⟩ := own_shape hown7
   have hol := World.ownsRow.lt HROWS.out.own
   have hs1 := HK1.out.size
   have hs2 := HP.out.keep.size
   have hs4 := HK4.out.size
   have hk7 : Keep (fun b => (Value.slice va vm vc).ownBlock = some b) w2 w7 := ((HK4.out.weak (fun _ _ x => x.elim)).set GB 0 (fun hb => by have := HGB.out; omega) _).alloc _ |>.grown hgrow (fun b e _ => e)
   have hn6 : w2.heap.size ≤ w4.heap.size + 1 := by omega
   have hi1 := HI.out.fresh HK1.out
   have hkr1 : Kpt K.M w w1 := HKR.out.then (Rp.kept HI.out HK1.out)
   have hth := K.thru h hkr1 hi1 HP.out hk7 (fun b e => ⟨(hol b e).1, by have := (hol b e).2; omega, (Rp.kept HI.out HK1.out).not (hol b e).2 (HROWS.out.not b e)⟩)
   have HTH := hdd hth
   have hrows7 : RdRows 145 w w7 (K.M w7) (gs ++ [⟨kq, t', kt', z', i', n', q.b⟩]) (.slice va7 vm7 vc7) (rows ++ [(gotA kq t' kt' z' i' n' (.slice ua um uc)).toList]) :=
    RdRows.more (Mr := K.M wr) (M2 := K.M w2) (y := ⟨kq, t', kt', z', i', n', q.b⟩) HROWS.out HKR.out.size (((HK1.out.weak (fun _ _ x => x.elim)).trans HP.out.keep.keep (fun b hb m => (Rp.kept HI.out HK1.out).grow b hb m)))
     (fun b hb m => ((Rp.kept HI.out HK1.out).then HP.out.keep).grow b hb m) hk7 hth.2 (fun b m => K.lt HP.out.some b m) hn6 hown7 hat
     (fun hz => ((HV.out (HKQ.out.trans hz)).2.2.2.2.2).weak (fun b _ y => ⟨by have := y.1; omega, y.2⟩))
   have HR7 := hdd hrows7
   clear hown7 hgrow hnil hat hnews hone hb0 hmx hby hsi hsz hss hsb hol hk7 hn6 hth hrows7 hi1 hkr1 x0 x1 x2 x3 x4 x5 x6 y0 y1 y2 y3 y4 y5 y6
   rcases HEV.out with ⟨hz, rfl⟩ | ⟨hz, et, ex, rfl⟩
   ·have HZ := hdd hz
    clear hz
    go_wp2_with fail
    go_roundg k
    case measure => exact Nat.lt_succ_self _
    case rel =>
     have hkz : kq = 0 := HKQ.out ▸ HZ.out
     obtain ⟨f1, f2, f3, f4, f5, _⟩ := HV.out HZ.out
     have hsg : (⟨kq, t', kt', z', i', n', q.b⟩ : Sg) = q.sg := by rw [f1, f2, f3, f4, f5, ← HKQ.out]; rfl
     have hle1 := stF_le hle op t s (by rw [HQ.out]; exact HZ.out)
     rw [HQ.out] at hle1
     refine ⟨i + 1, q.s, _, _, by go_num, by omega, by simp [HGS.out], HTH.out.1.inv HZ.out, HTH.out.1.keep, by omega, ?_, HR7.out⟩
     rw [hsg, ← HRUN.out, runA_ok HJ.out (by show (stF P op t s).k = 0; rw [HQ.out]; exact HZ.out) gs]
     show _ = ((gs ++ [(stF P op t s).sg]) ++ (runA P (l.drop (i + 1)) (stF P op t s).s).1, (runA P (l.drop (i + 1)) (stF P op t s).s).2)
     rw [HQ.out]
   ·have HZ := hdd hz
    clear hz
    go_wp2_with fail
    go_ret
    have hkz : ¬ kq = 0 := by rw [← HKQ.out]; exact HZ.out
    have hrun := HRUN.out
    rw [runA_bad HJ.out (by show ¬ (stF P op t s).k = 0; rw [HQ.out]; exact HZ.out) gs] at hrun
    have hrun2 : (gs ++ [q.sg], q.s, q.k) = tot := by rw [← hrun, ← HQ.out]
    rw [← hrun2]
    exact ⟨_, _, rfl, RunRel.last gs (by show kq = q.k; exact HKQ.out.symm) HZ.out, HR7.out.gots (by have := HGS.out; simp; omega), HTH.out.1.keep, HTH.out.1.some, fun e => absurd e HZ.out⟩
  ·have hge : ¬ (i : Int) < (L : Int) := by omega
   have hiL : i = L := by omega
   subst hiL
   go_wp2_with fail
   go_ret
   have hdr : l.drop i = [] := List.drop_eq_nil_of_le (by have := HL.out; omega)
   have hrun := HRUN.out
   rw [hdr] at hrun
   simp only [runA, List.append_nil] at hrun
   rw [← hrun]
   exact ⟨_, gs, rfl, RunRel.refl _, HROWS.out.gots (by have := HGS.out; omega), HKR.out, K.isSome HI.out, fun _ => HI.out⟩
end
def Pm.RdP {St : Type} (P : Pm St) (tot : List Sg × St × Int) (w : World) (e : Ending) (w' : World) : Prop :=
 ∃ gv gi left, e = .returned (.tuple #[gv, .int .i64 left]) ∧ RunRel gi tot.1 ∧ GotsAt (fun i => w.heap.size ≤ i) w' gv gi ∧ Keep (fun _ => False) w w' ∧ (tot.2.2 = 0 → left = P.pr.len tot.2.1)
set_option maxRecDepth 100000 in
theorem Pm.impl_read {St : Type} (P : Pm St) (X : P.X) {E : Env} {A A2 : Nat → Prop} (v sv : Value) (l : List UInt8) (ls : List Sg) (w : World) (hg : Glob E w) (h : BytesAt A w v l) (hl : l.length ≤ 1099511627) (hS : StepsAt A2 w sv ls) (hl6 : ls.length ≤ 65536) (tot : List Sg × St × Int) (htot : runA P ls (P.st0 l) = tot) :
  Calls Tryz.prog 28 #[.agg (confC P.no P.c), v, sv] w (P.RdP tot w) := by
 have hk0 : Keep (fun _ => False) w (w.alloc (.cells (confC P.no P.c) 23 (0, 0))) := (Keep.refl _ w).alloc _
 have hc0 := heap_alloc_new w (.cells (confC P.no P.c) 23 (0, 0))
 have HT := hdd htot
 have HS := hdd (hS.weak (A' := fun i => i < w.heap.size) (fun i hi _ => hi))
 have HLS := hdd hl6
 have HSZ : Hid (w.heap.size ≤ (w.alloc (.cells (confC P.no P.c) 23 (0, 0))).heap.size) := hdd hk0.size
 clear htot hS hl6
 go_enter Tryz.func28, Tryz.ntmps28
 go_wp2_with fail
 obtain ⟨n0, hn⟩ : ∃ n0, w.heap.size = n0 := ⟨_, rfl⟩
 rw [hn] at hc0 ⊢
 generalize w.alloc (.cells (confC P.no P.c) 23 (0, 0)) = w1 at *
 have HN := hdd hn
 have HC0 := hdd hc0
 have HK0 := hdd hk0
 clear hn hc0
 refine (holding_at (E := E) (h.keep hk0 (fun _ _ => id)) (Nat.le_trans hg.size hk0.size)).mono ?_
 rintro e w2 ⟨MB, B, D, rfl, hm, hk2, b1, b2, b3, b4, b5⟩
 obtain ⟨c0, c1, c2, c3, c4, c5, c6⟩ := conf_cells7 ((hk2.block n0 (lt_of_heap HC0.out) id).trans HC0.out)
 have hgk : Glob E w2 := hg.keep (hk0.then hk2) (fun _ x => x.elim)
 go_wp2_with fail
 refine (X.made (D := D) (l := l) hgk hm (by omega)).mono ?_
 rintro e w3 ⟨K, fb, fe, fy, fk, rfl, hKE, hpr, hinv, hk3, hKn, hbI, hbS, hx⟩
 have hk03 : Keep (fun _ => False) w w3 := (hk0.then hk2).then hk3
 have hS3 := HS.out.keep hk03 (fun _ _ x => x)
 have hdis : ∀ i, i < w.heap.size → ¬ K.M w3 i := fun i hi m => by
  have := HSZ.out; have := hk2.size
  rcases hKn i m with e | e <;> omega
 have hreads := Rp.reads_at (K := K) hpr hx X.le (fun W hW => by obtain ⟨_, _, _, hgW⟩ := hbS W hW; rw [hKE]; exact hgW) (P.st0 l) w3 hinv hS3 hdis (by have := X.start l; have := HLS.out; omega) HLS.out tot HT.out
 have HR := hdd hreads
 have HK03 := hdd hk03
 have HBI := hdd hbI
 have HBS := hdd hbS
 have HDIS := hdd hdis
 clear c0 c1 c2 c3 c4 c5 c6 hinv hKn hk2 hk3 hk0 hm hgk b1 b2 b3 b4 b5 hbI hbS hpr hx hk03 hS3 hdis hreads
 go_wp2_with fail
 refine HR.out.mono ?_
 rintro e w4 ⟨gv, gi, rfl, hrel, hgots, hkp, hsome, hinv⟩
 obtain ⟨D', s', hmem, hs'⟩ : ∃ D' s', Mem E w4 MB B D' s' ∧ (tot.2.2 = 0 → s' = P.rem tot.2.1) := by
  by_cases hz : tot.2.2 = 0
  ·obtain ⟨D', hm⟩ := HBI.out _ _ (hinv hz)
   exact ⟨D', _, hm, fun _ => rfl⟩
  ·obtain ⟨D', s', hm, _⟩ := HBS.out _ hsome
   exact ⟨D', s', hm, fun e => absurd e hz⟩
 have hmb := hmem.mb
 have HM := hdd hmem
 have HS' := hdd hs'
 have HG := hdd hgots
 have HKP := hdd hkp
 clear hmem hs' hgots hkp hsome hinv
 go_wp2_with fail
 refine (buf_len HM.out.buf).mono ?_
 rintro e w5 ⟨rfl, nd, rfl⟩
 go_wp2_with fail
 go_ret2
 have hkd : Keep (fun _ => False) w4 (w4.drewN nd) := (Keep.refl _ w4).drewN nd
 refine ⟨_, gi, _, rfl, hrel, (HG.out.keep hkd (fun _ _ x => x)).weak (fun i _ y => by have := HK03.out.size; have := y.1; omega), (HK03.out.trans HKP.out.keep (fun i hi m => HDIS.out i hi m)).then hkd, fun hz => ?_⟩
 rw [HS'.out hz, P.len]
def Rdr.StO {σ : Type} (r : Rdr σ) (w : World) (o : Sto σ) (e : Ending) (w' : World) : Prop := r.GP w o.k o.s o.t o.kt o.z o.i o.n o.b e w'
section
variable {St : Type} {P : Pm St} {r : Rdr St} {t a2 a3 a4 a5 : Int} {sv : Value}
theorem Rdr.stepS (hpr : r.pr = P.pr) (x : r.X) (h0 : ∀ s w2, r.Inv s w2 → r.Step 0 w2 (r.GP w2 (P.gK s) (P.gS s) (P.gT s) 0 0 0 (P.gN s) (P.gB s))) (h1 : ∀ s w2, r.Inv s w2 → r.Step 1 w2 (r.GP w2 0 s 0 0 0 0 0 [])) (op : Int) (s : St) (w : World) (h : r.Inv s w) (hr : r.pr.Room s) :
  Calls Tryz.prog 49 #[.pointer (some ⟨r.R, 0, none⟩), .agg (stepG op t a2 a3 a4 a5 sv)] w (r.StO w (stF P op t s)) := by
 have ok := x.ok
 have hdep : r.pr.dep s < 1099511627776 := by
  have : r.pr.len s + r.pr.dep s < 1099511627776 := hr
  omega
 unfold Rdr.StO stF
 rw [← hpr]
 by_cases e0 : op = 0
 ·subst e0
  exact h0 s w h
 rw [if_neg e0]
 by_cases e2 : op = 2
 ·subst e2
  exact ok.sb h hdep
 rw [if_neg e2]
 by_cases e3 : op = 3
 ·subst e3
  by_cases hd : r.pr.one ≤ r.pr.dep s
  ·simp only [if_pos hd]
   exact ok.se h hd
  ·simp only [if_neg hd]
   exact x.se0 s w h hd
 rw [if_neg e3]
 by_cases e4 : op = 4
 ·subst e4
  exact ok.f h
 rw [if_neg e4]
 by_cases e5 : op = 5
 ·subst e5
  exact ok.fe h
 rw [if_neg e5]
 by_cases e7 : op = 7
 ·subst e7
  exact ok.m h
 rw [if_neg e7]
 by_cases e8 : op = 8
 ·subst e8
  exact ok.me h
 rw [if_neg e8]
 by_cases e9 : op = 9
 ·subst e9
  rw [if_pos (Or.inl rfl)]
  exact ok.l h
 by_cases e11 : op = 11
 ·subst e11
  rw [if_pos (Or.inr rfl)]
  exact ok.t h
 rw [if_neg (by omega : ¬ (op = 9 ∨ op = 11))]
 by_cases e10 : op = 10
 ·subst e10
  rw [if_pos (Or.inl rfl)]
  exact ok.le h
 by_cases e12 : op = 12
 ·subst e12
  rw [if_pos (Or.inr rfl)]
  exact ok.te h
 rw [if_neg (by omega : ¬ (op = 10 ∨ op = 12))]
 by_cases hs : 13 ≤ op ∧ op ≤ 21
 ·rw [if_pos hs]
  have hc : op = 13 ∨ op = 14 ∨ op = 15 ∨ op = 16 ∨ op = 17 ∨ op = 18 ∨ op = 19 ∨ op = 20 ∨ op = 21 := by omega
  rcases hc with rfl | rfl | rfl | rfl | rfl | rfl | rfl | rfl | rfl
  ·exact ok.sc 2 (by decide) h
  ·exact ok.sc 3 (by decide) h
  ·exact ok.sc 6 (by decide) h
  ·exact ok.sc 8 (by decide) h
  ·exact ok.sc 10 (by decide) h
  ·exact ok.sc 4 (by decide) h
  ·exact ok.sc 11 (by decide) h
  ·exact x.b s w h
  ·exact ok.sc 16 (by decide) h
 rw [if_neg hs]
 by_cases e22 : op = 22
 ·subst e22
  exact Rdr.step22 ok t h hr
 rw [if_neg e22]
 by_cases e1 : op = 1
 ·subst e1
  exact h1 s w h
 exact Rdr.stepN ok op t (by omega) h
end
def RefRel (rs hs : List Sg) : Prop := (∀ (j : Nat) (y : Sg), hs[j]? = some y → ∃ x : Sg, rs[j]? = some x ∧ Sk x.op y.op ∧ (y.op = 0 → x = y)) ∧ (hs.length = rs.length ∨ ∃ (j : Nat) (y : Sg), hs[j]? = some y ∧ y.op = -2)
def Pm.SRdP {St : Type} (P : Pm St) (tot : List Sg × St × Int) (w : World) (e : Ending) (w' : World) : Prop :=
 ∃ gv hs left, e = .returned (.tuple #[gv, .int .i64 left]) ∧ RefRel tot.1 hs ∧ GotsAt (fun i => w.heap.size ≤ i) w' gv hs ∧ Keep (fun _ => False) w w' ∧ ((∀ y : Sg, hs[hs.length - 1]? = some y → y.op = 0) → tot.2.2 = 0 ∧ left = P.pr.len tot.2.1)
def Rdr.RdRel {St : Type} (r : Rdr St) (P : Pm St) (w : World) (l : List Sg) (tot : List Sg × St × Int) (L k : Nat) (v9 v10 : Value) (wr : World) : Prop :=
 ∃ (i : Nat) (s : St) (gs : List Sg) (rows : List (List Value)), v10 = .int .i64 i ∧ i + k = L ∧ gs.length = i ∧ r.Inv s wr ∧ Kpt r.M w wr ∧ P.pr.len s + P.pr.dep s + k < 1099511627776 ∧ (gs ++ (runA P (l.drop i) s).1, (runA P (l.drop i) s).2) = tot ∧ (∀ y ∈ gs, y.op = 0) ∧ RdRows 75 w wr (r.M wr) gs v9 rows
theorem RefRel.pre (gs rest : List Sg) (hz : ∀ y ∈ gs, y.op = 0) (j : Nat) (y : Sg) (hj : gs[j]? = some y) : ∃ x : Sg, (gs ++ rest)[j]? = some x ∧ Sk x.op y.op ∧ (y.op = 0 → x = y) :=
 ⟨y, by rw [List.getElem?_append_left (List.getElem?_eq_some_iff.1 hj).1]; exact hj, .inr (.inr rfl), fun _ => rfl⟩
theorem RefRel.last (gs rest : List Sg) (hz : ∀ y ∈ gs, y.op = 0) {x y : Sg} (h : Sk x.op y.op) (hy : ¬ y.op = 0) (hx : ¬ x.op = 0 → rest = []) : RefRel (gs ++ x :: rest) (gs ++ [y]) := by
 refine ⟨fun j a hj => ?_, ?_⟩
 ·by_cases hl : j < gs.length
  ·rw [List.getElem?_append_left hl] at hj
   exact RefRel.pre gs _ hz j a hj
  ·rw [List.getElem?_append_right (by omega)] at hj
   have h0 : j - gs.length = 0 := by
    have := (List.getElem?_eq_some_iff.1 hj).1
    simp at this
    omega
   rw [h0] at hj
   simp at hj
   subst hj
   exact ⟨x, by rw [List.getElem?_append_right (by omega), h0]; rfl, h, fun e => absurd e hy⟩
 ·by_cases h2 : y.op = -2
  ·exact .inr ⟨gs.length, y, by rw [List.getElem?_append_right (Nat.le_refl _)]; simp, h2⟩
  ·refine .inl ?_
   have : ¬ x.op = 0 := fun e => by
    unfold Sk at h
    omega
   rw [hx this]
   simp
theorem sgot_info : ∃ i, Tryz.prog.info? 75 = some i ∧ i.zero = some (.agg (gotA 0 0 0 0 0 0 nilB)) ∧ i.size = 7 ∧ i.bytes = 72 := ⟨Tryz.t75, by kernel_rfl, by kernel_rfl, by kernel_rfl, by kernel_rfl⟩
section
variable {St : Type} (P : Pm St)
set_option maxRecDepth 100000 in
theorem Pm.spec_read (X : P.X) {A A2 : Nat → Prop} (v sv : Value) (l : List UInt8) (ls : List Sg) (w : World) (h : BytesAt A w v l) (hl : l.length ≤ 1099511627) (hS : StepsAt A2 w sv ls) (hl6 : ls.length ≤ 65536) (tot : List Sg × St × Int) (htot : runA P ls (P.st0 l) = tot) :
  Calls Tryz.prog 29 #[confV P.no P.c, v, sv] w (P.SRdP tot w) := by
 have hk0 : Keep (fun _ => False) w (w.alloc (.cells (confC P.no P.c) 40 (0, 0))) := (Keep.refl _ w).alloc _
 have HT := hdd htot
 have hS1 := hS.weak (A' := fun i => i < w.heap.size) (fun i hi _ => hi)
 obtain ⟨a, c, rfl, hll, hc, g⟩ := hS1
 obtain ⟨L, hL⟩ : ∃ L, ls.length = L := ⟨_, rfl⟩
 rw [hL] at hll hc hl6 ⊢
 have HL := hdd hL
 have G := hdd g
 have HC := hdd hc
 have HSZ : Hid (w.heap.size ≤ (w.alloc (.cells (confC P.no P.c) 40 (0, 0))).heap.size) := hdd hk0.size
 clear htot hS hL g hc
 go_enter Tryz.func29, Tryz.ntmps29
 go_wp2_with fail
 generalize w.alloc (.cells (confC P.no P.c) 40 (0, 0)) = w1 at *
 have HK0 := hdd hk0
 refine (X.read v l w1 (h.keep hk0 (fun _ _ => id)) (by omega)).mono ?_
 rintro e w2 ⟨r, rfl, rx, hpr, hi0, hk2, hM, hleft, hst0, hst1⟩
 have hdis : ∀ i, i < w.heap.size → ¬ r.M w2 i := fun i hi m => by
  have := HSZ.out
  have := hM i m
  omega
 have HDIS := hdd hdis
 have HLEFT := hdd hleft
 have HK2 := hdd (hk0.then hk2)
 have hb0 : P.pr.len (P.st0 l) + P.pr.dep (P.st0 l) + L < 1099511627776 := by have := X.start l; omega
 have HB0 := hdd hb0
 have HI0 := hdd hi0
 have ok := rx.ok
 clear hk0 hk2 hM hleft hdis hb0
 go_wp2_with fail
 go_loopg [9, 10] L (fun k v9 v10 wr => r.RdRel P w2 ls tot L k v9 v10 wr)
 case atStart => exact ⟨0, P.st0 l, [], [], rfl, by omega, rfl, HI0.out, Kpt.refl _ _, HB0.out, by rw [← HT.out]; rfl, fun y hy => (by cases hy), RdRows.nil _ _ _ _⟩
 case round =>
  obtain ⟨i, s, gs, rows, rfl, hik, hgl2, hi, hkr, hroom, hrun, hzs, hrows⟩ := hrel
  obtain ⟨va, vm, vc, rfl⟩ := own_shape hrows.own
  have HROWS := hdd hrows
  have HKR := hdd hkr
  have HI := hdd hi
  have HGS := hdd hgl2
  have HRUN := hdd hrun
  have HZS := hdd hzs
  clear hrows hkr hi hgl2 hrun hzs
  by_cases hlt : i < L
  ·cases gk with
   | zero => omega
   | succ k =>
   have hlt' : (i : Int) < (L : Int) := by omega
   have hj : ls[i]? = some (ls[i]'(by have := HL.out; omega)) := List.getElem?_eq_getElem _
   obtain ⟨D, o, sv', ha, hAD, hs, h7⟩ := G.out i _ hj
   generalize (ls[i]'(by have := HL.out; omega)) = xs at *
   subst ha
   have HJ := hdd hj
   obtain ⟨sa, sm, sc, rfl⟩ := hs.shape
   obtain ⟨d0, d1, d2, d3, d4, d5, d6⟩ := (h7.keep HK2.out (fun x => x)).keep HKR.out.keep (HDIS.out D hAD)
   have hnc : L ≤ c := (HC.out (by omega)).1
   have hw : IntKind.i64.wrap ((i : Int) + 1) = (i : Int) + 1 := IntWalk.i64_in _ (by omega)
   obtain ⟨op, t, kk, z, ii, n, bs⟩ := xs
   obtain ⟨q, hq⟩ : ∃ q, stF P op t s = q := ⟨_, rfl⟩
   have hst : Calls Tryz.prog 49 #[.pointer (some ⟨r.R, 0, none⟩), .agg (stepG op t kk z ii n (.slice sa sm sc))] wr (r.StO wr q) := by
    rw [← hq]
    exact Rdr.stepS hpr rx hst0 hst1 op s wr HI.out (by rw [hpr]; show P.pr.len s + P.pr.dep s < 1099511627776; omega)
   have HST := hdd hst
   have HQ := hdd hq
   clear hj hs h7 hst hq
   go_wp2_with fail
   refine HST.out.mono ?_
   rintro e w3 ⟨x, t', kt', z', i', n', S', rfl, ⟨ua, um, uc, rfl⟩, hx, hs2, hk3, hv⟩
   have HX := hdd hx
   have HS2 := hdd hs2
   have HK3 := hdd hk3
   have HV := hdd hv
   clear hx hs2 hk3 hv d0 d1 d2 d3 d4 d5 d6
   have hol := World.ownsRow.lt HROWS.out.own
   obtain ⟨si, hsi, hsz, hss, hsb⟩ := sgot_info
   have hown4 : (w3.alloc (.cells (gotA x t' kt' z' i' n' (.slice ua um uc)) 75 (0, 0))).ownsRow w2.heap.size 75 7 (.slice va vm vc) gs.length rows.flatten :=
    (ownsRow_keep HROWS.out.own HK3.out.keep (fun b e => HROWS.out.not b e)).alloc _
   have HOWN4 := hdd hown4
   have hnews := row_new (w3.alloc (.cells (gotA x t' kt' z' i' n' (.slice ua um uc)) 75 (0, 0))) (gotA x t' kt' z' i' n' (.slice ua um uc)) 75
   have hsz4 : (w3.alloc (.cells (gotA x t' kt' z' i' n' (.slice ua um uc)) 75 (0, 0))).heap.size = w3.heap.size + 1 := by simp
   rw [hsz4] at hnews
   have hone := stepG_one x t' kt' z' i' n' ua um uc
   have hs2 := HKR.out.size
   have hs3 := HK3.out.size
   have hb0 : w2.heap.size ≤ ((w3.alloc (.cells (gotA x t' kt' z' i' n' (.slice ua um uc)) 75 (0, 0))).alloc (.cells (gotA x t' kt' z' i' n' (.slice ua um uc)) 75)).heap.size := by simp; omega
   have hmx : gs.length + 1 ≤ maxLen := by have := HGS.out; simp only [maxLen]; omega
   have hby : (gs.length + 1) * 72 ≤ 140737488355328 := by have := HGS.out; omega
   have hne : ¬ w3.heap.size = w3.heap.size + 1 := by omega
   clear hown4 hsz4
   go_wp2_with (at_builtin; go_loud (refine wpList_append_own_at _ rfl (.tmp 27) (.tmp 29) 68 rfl w2.heap.size 75 si (.agg (gotA 0 0 0 0 0 0 nilB)) 7 72 Tryz.underlying68 hsi hsz hss hsb rfl (by decide) (.slice va vm vc) gs.length rows.flatten rfl (HOWN4.out.alloc _) ⟨w3.heap.size + 1, 0, none⟩ 1 1 (gotA x t' kt' z' i' n' (.slice ua um uc)).toList rfl rfl hnews hone hmx hby hb0 ?_))
   intro v' w7 hown7 hgrow hnil hat
   obtain ⟨va7, vm7, vc7, rfl⟩ := own_shape hown7
   obtain ⟨s2, hi2, hs2x⟩ := HS2.out
   have hlb : ∀ b, (Value.slice va vm vc).ownBlock = some b → b < w3.heap.size := fun b e => by have := (hol b e).2; omega
   have hk7 : Keep (fun b => (Value.slice va vm vc).ownBlock = some b) w3 w7 := (((Keep.refl _ w3).alloc _).alloc _).grown hgrow (fun b e _ => e)
   have hB7 : w7.heap[w3.heap.size]? = some (.cells (gotA x t' kt' z' i' n' (.slice ua um uc)) 75 (0, 0)) := by
    have e1 := heap_alloc_new w3 (.cells (gotA x t' kt' z' i' n' (.slice ua um uc)) 75 (0, 0))
    have k1 : Keep (fun b => (Value.slice va vm vc).ownBlock = some b) (w3.alloc (.cells (gotA x t' kt' z' i' n' (.slice ua um uc)) 75 (0, 0))) w7 := ((Keep.refl _ _).alloc _).grown hgrow (fun b e _ => e)
    exact (k1.block _ (by simp) (fun e => by have := hlb _ e; omega)).trans e1
   have hnm : ∀ b, (Value.slice va vm vc).ownBlock = some b → ¬ r.M w3 b := fun b e => HK3.out.not (hol b e).2 (HROWS.out.not b e)
   have htn := ok.turn hi2 hk7 hnm
   have hkp7 : Kpt r.M w2 w7 := (HKR.out.then HK3.out).turned hk7 (fun b e => (hol b e).1) htn.2
   have hrows7 : RdRows 75 w2 w7 (r.M w7) (gs ++ [⟨x, t', kt', z', i', n', q.b⟩]) (.slice va7 vm7 vc7) (rows ++ [(gotA x t' kt' z' i' n' (.slice ua um uc)).toList]) :=
    RdRows.more (Mr := r.M wr) (M2 := r.M w3) (y := ⟨x, t', kt', z', i', n', q.b⟩) HROWS.out HKR.out.size HK3.out.keep (fun b hb m => HK3.out.grow b hb m) hk7 htn.2 (fun b m => ok.lt hi2 b m) (by omega : w3.heap.size ≤ w3.heap.size + 1 + 1) hown7 hat (fun hz => (HV.out hz).2.2.2.2.2)
   have HR7 := hdd hrows7
   have HKP7 := hdd hkp7
   have HI7 := hdd htn.1
   have HS2X := hdd hs2x
   have hB7c := got_cells hB7
   obtain ⟨x0, x1, x2, x3, x4, x5, x6⟩ := hB7c
   clear hown7 hgrow hnil hat hnews hone hb0 hmx hby hsi hsz hss hsb hol hk7 hnm htn hrows7 hkp7 hlb hB7 hs2x x1 x2 x3 x4 x5 x6
   by_cases hz : x = 0
   ·have HZ := hdd hz
    have hxb : (x != 0) = false := by simp [hz]
    clear hz
    go_wp2_with fail
    go_roundg k
    case measure => exact Nat.lt_succ_self _
    case rel =>
     have hq0 : q.k = 0 := by have h := HX.out; rw [HZ.out] at h; exact Sk.zero h
     obtain ⟨f1, f2, f3, f4, f5, _⟩ := HV.out HZ.out
     have hsg : (⟨x, t', kt', z', i', n', q.b⟩ : Sg) = q.sg := by rw [f1, f2, f3, f4, f5, HZ.out, ← hq0]; rfl
     have hle1 := stF_le X.le op t s (by rw [HQ.out]; exact hq0)
     rw [HQ.out] at hle1
     refine ⟨i + 1, q.s, _, _, by go_num, by omega, by simp [HGS.out], by rw [← HS2X.out HZ.out]; exact HI7.out, HKP7.out, by omega, ?_, fun y hy => ?_, HR7.out⟩
     ·rw [hsg, ← HRUN.out, runA_ok HJ.out (by show (stF P op t s).k = 0; rw [HQ.out]; exact hq0) gs]
      show _ = ((gs ++ [(stF P op t s).sg]) ++ (runA P (ls.drop (i + 1)) (stF P op t s).s).1, (runA P (ls.drop (i + 1)) (stF P op t s).s).2)
      rw [HQ.out]
     ·rcases List.mem_append.1 hy with hy | hy
      ·exact HZS.out y hy
      ·simp at hy
       rw [hy]
       exact HZ.out
   ·have HZ := hdd hz
    have hxb : (x != 0) = true := by simp [hz]
    have hlf := HLEFT.out s2 w7 HI7.out
    have HLF := hdd hlf
    clear hz hlf
    go_wp2_with fail
    refine HLF.out.mono ?_
    rintro e w8 ⟨rfl, rfl⟩
    go_wp2_with fail
    go_ret2
    refine ⟨_, _, _, rfl, ?_, (HR7.out.gots (by have := HGS.out; simp; omega)).weak (fun b _ y => by have := HK2.out.size; have := y.1; omega), HK2.out.trans HKP7.out.keep (fun b hb m => HDIS.out b hb m), fun hy => absurd (hy ⟨x, t', kt', z', i', n', q.b⟩ (by simp)) HZ.out⟩
    have hrun := HRUN.out
    by_cases hq0 : q.k = 0
    ·rw [runA_ok HJ.out (by show (stF P op t s).k = 0; rw [HQ.out]; exact hq0) gs] at hrun
     have hr2 : (gs ++ [(stF P op t s).sg]) ++ (runA P (ls.drop (i + 1)) (stF P op t s).s).1 = tot.1 := by rw [← hrun]
     rw [← hr2, List.append_assoc, HQ.out]
     exact RefRel.last gs _ HZS.out (x := q.sg) HX.out HZ.out (fun h => absurd hq0 h)
    ·rw [runA_bad HJ.out (by show ¬ (stF P op t s).k = 0; rw [HQ.out]; exact hq0) gs] at hrun
     have hr2 : gs ++ [(stF P op t s).sg] = tot.1 := by rw [← hrun]
     rw [← hr2, HQ.out]
     exact RefRel.last gs [] HZS.out (x := q.sg) HX.out HZ.out (fun _ => rfl)
  ·have hge : ¬ (i : Int) < (L : Int) := by omega
   have hiL : i = L := by omega
   subst hiL
   have hlf := HLEFT.out s wr HI.out
   have HLF := hdd hlf
   clear hlf
   go_wp2_with fail
   refine HLF.out.mono ?_
   rintro e w5 ⟨rfl, rfl⟩
   go_wp2_with fail
   go_ret2
   have hdr : ls.drop i = [] := List.drop_eq_nil_of_le (by have := HL.out; omega)
   have hrun := HRUN.out
   rw [hdr] at hrun
   simp only [runA, List.append_nil] at hrun
   rw [← hrun]
   exact ⟨_, gs, _, rfl, ⟨fun j y hj => ⟨y, hj, .inr (.inr rfl), fun _ => rfl⟩, .inl rfl⟩, (HROWS.out.gots (by have := HGS.out; omega)).weak (fun b _ y => by have := HK2.out.size; have := y.1; omega), HK2.out.trans HKR.out.keep (fun b hb m => HDIS.out b hb m), fun _ => ⟨rfl, by first | rfl | rw [hpr]⟩⟩
end
end Go.Proofs.YtjekbomlpcdojaaGreatDoor
