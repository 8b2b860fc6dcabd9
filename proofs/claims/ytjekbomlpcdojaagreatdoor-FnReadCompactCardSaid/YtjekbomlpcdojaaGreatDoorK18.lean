/- Part 18 of the proof: Rd0, Pm0, Sg0, Rk2, Rk3, Rk4, Rk5, Rb0. -/
import Derived.Test.YtjekbomlpcdojaaGreatDoorK16
import Derived.Test.YtjekbomlpcdojaaGreatDoorK10
import Derived.Test.YtjekbomlpcdojaaGreatDoorK8
import Derived.Test.YtjekbomlpcdojaaGreatDoorK17
import Derived.Deep.LoopGhost
set_option linter.unusedVariables false
set_option linter.unusedSimpArgs false
set_option linter.unusedSectionVars false
set_option maxHeartbeats 16000000
namespace Go.Proofs.YtjekbomlpcdojaaGreatDoor
open Go Go.RowKit
structure Rdr (σ : Type) where
 R : Nat
 pr : Pr σ
 M : World → Nat → Prop
 Inv : σ → World → Prop
def Rdr.GP {σ : Type} (r : Rdr σ) (w : World) (k : Int) (s' : σ) (T KT SZ ID N : Int) (S : List UInt8) (e : Ending) (w' : World) : Prop :=
 ∃ x t kt size id N' S', e = .returned (gotV x t kt size id N' S') ∧ (∃ a m cc, S' = .slice a m cc) ∧ Sk k x ∧ (∃ s2, r.Inv s2 w' ∧ (x = 0 → s2 = s')) ∧ Kpt r.M w w' ∧
  (x = 0 → t = T ∧ kt = KT ∧ size = SZ ∧ id = ID ∧ N' = N ∧ BytesAt (fun i => w.heap.size ≤ i ∧ ¬ r.M w' i) w' S' S)
abbrev Rdr.Step {σ : Type} (r : Rdr σ) (op : Int) (w : World) (Q : Ending → World → Prop) : Prop := ∀ {a1 a2 a3 a4 a5 : Int} {sv : Value}, Calls Tryz.prog 49 #[.pointer (some ⟨r.R, 0, none⟩), .agg (stepG op a1 a2 a3 a4 a5 sv)] w Q
structure Rdr.Ok {σ : Type} (r : Rdr σ) : Prop where
 pr : r.pr.Ok
 lt : ∀ {s : σ} {w : World}, r.Inv s w → ∀ i, r.M w i → i < w.heap.size
 turn : ∀ {s : σ} {w w' : World} {N : Nat → Prop}, r.Inv s w → Keep N w w' → (∀ i, N i → ¬ r.M w i) → r.Inv s w' ∧ ∀ i, r.M w' i → r.M w i
 sc : ∀ {s : σ} {w : World} (t : Int), isSc t = true → r.Inv s w → r.Step (opOf t) w (r.GP w (r.pr.scK t s) (r.pr.scS t s) 0 0 0 0 (r.pr.scN t s) (r.pr.scB t s))
 sb : ∀ {s : σ} {w : World}, r.Inv s w → r.pr.dep s < 1099511627776 → r.Step 2 w (r.GP w 0 (r.pr.sbS s) 0 0 0 0 0 [])
 se : ∀ {s : σ} {w : World}, r.Inv s w → r.pr.one ≤ r.pr.dep s → r.Step 3 w (r.GP w 0 (r.pr.seS s) 0 0 0 0 0 [])
 f : ∀ {s : σ} {w : World}, r.Inv s w → r.Step 4 w (r.GP w (r.pr.fK s) (r.pr.fS s) (r.pr.fT s) 0 0 (r.pr.fI s) 0 [])
 fe : ∀ {s : σ} {w : World}, r.Inv s w → r.Step 5 w (r.GP w 0 (r.pr.feS s) 0 0 0 0 0 [])
 m : ∀ {s : σ} {w : World}, r.Inv s w → r.Step 7 w (r.GP w (r.pr.mK s) (r.pr.mS s) (r.pr.mT s) (r.pr.mKT s) (r.pr.mN s) 0 0 [])
 me : ∀ {s : σ} {w : World}, r.Inv s w → r.Step 8 w (r.GP w 0 (r.pr.meS s) 0 0 0 0 0 [])
 l : ∀ {s : σ} {w : World}, r.Inv s w → r.Step 9 w (r.GP w (r.pr.lK s) (r.pr.lS s) (r.pr.lT s) 0 (r.pr.lN s) 0 0 [])
 le : ∀ {s : σ} {w : World}, r.Inv s w → r.Step 10 w (r.GP w 0 (r.pr.leS s) 0 0 0 0 0 [])
 t : ∀ {s : σ} {w : World}, r.Inv s w → r.Step 11 w (r.GP w (r.pr.lK s) (r.pr.lS s) (r.pr.lT s) 0 (r.pr.lN s) 0 0 [])
 te : ∀ {s : σ} {w : World}, r.Inv s w → r.Step 12 w (r.GP w 0 (r.pr.leS s) 0 0 0 0 0 [])
theorem Rdr.Ok.fresh {σ : Type} {r : Rdr σ} (ok : r.Ok) {s : σ} {w w' : World} (h : r.Inv s w) (k : Keep (fun _ => False) w w') : r.Inv s w' := (ok.turn h k (fun _ x => x.elim)).1
theorem Rdr.Ok.kept {σ : Type} {r : Rdr σ} (ok : r.Ok) {s : σ} {w w' : World} (h : r.Inv s w) (k : Keep (fun _ => False) w w') : Kpt r.M w w' :=
 ⟨k.weak (fun _ _ x => x.elim), fun i _ => (ok.turn h k (fun _ x => x.elim)).2 i⟩
theorem Rdr.Ok.new {σ : Type} {r : Rdr σ} (ok : r.Ok) {s : σ} {w w' : World} (h : r.Inv s w) (k : Keep (fun _ => False) w w') : ∀ i, w.heap.size ≤ i → ¬ r.M w' i := fun i hi x => by
 have := ok.lt h i ((ok.turn h k (fun _ x => x.elim)).2 i x)
 omega
theorem got_field0 (k t kt size id n : Int) (s : Value) (w : World) : (Instr.field 75 (gotV k t kt size id n s) 0).run Tryz.prog w = .ok (.int .i64 k) w := by kernel_rfl
def Rdr.SkP {σ : Type} (r : Rdr σ) (w : World) (q : Int × σ) (e : Ending) (w' : World) : Prop :=
 ∃ x, e = .returned (.int .i64 x) ∧ Sk q.1 x ∧ (∃ s2, r.Inv s2 w' ∧ (x = 0 → s2 = q.2)) ∧ Kpt r.M w w'
abbrev Rdr.Skips {σ : Type} (r : Rdr σ) (d : Nat) : Prop := ∀ (deep t : Int) (s : σ) (w : World), deep.toNat = d → -9223372036854775808 ≤ deep → deep ≤ 9223372036854775807 → r.Inv s w → r.pr.Room s →
 Calls Tryz.prog 81 #[.pointer (some ⟨r.R, 0, none⟩), .int .i64 t, .int .i64 deep] w (r.SkP w (skp r.pr d t s))
section
variable {σ : Type} {r : Rdr σ} {s : σ} {w : World}
theorem Rdr.skip_zero : r.Skips 0 := by
 intro deep t s w hd hlo hhi hR _
 have hle : deep ≤ 0 := by omega
 go_enter Tryz.func81, Tryz.ntmps81
 go_wp2_with fail
 go_ret
 exact ⟨_, rfl, .inr (.inr rfl), ⟨_, hR, fun hh => by cases hh⟩, Kpt.refl _ _⟩
set_option maxRecDepth 100000 in
theorem Rdr.skip_scalar (ok : r.Ok) (deep t : Int) (hd : 0 < deep) (ht : isSc t = true) (hR : r.Inv s w) :
  Calls Tryz.prog 81 #[.pointer (some ⟨r.R, 0, none⟩), .int .i64 t, .int .i64 deep] w (r.SkP w (r.pr.scK t s, r.pr.scS t s)) := by
 obtain ⟨_, ho1, ho2⟩ : isSc t = true ∧ 13 ≤ opOf t ∧ opOf t ≤ 21 := by
  rcases opOf_sc t with h | h
  ·exact h
  ·rw [ht] at h; exact absurd h.1 (by decide)
 have hstep : Calls _ _ #[_, .agg (stepA (opOf t))] _ _ := ok.sc t ht hR
 obtain ⟨o, ho⟩ : ∃ o, opOf t = o := ⟨_, rfl⟩
 rw [ho] at hstep ho1 ho2
 have HO := hdd ho
 clear ho
 go_enter Tryz.func81, Tryz.ntmps81
 go_wp2_with fail
 refine (spec_op t w).mono ?_
 rintro e w1 ⟨rfl, rfl⟩
 rw [HO.out]
 go_wp2_with fail
 refine hstep.mono ?_
 rintro e w2 ⟨x, t', kt, size, id, N', S', rfl, ⟨a, m, cc, rfl⟩, hx, hr, hk, _⟩
 have HX := hdd hx
 have hf := got_field0 x t' kt size id N' (.slice a m cc)
 clear hx
 go_wp2_with fail
 go_ret
 exact ⟨_, rfl, HX.out, hr, hk⟩
end
structure Rp.Msg {St : Type} (K : Rp.Ctx St) (gK : St → Int) (gS : St → St) (gT gN : St → Int) (gB : St → List UInt8) (fb fe : FuncId) : Prop where
 mb : Rp.Meth K.T K.P "ReadMessageBegin" fb
 me : Rp.Meth K.T K.P "ReadMessageEnd" fe
 rb : ∀ {s : St} {w : World}, K.Inv s w → Calls Tryz.prog fb #[.pointer (some ⟨K.P, 0, none⟩), ctxV] w fun e w' => ∃ l t q ev, e = .returned (.tuple #[.string l, .int .i32 t, .int .i32 q, ev]) ∧ Rp.Post K w w' (gK s) ev (gS s) ∧ (gK s = 0 → l = ⟨(gB s).toArray⟩ ∧ t = gT s ∧ q = gN s)
 re : ∀ (p c : Value) (w : World), Calls Tryz.prog fe #[p, c] w fun e w' => e = .returned .nilIface ∧ w = w'
structure Pm (St : Type) where
 c : Cfg
 no : Int
 pr : Pr St
 st0 : List UInt8 → St
 rem : St → List UInt8
 gK : St → Int
 gS : St → St
 gT : St → Int
 gN : St → Int
 gB : St → List UInt8
 len : ∀ s, pr.len s = (rem s).length
 lt : (∀ t s, pr.scK t s < 50) ∧ (∀ s, pr.fK s < 50) ∧ (∀ s, pr.mK s < 50) ∧ ∀ s, pr.lK s < 50
 gK_bd : ∀ s, 0 ≤ gK s ∧ gK s ≤ 16
 room0 : ∀ l : List UInt8, l.length ≤ 1099511627775 → pr.Room (st0 l)
 gS_room : ∀ s, pr.Room s → pr.Room (gS s)
 gN_w : ∀ s, IntKind.i32.wrap (gN s) = gN s
 gT_w : ∀ s, IntKind.i64.wrap (gT s) = gT s
 gB_le : ∀ l : List UInt8, l.length ≤ 140737488355328 → (⟨(gB (st0 l)).toArray⟩ : ByteArray).size ≤ 140737488355328
 made : ∀ {E : Env} {MB B D : Nat} {l : List UInt8} {w : World}, Glob E w → Mem E w MB B D l → l.length ≤ 140737488355328 → Calls Tryz.prog 35 #[confV no c, memV MB] w fun e w' =>
  ∃ (K : Rp.Ctx St) (fb fe : FuncId), e = .returned K.V ∧ K.E = E ∧ K.pr = pr ∧ K.Inv (st0 l) w' ∧ Keep (fun _ => False) w w' ∧ (∀ i, K.M w' i → B = i ∨ w.heap.size ≤ i) ∧
   (∀ s W, K.Inv s W → ∃ D', Mem E W MB B D' (rem s)) ∧ (∀ W, K.Some W → ∃ D' s', Mem E W MB B D' s' ∧ Glob E W) ∧ Rp.Msg K gK gS gT gN gB fb fe
 read : ∀ {A : Nat → Prop} (v : Value) (l : List UInt8) (w : World), BytesAt A w v l → l.length ≤ 140737488355328 → Calls Tryz.prog 48 #[confV no c, v] w fun e w' =>
  ∃ r : Rdr St, e = .returned (.pointer (some ⟨r.R, 0, none⟩)) ∧ r.Ok ∧ r.pr = pr ∧ r.Inv (st0 l) w' ∧ Keep (fun _ => False) w w' ∧ (∀ i, r.M w' i → w.heap.size ≤ i) ∧
   (∀ s w2, r.Inv s w2 → Calls Tryz.prog 63 #[.pointer (some ⟨r.R, 0, none⟩)] w2 fun e w3 => e = .returned (.int .i64 (r.pr.len s)) ∧ w2 = w3) ∧
   (∀ s w2, r.Inv s w2 → r.Step 0 w2 (r.GP w2 (gK s) (gS s) (gT s) 0 0 0 (gN s) (gB s))) ∧
   (∀ s w2, r.Inv s w2 → r.Step 1 w2 (r.GP w2 0 s 0 0 0 0 0 []))
structure Sg where
 op : Int
 t : Int
 k : Int
 z : Int
 i : Int
 n : Int
 s : List UInt8
def Row7 (w : World) (D o : Nat) (v0 v1 v2 v3 v4 v5 v6 : Value) : Prop :=
 w.cell? ⟨D, o, none⟩ = some v0 ∧ w.cell? ⟨D, o + 1, none⟩ = some v1 ∧ w.cell? ⟨D, o + 2, none⟩ = some v2 ∧ w.cell? ⟨D, o + 3, none⟩ = some v3 ∧ w.cell? ⟨D, o + 4, none⟩ = some v4 ∧ w.cell? ⟨D, o + 5, none⟩ = some v5 ∧ w.cell? ⟨D, o + 6, none⟩ = some v6
theorem Row7.keep {M : Nat → Prop} {w w' : World} {D o : Nat} {v0 v1 v2 v3 v4 v5 v6 : Value} (h : Row7 w D o v0 v1 v2 v3 v4 v5 v6) (k : Keep M w w') (hM : ¬ M D) : Row7 w' D o v0 v1 v2 v3 v4 v5 v6 := by
 obtain ⟨h0, h1, h2, h3, h4, h5, h6⟩ := h
 exact ⟨(k.cell (p := ⟨D, o, none⟩) (lt_of_cell h0) hM).trans h0, (k.cell (p := ⟨D, o + 1, none⟩) (lt_of_cell h1) hM).trans h1, (k.cell (p := ⟨D, o + 2, none⟩) (lt_of_cell h2) hM).trans h2, (k.cell (p := ⟨D, o + 3, none⟩) (lt_of_cell h3) hM).trans h3, (k.cell (p := ⟨D, o + 4, none⟩) (lt_of_cell h4) hM).trans h4, (k.cell (p := ⟨D, o + 5, none⟩) (lt_of_cell h5) hM).trans h5, (k.cell (p := ⟨D, o + 6, none⟩) (lt_of_cell h6) hM).trans h6⟩
def StepsAt (A : Nat → Prop) (w : World) (v : Value) (l : List Sg) : Prop :=
 ∃ a c, v = .slice a l.length c ∧ l.length ≤ 140737488355328 ∧ (l.length ≠ 0 → l.length ≤ c ∧ c ≤ 9223372036854775807) ∧ ∀ j x, l[j]? = some x → ∃ D o sv, a = some ⟨D, o, none⟩ ∧ A D ∧ BytesAt A w sv x.s ∧ Row7 w D (o + j * 7) (.int .i64 x.op) (.int .i64 x.t) (.int .i64 x.k) (.int .i64 x.z) (.int .i64 x.i) (.int .i64 x.n) sv
theorem StepsAt.keep {A M : Nat → Prop} {w w' : World} {v : Value} {l : List Sg} (h : StepsAt A w v l) (k : Keep M w w') (hM : ∀ i, A i → ¬ M i) : StepsAt A w' v l := by
 obtain ⟨a, c, rfl, h1, h2, h3⟩ := h
 refine ⟨a, c, rfl, h1, h2, fun j x hj => ?_⟩
 obtain ⟨D, o, sv, e1, e2, e3, e4⟩ := h3 j x hj
 exact ⟨D, o, sv, e1, e2, e3.keep k hM, e4.keep k (hM D e2)⟩
theorem StepsAt.weak {A A' : Nat → Prop} {w : World} {v : Value} {l : List Sg} (h : StepsAt A w v l) (hA : ∀ i, i < w.heap.size → A i → A' i) : StepsAt A' w v l := by
 obtain ⟨a, c, rfl, h1, h2, h3⟩ := h
 refine ⟨a, c, rfl, h1, h2, fun j x hj => ?_⟩
 obtain ⟨D, o, sv, e1, e2, e3, e4⟩ := h3 j x hj
 exact ⟨D, o, sv, e1, hA D (lt_of_cell e4.1) e2, e3.weak hA, e4⟩
def BoolP (P : Bool → Prop) (w : World) (e : Ending) (w' : World) : Prop := ∃ b, e = .returned (.bool b) ∧ P b ∧ Keep (fun _ => False) w w'
theorem zzFits4_at {A : Nat → Prop} {w : World} {sv : Value} {s : List UInt8} (h : BytesAt A w sv s) (op t k z i n : Int) :
  Calls Tryz.prog 26 #[.agg (stepG op t k z i n sv)] w (BoolP (fun _ => True) w) := by
 obtain ⟨a, c, rfl, hl, _, _⟩ := h.cellAt'
 obtain ⟨L, hL⟩ : ∃ L, s.length = L := ⟨_, rfl⟩
 rw [hL] at hl ⊢
 by_cases hb : (2147483647 : Int) < (L : Int)
 ·go_enter Tryz.func26, Tryz.ntmps26
  go_wp2_with fail
  go_ret
  exact ⟨_, rfl, trivial, (Keep.refl _ w).alloc _⟩
 ·go_enter Tryz.func26, Tryz.ntmps26
  go_wp2_with fail
  go_ret
  exact ⟨_, rfl, trivial, (Keep.refl _ w).alloc _⟩
set_option maxRecDepth 100000 in
theorem zzFits3_at {A : Nat → Prop} {w : World} {v : Value} {l : List Sg} (h : StepsAt A w v l) :
  Calls Tryz.prog 8 #[v] w (BoolP (fun b => b = true → l.length ≤ 2147483647) w) := by
 obtain ⟨a, c, rfl, hl, hc, g⟩ := h
 obtain ⟨L, hL⟩ : ∃ L, l.length = L := ⟨_, rfl⟩
 rw [hL] at hl hc ⊢
 have HL := hdd hL
 have G := hdd g
 have HC := hdd hc
 clear hL g hc
 by_cases hb : (2147483647 : Int) < (L : Int)
 ·go_enter Tryz.func8, Tryz.ntmps8
  go_wp2_with fail
  go_ret
  exact ⟨_, rfl, fun e => (by cases e), Keep.refl _ _⟩
 ·have hLb : L ≤ 2147483647 := by omega
  go_enter Tryz.func8, Tryz.ntmps8
  go_wp2_with fail
  go_loopg [10] L (fun k v10 wr => ∃ i : Nat, v10 = .int .i64 i ∧ i + k = L ∧ Keep (fun _ => False) w wr)
  case atStart => exact ⟨0, rfl, by omega, Keep.refl _ _⟩
  case round =>
   obtain ⟨i, rfl, hik, hkr⟩ := hrel
   by_cases hlt : i < L
   ·cases gk with
    | zero => omega
    | succ k =>
    have hlt' : (i : Int) < (L : Int) := by omega
    have hj : l[i]? = some (l[i]'(by have := HL.out; omega)) := List.getElem?_eq_getElem _
    obtain ⟨D, o, sv, ha, _, hs, h7⟩ := G.out i _ hj
    generalize (l[i]'(by have := HL.out; omega)) = x at *
    subst ha
    obtain ⟨d0, d1, d2, d3, d4, d5, d6⟩ := h7.keep hkr (fun x => x)
    have HS := hdd (hs.keep hkr (fun _ _ x => x))
    have hnc : L ≤ c := (HC.out (by omega)).1
    have hw : IntKind.i64.wrap ((i : Int) + 1) = (i : Int) + 1 := IntWalk.i64_in _ (by omega)
    obtain ⟨op, t, kk, z, ii, n, s⟩ := x
    have hs : BytesAt A w sv s := hs
    obtain ⟨sa, sm, sc, rfl⟩ := BytesAt.shape hs
    have hk1 : Keep (fun _ => False) wr (wr.alloc (.cells (stepG op t kk z ii n (.slice sa sm sc)) 63 (0, 0))) := (Keep.refl _ wr).alloc _
    have hU1 := heap_alloc_new wr (.cells (stepG op t kk z ii n (.slice sa sm sc)) 63 (0, 0))
    clear hj hs h7
    go_wp2_with fail
    refine (zzFits4_at (HS.out.keep hk1 (fun _ _ x => x)) op t kk z ii n).mono ?_
    rintro e w2 ⟨b, rfl, _, hk2⟩
    cases b
    ·go_wp2_with fail
     go_ret
     exact ⟨_, rfl, fun e => (by cases e), hkr.then (hk1.then hk2)⟩
    ·go_wp2_with fail
     go_roundg k
     case measure => exact Nat.lt_succ_self _
     case rel => exact ⟨i + 1, by go_num, by omega, hkr.then (hk1.then hk2)⟩
   ·have hge : ¬ (i : Int) < (L : Int) := by omega
    go_wp2_with fail
    go_ret
    exact ⟨_, rfl, (by first | exact fun _ => hLb | trivial), hkr⟩
set_option maxRecDepth 100000 in
theorem isHeavySteps_at {A : Nat → Prop} {w : World} {v : Value} {l : List Sg} (h : StepsAt A w v l) :
  Calls Tryz.prog 27 #[v] w (BoolP (fun b => b = false → l.length ≤ 65536) w) := by
 obtain ⟨a, c, rfl, hl, hc, g⟩ := h
 obtain ⟨L, hL⟩ : ∃ L, l.length = L := ⟨_, rfl⟩
 rw [hL] at hl hc ⊢
 have HL := hdd hL
 have G := hdd g
 have HC := hdd hc
 clear hL g hc
 go_enter Tryz.func27, Tryz.ntmps27
 go_wp2_with fail
 go_loopg [3, 4] L (fun k v3 v4 wr => ∃ i m : Nat, v3 = .int .i64 m ∧ v4 = .int .i64 i ∧ i + k = L ∧ L ≤ m ∧ m ≤ 140737488355328 + 65537 ∧ w = wr)
 case atStart => exact ⟨0, L, rfl, rfl, by omega, by omega, by omega, rfl⟩
 case round =>
  obtain ⟨i, m, rfl, rfl, hik, hm, hm2, rfl⟩ := hrel
  by_cases hlt : i < L
  ·have hlt' : (i : Int) < (L : Int) := by omega
   by_cases hmm : m ≤ 65536
   ·cases gk with
    | zero => omega
    | succ k =>
    have hmm' : (m : Int) ≤ 65536 := by omega
    have hj : l[i]? = some (l[i]'(by have := HL.out; omega)) := List.getElem?_eq_getElem _
    obtain ⟨D, o, sv, ha, _, hs, h7⟩ := G.out i _ hj
    generalize (l[i]'(by have := HL.out; omega)) = x at *
    subst ha
    obtain ⟨d0, d1, d2, d3, d4, d5, d6⟩ := h7
    obtain ⟨sa, sc, rfl, hsl, _, _⟩ := hs.cellAt'
    have hnc : L ≤ c := (HC.out (by omega)).1
    obtain ⟨sm, hsm⟩ : ∃ sm, x.s.length = sm := ⟨_, rfl⟩
    rw [hsm] at hsl d6
    have hw : IntKind.i64.wrap ((i : Int) + 1) = (i : Int) + 1 := IntWalk.i64_in _ (by omega)
    clear hj hs hsm
    by_cases hs6 : (sm : Int) ≤ 65537
    ·have hw2 : IntKind.i64.wrap ((m : Int) + (sm : Int)) = (m : Int) + (sm : Int) := IntWalk.i64_in _ (by omega)
     go_wp2_with fail
     go_roundg k
     case measure => exact Nat.lt_succ_self _
     case rel => exact ⟨i + 1, m + sm, by go_num, by go_num, by omega, by omega, by omega, rfl⟩
    ·have hw2 : IntKind.i64.wrap ((m : Int) + 65537) = (m : Int) + 65537 := IntWalk.i64_in _ (by omega)
     go_wp2_with fail
     go_roundg k
     case measure => exact Nat.lt_succ_self _
     case rel => exact ⟨i + 1, m + 65537, by go_num, by go_num, by omega, by omega, by omega, rfl⟩
   ·have hmm' : ¬ (m : Int) ≤ 65536 := by omega
    have hgt : (65536 : Int) < (m : Int) := by omega
    go_wp2_with fail
    go_ret
    exact ⟨_, rfl, fun e => (by first | (simp at e; done) | (simp at e; omega) | omega), Keep.refl _ _⟩
  ·have hge : ¬ (i : Int) < (L : Int) := by omega
   go_wp2_with fail
   go_ret
   exact ⟨_, rfl, fun e => (by first | (simp at e; done) | (simp at e; omega) | omega), Keep.refl _ _⟩
section
variable {σ : Type} {r : Rdr σ} {s : σ} {w : World}
def Rdr.FldRel {σ : Type} (r : Rdr σ) (w : World) (f : Int → σ → Int × σ) (tot : Int × σ) (b k : Nat) (wr : World) : Prop :=
 ∃ s, r.Inv s wr ∧ Kpt r.M w wr ∧ r.pr.len s < k ∧ flds r.pr f k s = tot ∧ r.pr.one ≤ r.pr.dep s ∧ r.pr.len s + r.pr.dep s ≤ b
set_option maxRecDepth 100000 in
theorem Rdr.skip_struct (ok : r.Ok) (d : Nat) (ih : r.Skips d) (deep : Int) (hdq : deep.toNat = d + 1) (hd : 0 < deep) (hhi : deep ≤ 9223372036854775807) (hR : r.Inv s w) (hroom : r.pr.Room s) :
  Calls Tryz.prog 109 #[.pointer (some ⟨r.R, 0, none⟩), .int .i64 deep] w (r.SkP w (flds r.pr (skp r.pr d) (r.pr.len (r.pr.sbS s) + 1) (r.pr.sbS s))) := by
 obtain ⟨tot, htot⟩ : ∃ tot, flds r.pr (skp r.pr d) (r.pr.len (r.pr.sbS s) + 1) (r.pr.sbS s) = tot := ⟨_, rfl⟩
 rw [htot]
 have HT := hdd htot
 have HDD := hdd hdq
 clear htot hdq
 have hR0 : r.pr.len s + r.pr.dep s < 1099511627776 := hroom
 have HRM := hdd hR0
 clear hroom hR0
 have hs2 : Calls _ _ #[_, .agg (stepA 2)] _ _ := ok.sb hR (by have := HRM.out; omega)
 go_enter Tryz.func109, Tryz.ntmps109
 go_wp2_with fail
 refine hs2.mono ?_
 rintro e w2 ⟨x, t', kt, size, id, N', S', rfl, ⟨a, m, cc, rfl⟩, hx, ⟨r', hr1, hr3⟩, hk, _⟩
 have h0 : x = 0 ∨ x = -2 := by unfold Sk at hx; omega
 rcases h0 with rfl | rfl
 ·obtain rfl := hr3 rfl
  clear hx hr3
  go_wp2_with fail
  go_loopg [] (r.pr.len (r.pr.sbS s) + 1) (fun k wr => r.FldRel w (skp r.pr d) tot (r.pr.len s + r.pr.dep s + r.pr.one) k wr)
  case atStart =>
   exact ⟨_, ok.fresh hr1 ((Keep.refl _ w2).alloc _), hk.then (ok.kept hr1 ((Keep.refl _ w2).alloc _)), Nat.lt_succ_self _, HT.out, by rw [ok.pr.dsb]; omega, by rw [ok.pr.dsb]; have := ok.pr.sb s; omega⟩
  case round =>
   obtain ⟨s1, hi1, hk1, hlt, hfl, hdp⟩ := hrel
   have HDP := hdd hdp
   clear hdp
   cases gk with
   | zero => exact absurd hlt (Nat.not_lt_zero _)
   | succ k =>
   have HF := hdd hfl
   have HLT := hdd hlt
   have hd1 : (deep - 1).toNat = d := by have := HDD.out; omega
   have HD := hdd hd1
   clear hfl hlt hd1
   have hs4 : Calls _ _ #[_, .agg (stepA 4)] _ _ := ok.f hi1
   go_wp2_with fail
   refine hs4.mono ?_
   rintro e w3 ⟨x, t, kt, size, id, N', S', rfl, ⟨a4, m4, cc4, rfl⟩, hx, ⟨r4, h4, hr4⟩, hk4, hv⟩
   clear hs4
   by_cases hz : x = 0
   ·subst hz
    obtain rfl := hr4 rfl
    have HT0 := hdd (hv rfl).1
    have HZ := hdd (show r.pr.fK s1 = 0 from Sk.zero hx)
    clear hx hv hr4
    by_cases ht0 : t = 0
    ·subst ht0
     go_wp2_with fail
     refine Calls.mono (ok.se (ok.fresh h4 ((Keep.refl _ _).alloc _)) (by rw [ok.pr.df s1 HZ.out]; exact HDP.out.1)) ?_
     rintro e w5 ⟨x5, t5, kt5, size5, id5, N5, S5, rfl, ⟨a5, m5, cc5, rfl⟩, hx5, ⟨r5, h5, hr5⟩, hk5, _⟩
     have hf := got_field0 x5 t5 kt5 size5 id5 N5 (.slice a5 m5 cc5)
     have HX := hdd hx5
     have HR := hdd hr5
     clear hx5 hr5
     go_wp2_with fail
     go_ret
     have e1 : tot = (0, r.pr.seS (r.pr.fS s1)) := by
      rw [← HF.out]; simp only [flds]; rw [if_pos HZ.out, if_pos (show r.pr.fT s1 = 0 from HT0.out.symm)]
     rw [e1]
     exact ⟨_, rfl, HX.out, ⟨_, h5, HR.out⟩, (hk1.then hk4).then ((ok.kept h4 ((Keep.refl _ w3).alloc _)).then hk5)⟩
    ·go_wp2_with fail
     refine (ih (deep - 1) t _ _ HD.out (by omega) (by omega) (ok.fresh h4 ((Keep.refl _ _).alloc _)) (by have a1 := ok.pr.df s1 HZ.out; have a2 := ok.pr.f s1 HZ.out; have a3 := HDP.out.2; have a4 := ok.pr.one1; have a5 := HRM.out; show _ + _ < _; omega)).mono ?_
     rintro e w5 ⟨x5, rfl, hx5, ⟨r5, h5, hr5⟩, hk5⟩
     have hne : ¬ r.pr.fT s1 = 0 := fun hh => ht0 (HT0.out.trans hh)
     have ht' : t = r.pr.fT s1 := HT0.out
     have HX := hdd hx5
     have HR := hdd hr5
     have HNE := hdd hne
     have HT' := hdd ht'
     clear hx5 hr5 hne ht'
     by_cases hz5 : x5 = 0
     ·subst hz5
      have hs0 := Sk.zero HX.out
      have hr5 := HR.out rfl
      rw [HT'.out] at hs0 hr5
      subst hr5
      have HS0 := hdd hs0
      clear hs0
      go_wp2_with fail
      refine Calls.mono (ok.fe h5) ?_
      rintro e w6 ⟨x6, t6, kt6, size6, id6, N6, S6, rfl, ⟨a6, m6, cc6, rfl⟩, hx6, ⟨r6, h6, hr6⟩, hk6, _⟩
      have hx60 : x6 = 0 ∨ x6 = -2 := by unfold Sk at hx6; omega
      clear hx6
      rcases hx60 with rfl | rfl
      ·obtain rfl := hr6 rfl
       clear hr6
       go_wp2_with fail
       go_roundg k
       case measure => exact Nat.lt_succ_self _
       case rel =>
        have a1 := ok.pr.fe (skp r.pr d (r.pr.fT s1) (r.pr.fS s1)).2
        have a2 := skp_len ok.pr d _ _ HS0.out
        have a3 := ok.pr.f s1 HZ.out
        have a4 := HLT.out
        have a5 := ok.pr.dfe (skp r.pr d (r.pr.fT s1) (r.pr.fS s1)).2
        have a6 := skp_dep ok.pr d _ _ HS0.out
        have a7 := ok.pr.df s1 HZ.out
        have a8 := HDP.out
        refine ⟨_, ok.fresh h6 ((Keep.refl _ _).alloc _), (hk1.then hk4).then (((ok.kept h4 ((Keep.refl _ w3).alloc _)).then hk5).then (hk6.then (ok.kept h6 ((Keep.refl _ _).alloc _)))), by omega, ?_, by omega, by omega⟩
        rw [← HF.out]; simp only [flds]; rw [if_pos HZ.out, if_neg HNE.out, if_pos HS0.out]
      ·clear hr6
       go_wp2_with fail
       go_ret
       exact ⟨_, rfl, .inl rfl, ⟨_, ok.fresh h6 ((Keep.refl _ _).alloc _), fun hh => by cases hh⟩, (hk1.then hk4).then (((ok.kept h4 ((Keep.refl _ w3).alloc _)).then hk5).then (hk6.then (ok.kept h6 ((Keep.refl _ _).alloc _))))⟩
     ·have H5 := hdd hz5
      go_wp2_with fail
      go_ret
      refine ⟨_, rfl, ?_, ⟨_, h5, fun hh => absurd hh H5.out⟩, (hk1.then hk4).then ((ok.kept h4 ((Keep.refl _ w3).alloc _)).then hk5)⟩
      have hX := HX.out
      rw [HT'.out] at hX
      by_cases hq : (skp r.pr d (r.pr.fT s1) (r.pr.fS s1)).1 = 0
      ·have := H5.out
       unfold Sk at hX ⊢; omega
      ·have e1 : tot = skp r.pr d (r.pr.fT s1) (r.pr.fS s1) := by
        rw [← HF.out]; simp only [flds]; rw [if_pos HZ.out, if_neg HNE.out, if_neg hq]
       rw [e1]; exact hX
   ·have H5 := hdd hz
    have HX := hdd hx
    clear hx hv hr4
    go_wp2_with fail
    go_ret
    refine ⟨_, rfl, ?_, ⟨_, ok.fresh h4 ((Keep.refl _ _).alloc _), fun hh => absurd hh H5.out⟩, (hk1.then hk4).then (ok.kept h4 ((Keep.refl _ _).alloc _))⟩
    have hX := HX.out
    by_cases hq : r.pr.fK s1 = 0
    ·have := H5.out
     unfold Sk at hX ⊢; omega
    ·have e1 : tot = (r.pr.fK s1, r.pr.fS s1) := by
      rw [← HF.out]; simp only [flds]; rw [if_neg hq]
     rw [e1]; exact hX
 ·clear hr3 hx
  go_wp2_with fail
  go_ret
  exact ⟨_, rfl, .inl rfl, ⟨_, ok.fresh hr1 ((Keep.refl _ w2).alloc _), fun hh => by cases hh⟩, hk.then (ok.kept hr1 ((Keep.refl _ w2).alloc _))⟩
end
section
variable {σ : Type} {r : Rdr σ} {s : σ} {w : World}
def Rdr.RepRel {σ : Type} (r : Rdr σ) (w : World) (U : Nat) (g : Array Value) (f : σ → Int × σ) (sz : Int) (tot : Int × σ) (k : Nat) (v : Value) (wr : World) : Prop :=
 ∃ i s, v = .int .i64 i ∧ 0 ≤ i ∧ k = (sz - i).toNat ∧ r.Inv s wr ∧ Kpt r.M w wr ∧ wr.heap[U]? = some (.cells g 75 (0, 0)) ∧ ¬ r.M wr U ∧ rep f k s = tot ∧ r.pr.Room s
set_option maxRecDepth 100000 in
theorem Rdr.skip_list (ok : r.Ok) (d : Nat) (ih : r.Skips d) (deep : Int) (hdq : deep.toNat = d + 1) (hd : 0 < deep) (hhi : deep ≤ 9223372036854775807) (hR : r.Inv s w) (hroom : r.pr.Room s) :
  Calls Tryz.prog 110 #[.pointer (some ⟨r.R, 0, none⟩), .int .i64 15, .int .i64 deep] w (r.SkP w (skp r.pr (d + 1) 15 s)) := by
 obtain ⟨res, hres⟩ : ∃ res, skp r.pr (d + 1) 15 s = res := ⟨_, rfl⟩
 rw [hres]
 have HRES := hdd hres
 have HDD := hdd hdq
 clear hres hdq
 have HRM := hdd hroom
 clear hroom
 have hs : Calls _ _ #[_, .agg (stepA 9)] _ _ := ok.l hR
 go_enter Tryz.func110, Tryz.ntmps110
 go_wp2_with fail
 refine (spec_many 15 w).mono ?_
 rintro e w1 ⟨rfl, rfl⟩
 rw [show manyOf 15 = 9 by decide]
 go_wp2_with fail
 refine hs.mono ?_
 rintro e w2 ⟨x, t, kt, size, id, N', S', rfl, ⟨a, m, cc, rfl⟩, hx, ⟨r', hr1, hr3⟩, hk, hv⟩
 by_cases hz : x = 0
 ·subst hz
  obtain rfl := hr3 rfl
  obtain ⟨ht, _, hsz, _⟩ := hv rfl
  have hK : r.pr.lK s = 0 := Sk.zero hx
  have hszb : size ≤ 2147483647 := by rw [hsz]; exact ok.pr.lb s
  obtain ⟨tot, htot⟩ : ∃ tot, rep (skp r.pr d t) size.toNat (r.pr.lS s) = tot := ⟨_, rfl⟩
  have hrt : res = endby r.pr.leS tot := by
   rw [← HRES.out, ← htot, ht, hsz]; simp [skp, isSc, hK]
  have HT := hdd htot
  have HRT := hdd hrt
  clear hx hv hr3 htot hrt ht hsz
  go_wp2_with fail
  go_loopg [8] size.toNat (fun k v wr => r.RepRel w w2.heap.size (gotA 0 t 0 size 0 0 (.slice a m cc)) (skp r.pr d t) size tot k v wr)
  case atStart => exact ⟨0, _, rfl, by omega, by rw [Int.sub_zero], ok.fresh hr1 ((Keep.refl _ _).alloc _), hk.then (ok.kept hr1 ((Keep.refl _ _).alloc _)), heap_alloc_new _ _, ok.new hr1 ((Keep.refl _ _).alloc _) _ (Nat.le_refl _), HT.out, by have a1 := ok.pr.l s hK; have a2 := ok.pr.dl s hK; have a3 : _ + _ < _ := HRM.out; show _ + _ < _; omega⟩
  case round =>
   obtain ⟨i, s1, rfl, hi0, hk0, hi1, hk1, hg, hgm, hr, hrm⟩ := hrel
   have HGM := hdd hgm
   have HRM1 := hdd hrm
   clear hgm hrm
   obtain ⟨u0, u1, u2, u3, u4, u5, u6⟩ := got_cells hg
   have HG := hdd hg
   have hd1 : (deep - 1).toNat = d := by have := HDD.out; omega
   have HD := hdd hd1
   clear hg hd1
   by_cases hin : i < size
   ·cases gk with
    | zero => omega
    | succ k =>
    have HK := hdd hk0
    have HR := hdd hr
    clear hr hk0
    go_wp2_with fail
    refine (ih (deep - 1) t _ wr HD.out (by omega) (by omega) hi1 HRM1.out).mono ?_
    rintro e w3 ⟨x3, rfl, hx3, ⟨r3, h3, hr3⟩, hk3⟩
    have hg3 := (hk3.block w2.heap.size (lt_of_heap HG.out) HGM.out).trans HG.out
    have HX := hdd hx3
    have HR3 := hdd hr3
    clear hx3 hr3
    by_cases hz3 : x3 = 0
    ·subst hz3
     have hs0 := Sk.zero HX.out
     have hr3 := HR3.out rfl
     subst hr3
     have HS0 := hdd hs0
     have HG3 := hdd hg3
     clear hs0 hg3
     go_wp2_with fail
     go_roundg k
     case measure => exact Nat.lt_succ_self _
     case rel => exact ⟨i + 1, _, rfl, by omega, by have := HK.out; omega, h3, hk1.then hk3, HG3.out, hk3.not (lt_of_heap HG.out) HGM.out, by rw [← HR.out, rep_ok HS0.out], by have a1 := skp_len ok.pr d _ _ HS0.out; have a2 := skp_dep ok.pr d _ _ HS0.out; have a3 : _ + _ < _ := HRM1.out; show _ + _ < _; omega⟩
    ·have H5 := hdd hz3
     clear hg3
     go_wp2_with fail
     go_ret
     refine ⟨_, rfl, ?_, ⟨_, h3, fun hh => absurd hh H5.out⟩, hk1.then hk3⟩
     have hX := HX.out
     by_cases hq : (skp r.pr d t s1).1 = 0
     ·have := H5.out
      unfold Sk at hX ⊢; omega
     ·have e1 : res = skp r.pr d t s1 := by
       rw [HRT.out, ← HR.out, rep_bad hq]; exact endby_bad hq
      rw [e1]; exact hX
   ·have hgk : gk = 0 := by omega
    subst hgk
    have HR := hdd hr
    clear hr hk0
    go_wp2_with fail
    refine (spec_many 15 wr).mono ?_
    rintro e w3 ⟨rfl, rfl⟩
    rw [show manyOf 15 = 9 by decide]
    go_wp2_with fail
    refine Calls.mono (ok.le hi1) ?_
    rintro e w5 ⟨x5, t5, kt5, size5, id5, N5, S5, rfl, ⟨a5, m5, cc5, rfl⟩, hx5, ⟨r5, h5, hr5⟩, hk5, _⟩
    have hf := got_field0 x5 t5 kt5 size5 id5 N5 (.slice a5 m5 cc5)
    have HX := hdd hx5
    have HR5 := hdd hr5
    clear hx5 hr5
    go_wp2_with fail
    go_ret
    have e1 : res = (0, r.pr.leS s1) := by rw [HRT.out, ← HR.out]; rfl
    rw [e1]
    exact ⟨_, rfl, HX.out, ⟨_, h5, HR5.out⟩, hk1.then hk5⟩
 ·have H5 := hdd hz
  have HX := hdd hx
  clear hx hv hr3
  go_wp2_with fail
  go_ret
  refine ⟨_, rfl, ?_, ⟨_, ok.fresh hr1 ((Keep.refl _ _).alloc _), fun hh => absurd hh H5.out⟩, hk.then (ok.kept hr1 ((Keep.refl _ _).alloc _))⟩
  have hX := HX.out
  by_cases hq : r.pr.lK s = 0
  ·have := H5.out
   unfold Sk at hX ⊢; omega
  ·have e1 : res = (r.pr.lK s, r.pr.lS s) := by
    rw [← HRES.out]
    simp [skp, isSc, hq]
   rw [e1]; exact hX
set_option maxRecDepth 100000 in
theorem Rdr.skip_set (ok : r.Ok) (d : Nat) (ih : r.Skips d) (deep : Int) (hdq : deep.toNat = d + 1) (hd : 0 < deep) (hhi : deep ≤ 9223372036854775807) (hR : r.Inv s w) (hroom : r.pr.Room s) :
  Calls Tryz.prog 110 #[.pointer (some ⟨r.R, 0, none⟩), .int .i64 14, .int .i64 deep] w (r.SkP w (skp r.pr (d + 1) 14 s)) := by
 obtain ⟨res, hres⟩ : ∃ res, skp r.pr (d + 1) 14 s = res := ⟨_, rfl⟩
 rw [hres]
 have HRES := hdd hres
 have HDD := hdd hdq
 clear hres hdq
 have HRM := hdd hroom
 clear hroom
 have hs : Calls _ _ #[_, .agg (stepA 11)] _ _ := ok.t hR
 go_enter Tryz.func110, Tryz.ntmps110
 go_wp2_with fail
 refine (spec_many 14 w).mono ?_
 rintro e w1 ⟨rfl, rfl⟩
 rw [show manyOf 14 = 11 by decide]
 go_wp2_with fail
 refine hs.mono ?_
 rintro e w2 ⟨x, t, kt, size, id, N', S', rfl, ⟨a, m, cc, rfl⟩, hx, ⟨r', hr1, hr3⟩, hk, hv⟩
 by_cases hz : x = 0
 ·subst hz
  obtain rfl := hr3 rfl
  obtain ⟨ht, _, hsz, _⟩ := hv rfl
  have hK : r.pr.lK s = 0 := Sk.zero hx
  have hszb : size ≤ 2147483647 := by rw [hsz]; exact ok.pr.lb s
  obtain ⟨tot, htot⟩ : ∃ tot, rep (skp r.pr d t) size.toNat (r.pr.lS s) = tot := ⟨_, rfl⟩
  have hrt : res = endby r.pr.leS tot := by
   rw [← HRES.out, ← htot, ht, hsz]; simp [skp, isSc, hK]
  have HT := hdd htot
  have HRT := hdd hrt
  clear hx hv hr3 htot hrt ht hsz
  go_wp2_with fail
  go_loopg [8] size.toNat (fun k v wr => r.RepRel w w2.heap.size (gotA 0 t 0 size 0 0 (.slice a m cc)) (skp r.pr d t) size tot k v wr)
  case atStart => exact ⟨0, _, rfl, by omega, by rw [Int.sub_zero], ok.fresh hr1 ((Keep.refl _ _).alloc _), hk.then (ok.kept hr1 ((Keep.refl _ _).alloc _)), heap_alloc_new _ _, ok.new hr1 ((Keep.refl _ _).alloc _) _ (Nat.le_refl _), HT.out, by have a1 := ok.pr.l s hK; have a2 := ok.pr.dl s hK; have a3 : _ + _ < _ := HRM.out; show _ + _ < _; omega⟩
  case round =>
   obtain ⟨i, s1, rfl, hi0, hk0, hi1, hk1, hg, hgm, hr, hrm⟩ := hrel
   have HGM := hdd hgm
   have HRM1 := hdd hrm
   clear hgm hrm
   obtain ⟨u0, u1, u2, u3, u4, u5, u6⟩ := got_cells hg
   have HG := hdd hg
   have hd1 : (deep - 1).toNat = d := by have := HDD.out; omega
   have HD := hdd hd1
   clear hg hd1
   by_cases hin : i < size
   ·cases gk with
    | zero => omega
    | succ k =>
    have HK := hdd hk0
    have HR := hdd hr
    clear hr hk0
    go_wp2_with fail
    refine (ih (deep - 1) t _ wr HD.out (by omega) (by omega) hi1 HRM1.out).mono ?_
    rintro e w3 ⟨x3, rfl, hx3, ⟨r3, h3, hr3⟩, hk3⟩
    have hg3 := (hk3.block w2.heap.size (lt_of_heap HG.out) HGM.out).trans HG.out
    have HX := hdd hx3
    have HR3 := hdd hr3
    clear hx3 hr3
    by_cases hz3 : x3 = 0
    ·subst hz3
     have hs0 := Sk.zero HX.out
     have hr3 := HR3.out rfl
     subst hr3
     have HS0 := hdd hs0
     have HG3 := hdd hg3
     clear hs0 hg3
     go_wp2_with fail
     go_roundg k
     case measure => exact Nat.lt_succ_self _
     case rel => exact ⟨i + 1, _, rfl, by omega, by have := HK.out; omega, h3, hk1.then hk3, HG3.out, hk3.not (lt_of_heap HG.out) HGM.out, by rw [← HR.out, rep_ok HS0.out], by have a1 := skp_len ok.pr d _ _ HS0.out; have a2 := skp_dep ok.pr d _ _ HS0.out; have a3 : _ + _ < _ := HRM1.out; show _ + _ < _; omega⟩
    ·have H5 := hdd hz3
     clear hg3
     go_wp2_with fail
     go_ret
     refine ⟨_, rfl, ?_, ⟨_, h3, fun hh => absurd hh H5.out⟩, hk1.then hk3⟩
     have hX := HX.out
     by_cases hq : (skp r.pr d t s1).1 = 0
     ·have := H5.out
      unfold Sk at hX ⊢; omega
     ·have e1 : res = skp r.pr d t s1 := by
       rw [HRT.out, ← HR.out, rep_bad hq]; exact endby_bad hq
      rw [e1]; exact hX
   ·have hgk : gk = 0 := by omega
    subst hgk
    have HR := hdd hr
    clear hr hk0
    go_wp2_with fail
    refine (spec_many 14 wr).mono ?_
    rintro e w3 ⟨rfl, rfl⟩
    rw [show manyOf 14 = 11 by decide]
    go_wp2_with fail
    refine Calls.mono (ok.te hi1) ?_
    rintro e w5 ⟨x5, t5, kt5, size5, id5, N5, S5, rfl, ⟨a5, m5, cc5, rfl⟩, hx5, ⟨r5, h5, hr5⟩, hk5, _⟩
    have hf := got_field0 x5 t5 kt5 size5 id5 N5 (.slice a5 m5 cc5)
    have HX := hdd hx5
    have HR5 := hdd hr5
    clear hx5 hr5
    go_wp2_with fail
    go_ret
    have e1 : res = (0, r.pr.leS s1) := by rw [HRT.out, ← HR.out]; rfl
    rw [e1]
    exact ⟨_, rfl, HX.out, ⟨_, h5, HR5.out⟩, hk1.then hk5⟩
 ·have H5 := hdd hz
  have HX := hdd hx
  clear hx hv hr3
  go_wp2_with fail
  go_ret
  refine ⟨_, rfl, ?_, ⟨_, ok.fresh hr1 ((Keep.refl _ _).alloc _), fun hh => absurd hh H5.out⟩, hk.then (ok.kept hr1 ((Keep.refl _ _).alloc _))⟩
  have hX := HX.out
  by_cases hq : r.pr.lK s = 0
  ·have := H5.out
   unfold Sk at hX ⊢; omega
  ·have e1 : res = (r.pr.lK s, r.pr.lS s) := by
    rw [← HRES.out]
    simp [skp, isSc, hq]
   rw [e1]; exact hX
end
section
variable {σ : Type} {r : Rdr σ} {s : σ} {w : World}
set_option maxRecDepth 100000 in
theorem Rdr.skip_map (ok : r.Ok) (d : Nat) (ih : r.Skips d) (deep : Int) (hdq : deep.toNat = d + 1) (hd : 0 < deep) (hhi : deep ≤ 9223372036854775807) (hR : r.Inv s w) (hroom : r.pr.Room s) :
  Calls Tryz.prog 110 #[.pointer (some ⟨r.R, 0, none⟩), .int .i64 13, .int .i64 deep] w (r.SkP w (skp r.pr (d + 1) 13 s)) := by
 obtain ⟨res, hres⟩ : ∃ res, skp r.pr (d + 1) 13 s = res := ⟨_, rfl⟩
 rw [hres]
 have HRES := hdd hres
 have HDD := hdd hdq
 clear hres hdq
 have HRM := hdd hroom
 clear hroom
 have hs : Calls _ _ #[_, .agg (stepA 7)] _ _ := ok.m hR
 go_enter Tryz.func110, Tryz.ntmps110
 go_wp2_with fail
 refine (spec_many 13 w).mono ?_
 rintro e w1 ⟨rfl, rfl⟩
 rw [show manyOf 13 = 7 by decide]
 go_wp2_with fail
 refine hs.mono ?_
 rintro e w2 ⟨x, t, kt, size, id, N', S', rfl, ⟨a, m, cc, rfl⟩, hx, ⟨r', hr1, hr3⟩, hk, hv⟩
 by_cases hz : x = 0
 ·subst hz
  obtain rfl := hr3 rfl
  obtain ⟨ht, hkt, hsz, _⟩ := hv rfl
  have hK : r.pr.mK s = 0 := Sk.zero hx
  have hszb : size ≤ 2147483647 := by rw [hsz]; exact ok.pr.mb s
  obtain ⟨tot, htot⟩ : ∃ tot, rep (twice (skp r.pr d kt) (skp r.pr d t)) size.toNat (r.pr.mS s) = tot := ⟨_, rfl⟩
  have hrt : res = endby r.pr.meS tot := by
   rw [← HRES.out, ← htot, ht, hkt, hsz]; simp [skp, isSc, hK]
  have HT := hdd htot
  have HRT := hdd hrt
  clear hx hv hr3 htot hrt ht hkt hsz
  go_wp2_with fail
  go_loopg [8] size.toNat (fun k v wr => r.RepRel w w2.heap.size (gotA 0 t kt size 0 0 (.slice a m cc)) (twice (skp r.pr d kt) (skp r.pr d t)) size tot k v wr)
  case atStart => exact ⟨0, _, rfl, by omega, by rw [Int.sub_zero], ok.fresh hr1 ((Keep.refl _ _).alloc _), hk.then (ok.kept hr1 ((Keep.refl _ _).alloc _)), heap_alloc_new _ _, ok.new hr1 ((Keep.refl _ _).alloc _) _ (Nat.le_refl _), HT.out, by have a1 := ok.pr.m s hK; have a2 := ok.pr.dm s hK; have a3 : _ + _ < _ := HRM.out; show _ + _ < _; omega⟩
  case round =>
   obtain ⟨i, s1, rfl, hi0, hk0, hi1, hk1, hg, hgm, hr, hrm⟩ := hrel
   have HGM := hdd hgm
   have HRM1 := hdd hrm
   clear hgm hrm
   obtain ⟨u0, u1, u2, u3, u4, u5, u6⟩ := got_cells hg
   have HG := hdd hg
   have hd1 : (deep - 1).toNat = d := by have := HDD.out; omega
   have HD := hdd hd1
   clear hg hd1
   by_cases hin : i < size
   ·cases gk with
    | zero => omega
    | succ k =>
    have HK := hdd hk0
    have HR := hdd hr
    clear hr hk0
    go_wp2_with fail
    refine (ih (deep - 1) kt _ wr HD.out (by omega) (by omega) hi1 HRM1.out).mono ?_
    rintro e w3 ⟨x3, rfl, hx3, ⟨r3, h3, hr3⟩, hk3⟩
    have hg3 := (hk3.block w2.heap.size (lt_of_heap HG.out) HGM.out).trans HG.out
    have HX := hdd hx3
    have HR3 := hdd hr3
    clear hx3 hr3
    by_cases hz3 : x3 = 0
    ·subst hz3
     have hs0 := Sk.zero HX.out
     have hr3 := HR3.out rfl
     subst hr3
     have HS0 := hdd hs0
     have HG3 := hdd hg3
     clear hs0 hg3 u0 u1 u2 u3 u4 u5 u6
     obtain ⟨u0, u1, u2, u3, u4, u5, u6⟩ := got_cells HG3.out
     go_wp2_with fail
     refine (ih (deep - 1) t _ w3 HD.out (by omega) (by omega) h3 (by have a1 := skp_len ok.pr d _ _ HS0.out; have a2 := skp_dep ok.pr d _ _ HS0.out; have a3 : _ + _ < _ := HRM1.out; show _ + _ < _; omega)).mono ?_
     rintro e w4 ⟨x4, rfl, hx4, ⟨r4, h4, hr4⟩, hk4⟩
     have hg4 := (hk4.block w2.heap.size (lt_of_heap HG3.out) (hk3.not (lt_of_heap HG.out) HGM.out)).trans HG3.out
     have HX4 := hdd hx4
     have HR4 := hdd hr4
     clear hx4 hr4
     by_cases hz4 : x4 = 0
     ·subst hz4
      have hs1 := Sk.zero HX4.out
      have hr4 := HR4.out rfl
      subst hr4
      have HS1 := hdd hs1
      have HG4 := hdd hg4
      clear hs1 hg4
      go_wp2_with fail
      go_roundg k
      case measure => exact Nat.lt_succ_self _
      case rel => exact ⟨i + 1, _, rfl, by omega, by have := HK.out; omega, h4, (hk1.then hk3).then hk4, HG4.out, hk4.not (lt_of_heap HG3.out) (hk3.not (lt_of_heap HG.out) HGM.out), by rw [← HR.out, rep_ok (by rw [twice_ok HS0.out]; exact HS1.out), twice_ok HS0.out], by have a1 := skp_len ok.pr d _ _ HS0.out; have a2 := skp_dep ok.pr d _ _ HS0.out; have a4 := skp_len ok.pr d _ _ HS1.out; have a5 := skp_dep ok.pr d _ _ HS1.out; have a3 : _ + _ < _ := HRM1.out; show _ + _ < _; omega⟩
     ·have H5 := hdd hz4
      clear hg4
      go_wp2_with fail
      go_ret
      refine ⟨_, rfl, ?_, ⟨_, h4, fun hh => absurd hh H5.out⟩, (hk1.then hk3).then hk4⟩
      have hX := HX4.out
      by_cases hq : (skp r.pr d t (skp r.pr d kt s1).2).1 = 0
      ·have := H5.out
       unfold Sk at hX ⊢; omega
      ·have e1 : res = skp r.pr d t (skp r.pr d kt s1).2 := by
        rw [HRT.out, ← HR.out, rep_bad (by rw [twice_ok HS0.out]; exact hq), twice_ok HS0.out]; exact endby_bad hq
       rw [e1]; exact hX
    ·have H5 := hdd hz3
     clear hg3
     go_wp2_with fail
     go_ret
     refine ⟨_, rfl, ?_, ⟨_, h3, fun hh => absurd hh H5.out⟩, hk1.then hk3⟩
     have hX := HX.out
     by_cases hq : (skp r.pr d kt s1).1 = 0
     ·have := H5.out
      unfold Sk at hX ⊢; omega
     ·have e1 : res = skp r.pr d kt s1 := by
       rw [HRT.out, ← HR.out, rep_bad (by rw [twice_bad hq]; exact hq), twice_bad hq]; exact endby_bad hq
      rw [e1]; exact hX
   ·have hgk : gk = 0 := by omega
    subst hgk
    have HR := hdd hr
    clear hr hk0
    go_wp2_with fail
    refine (spec_many 13 wr).mono ?_
    rintro e w3 ⟨rfl, rfl⟩
    rw [show manyOf 13 = 7 by decide]
    go_wp2_with fail
    refine Calls.mono (ok.me hi1) ?_
    rintro e w5 ⟨x5, t5, kt5, size5, id5, N5, S5, rfl, ⟨a5, m5, cc5, rfl⟩, hx5, ⟨r5, h5, hr5⟩, hk5, _⟩
    have hf := got_field0 x5 t5 kt5 size5 id5 N5 (.slice a5 m5 cc5)
    have HX := hdd hx5
    have HR5 := hdd hr5
    clear hx5 hr5
    go_wp2_with fail
    go_ret
    have e1 : res = (0, r.pr.meS s1) := by rw [HRT.out, ← HR.out]; rfl
    rw [e1]
    exact ⟨_, rfl, HX.out, ⟨_, h5, HR5.out⟩, hk1.then hk5⟩
 ·have H5 := hdd hz
  have HX := hdd hx
  clear hx hv hr3
  go_wp2_with fail
  go_ret
  refine ⟨_, rfl, ?_, ⟨_, ok.fresh hr1 ((Keep.refl _ _).alloc _), fun hh => absurd hh H5.out⟩, hk.then (ok.kept hr1 ((Keep.refl _ _).alloc _))⟩
  have hX := HX.out
  by_cases hq : r.pr.mK s = 0
  ·have := H5.out
   unfold Sk at hX ⊢; omega
  ·have e1 : res = (r.pr.mK s, r.pr.mS s) := by
    rw [← HRES.out]
    simp [skp, isSc, hq]
   rw [e1]; exact hX
end
section
variable {σ : Type} {r : Rdr σ}
set_option maxRecDepth 100000 in
theorem Rdr.Ok.skips (ok : r.Ok) (d : Nat) : r.Skips d := by
 induction d with
 | zero => exact Rdr.skip_zero
 | succ d ih =>
  intro deep t s w hd hlo hhi hR hroom
  have hd0 : 0 < deep := by omega
  by_cases hsc : isSc t = true
  ·have e : skp r.pr (d + 1) t s = (r.pr.scK t s, r.pr.scS t s) := by simp only [skp]; rw [if_pos hsc]
   rw [e]
   exact Rdr.skip_scalar ok deep t hd0 hsc hR
  ·by_cases h12 : t = 12
   ·subst h12
    have e : skp r.pr (d + 1) 12 s = flds r.pr (skp r.pr d) (r.pr.len (r.pr.sbS s) + 1) (r.pr.sbS s) := by simp [skp, isSc]
    rw [e]
    have hc := Rdr.skip_struct ok d ih deep hd hd0 hhi hR hroom
    clear e hd ih
    go_enter Tryz.func81, Tryz.ntmps81
    go_wp2_with fail
    refine (spec_op 12 w).mono ?_
    rintro e w1 ⟨rfl, rfl⟩
    rw [show opOf 12 = -1 by decide]
    go_wp2_with fail
    refine hc.mono ?_
    rintro e w2 ⟨x, rfl, hx, hr, hk⟩
    have HX := hdd hx
    clear hx
    go_wp2_with fail
    go_ret
    exact ⟨_, rfl, HX.out, hr, hk⟩
   ·by_cases h13 : t = 13
    ·subst h13
     have hc := Rdr.skip_map ok d ih deep hd hd0 hhi hR hroom
     obtain ⟨res, hres⟩ : ∃ res, skp r.pr (d + 1) 13 s = res := ⟨_, rfl⟩
     rw [hres] at hc ⊢
     clear hres hd ih
     go_enter Tryz.func81, Tryz.ntmps81
     go_wp2_with fail
     refine (spec_op 13 w).mono ?_
     rintro e w1 ⟨rfl, rfl⟩
     rw [show opOf 13 = -1 by decide]
     go_wp2_with fail
     refine hc.mono ?_
     rintro e w2 ⟨x, rfl, hx, hr, hk⟩
     have HX := hdd hx
     clear hx
     go_wp2_with fail
     go_ret
     exact ⟨_, rfl, HX.out, hr, hk⟩
    ·by_cases h14 : t = 14
     ·subst h14
      have hc := Rdr.skip_set ok d ih deep hd hd0 hhi hR hroom
      obtain ⟨res, hres⟩ : ∃ res, skp r.pr (d + 1) 14 s = res := ⟨_, rfl⟩
      rw [hres] at hc ⊢
      clear hres hd ih
      go_enter Tryz.func81, Tryz.ntmps81
      go_wp2_with fail
      refine (spec_op 14 w).mono ?_
      rintro e w1 ⟨rfl, rfl⟩
      rw [show opOf 14 = -1 by decide]
      go_wp2_with fail
      refine hc.mono ?_
      rintro e w2 ⟨x, rfl, hx, hr, hk⟩
      have HX := hdd hx
      clear hx
      go_wp2_with fail
      go_ret
      exact ⟨_, rfl, HX.out, hr, hk⟩
     ·by_cases h15 : t = 15
      ·subst h15
       have hc := Rdr.skip_list ok d ih deep hd hd0 hhi hR hroom
       obtain ⟨res, hres⟩ : ∃ res, skp r.pr (d + 1) 15 s = res := ⟨_, rfl⟩
       rw [hres] at hc ⊢
       clear hres hd ih
       go_enter Tryz.func81, Tryz.ntmps81
       go_wp2_with fail
       refine (spec_op 15 w).mono ?_
       rintro e w1 ⟨rfl, rfl⟩
       rw [show opOf 15 = -1 by decide]
       go_wp2_with fail
       refine hc.mono ?_
       rintro e w2 ⟨x, rfl, hx, hr, hk⟩
       have HX := hdd hx
       clear hx
       go_wp2_with fail
       go_ret
       exact ⟨_, rfl, HX.out, hr, hk⟩
      ·have e : skp r.pr (d + 1) t s = (11, s) := by
        simp only [skp]; rw [if_neg hsc, if_neg h12, if_neg h13, if_neg (by omega)]
       rw [e]
       have ho : opOf t = -1 := by
        rcases opOf_sc t with h | h
        ·exact absurd h.1 hsc
        ·exact h.2
       have HO := hdd ho
       clear e hd ih ho hsc
       go_enter Tryz.func81, Tryz.ntmps81
       go_wp2_with fail
       refine (spec_op t w).mono ?_
       rintro e w1 ⟨rfl, rfl⟩
       rw [HO.out]
       go_wp2_with fail
       go_ret
       exact ⟨_, rfl, .inr (.inr rfl), ⟨_, hR, fun hh => by cases hh⟩, Kpt.refl _ _⟩
end
def Bin.rdr (R TB DT : Nat) (K : Bin.Ctx) (n : Int) (tl : List Value) : Rdr Bin.St where
 R := R
 pr := Bin.pr K
 M := fun _ i => i = R ∨ i = TB ∨ i = DT
 Inv := fun s w => RdP R TB DT K.c.b K.c n tl s w ∧ DT < w.heap.size
section
variable {R TB DT : Nat} {K : Bin.Ctx} {n : Int} {tl : List Value} {rem : List UInt8} {w : World}
theorem Bin.gp {k : Int} {s' : List UInt8} {T KT SZ ID N : Int} {S : List UInt8} {e : Ending} {w' : World} (h : RdP R TB DT K.c.b K.c n tl rem w) (hD : DT < w.heap.size) (hg : GP R TB DT K.c n tl rem w k s' T KT SZ ID N S e w') :
  (Bin.rdr R TB DT K n tl).GP w k s' T KT SZ ID N S e w' := by
 obtain ⟨x, t, kt, size, id, N', S', rfl, hs, hx, ⟨r', h1, hl, hr⟩, hk, hv⟩ := hg
 refine ⟨x, t, kt, size, id, N', S', rfl, hs, hx, ⟨r', ⟨h1, Nat.lt_of_lt_of_le hD hk.size⟩, hr⟩, ⟨hk.weak (fun i _ e => .inr (.inl e.symm)), fun _ _ x => x⟩, fun hz => ?_⟩
 obtain ⟨v1, v2, v3, v4, v5, v6⟩ := hv hz
 refine ⟨v1, v2, v3, v4, v5, v6.weak (fun i _ hi => ⟨hi, ?_⟩)⟩
 have a1 := lt_of_heap h.blk
 have a2 : TB < w.heap.size := lt_of_cell h.tube.c0
 rintro (rfl | rfl | rfl) <;> omega
theorem Bin.rdr_ok : (Bin.rdr R TB DT K n tl).Ok where
 pr := Bin.ok K
 lt := by
  rintro s w ⟨h, hD⟩ i (rfl | rfl | rfl)
  ·exact lt_of_heap h.blk
  ·exact lt_of_cell h.tube.c0
  ·exact hD
 turn := by
  rintro s w w' N ⟨h, hD⟩ hk hN
  refine ⟨⟨⟨(hk.block R (lt_of_heap h.blk) (fun x => hN _ x (.inl rfl))).trans h.blk, h.tube.keep hk (fun x => hN _ x (.inr (.inl rfl))) (fun _ x => hN _ x (.inr (.inr rfl))), h.ne, h.cok, h.size⟩, Nat.lt_of_lt_of_le hD hk.size⟩, fun _ x => x⟩
 sc := fun {s w} t ht h => (rd_scalar K t ht h.1).mono (fun e w' hg => Bin.gp h.1 h.2 hg)
 sb := fun {s w} h _ => (rd_step 2 (by omega) (by omega) (by omega) h.1 (fun w h => bin_op2 h)).mono (fun e w' hg => Bin.gp h.1 h.2 hg)
 se := fun {s w} h _ => (rd_step 3 (by omega) (by omega) (by omega) h.1 (fun w h => bin_op3 h)).mono (fun e w' hg => Bin.gp h.1 h.2 hg)
 f := fun {s w} h => (rd_step 4 (by omega) (by omega) (by omega) h.1 (fun w h => bin_op4 h)).mono (fun e w' hg => Bin.gp h.1 h.2 hg)
 fe := fun {s w} h => (rd_step 5 (by omega) (by omega) (by omega) h.1 (fun w h => bin_op5 h)).mono (fun e w' hg => Bin.gp h.1 h.2 hg)
 m := fun {s w} h => (rd_step 7 (by omega) (by omega) (by omega) h.1 (fun w h => bin_op7 h)).mono (fun e w' hg => Bin.gp h.1 h.2 hg)
 me := fun {s w} h => (rd_step 8 (by omega) (by omega) (by omega) h.1 (fun w h => bin_op8 h)).mono (fun e w' hg => Bin.gp h.1 h.2 hg)
 l := fun {s w} h => (rd_step 9 (by omega) (by omega) (by omega) h.1 (fun w h => bin_op9 h)).mono (fun e w' hg => Bin.gp h.1 h.2 hg)
 le := fun {s w} h => (rd_step 10 (by omega) (by omega) (by omega) h.1 (fun w h => bin_op10 h)).mono (fun e w' hg => Bin.gp h.1 h.2 hg)
 t := fun {s w} h => (rd_step 11 (by omega) (by omega) (by omega) h.1 (fun w h => bin_op11 h)).mono (fun e w' hg => Bin.gp h.1 h.2 hg)
 te := fun {s w} h => (rd_step 12 (by omega) (by omega) (by omega) h.1 (fun w h => bin_op12 h)).mono (fun e w' hg => Bin.gp h.1 h.2 hg)
end
def Bin.K0 (c : Cfg) : Bin.Ctx := ⟨⟨0, 0, 0, 0, 0⟩, 0, 0, 0, 0, none, c⟩
end Go.Proofs.YtjekbomlpcdojaaGreatDoor
