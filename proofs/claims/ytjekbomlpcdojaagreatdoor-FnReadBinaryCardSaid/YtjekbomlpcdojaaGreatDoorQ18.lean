/- Part 18 of the proof: Rd0, Pm0, Sg0, Rk2, Rk3, Rk4, Rk5, Rb0, SpMg. -/
import Derived.Test.YtjekbomlpcdojaaGreatDoorQ16
import Derived.Test.YtjekbomlpcdojaaGreatDoorQ10
import Derived.Test.YtjekbomlpcdojaaGreatDoorQ8
import Derived.Test.YtjekbomlpcdojaaGreatDoorQ17
import Derived.Deep.LoopGhost
set_option linter.unusedVariables false
set_option linter.unusedSimpArgs false
set_option linter.unusedSectionVars false
set_option maxHeartbeats 16000000
namespace Go.Proofs.YtjekbomlpcdojaaGreatDoor
open Go Go.RowKit
structure Rdr (σ : Type) where
 R : Nat
 pr : Pr σ
 M : World → Nat → Prop
 Inv : σ → World → Prop
def Rdr.GP {σ : Type} (r : Rdr σ) (w : World) (k : Int) (s' : σ) (T KT SZ ID N : Int) (S : List UInt8) (e : Ending) (w' : World) : Prop :=
 ∃ x t kt size id N' S', e = .returned (gotV x t kt size id N' S') ∧ (∃ a m cc, S' = .slice a m cc) ∧ Sk k x ∧ (∃ s2, r.Inv s2 w' ∧ (x = 0 → s2 = s')) ∧ Kpt r.M w w' ∧
  (x = 0 → t = T ∧ kt = KT ∧ size = SZ ∧ id = ID ∧ N' = N ∧ BytesAt (fun i => w.heap.size ≤ i ∧ ¬ r.M w' i) w' S' S)
abbrev Rdr.Step {σ : Type} (r : Rdr σ) (op : Int) (w : World) (Q : Ending → World → Prop) : Prop := ∀ {a1 a2 a3 a4 a5 : Int} {sv : Value}, Calls Tryz.prog 49 #[.pointer (some ⟨r.R, 0, none⟩), .agg (stepG op a1 a2 a3 a4 a5 sv)] w Q
structure Rdr.Ok {σ : Type} (r : Rdr σ) : Prop where
 pr : r.pr.Ok
 lt : ∀ {s : σ} {w : World}, r.Inv s w → ∀ i, r.M w i → i < w.heap.size
 turn : ∀ {s : σ} {w w' : World} {N : Nat → Prop}, r.Inv s w → Keep N w w' → (∀ i, N i → ¬ r.M w i) → r.Inv s w' ∧ ∀ i, r.M w' i → r.M w i
 sc : ∀ {s : σ} {w : World} (t : Int), isSc t = true → r.Inv s w → r.Step (opOf t) w (r.GP w (r.pr.scK t s) (r.pr.scS t s) 0 0 0 0 (r.pr.scN t s) (r.pr.scB t s))
 sb : ∀ {s : σ} {w : World}, r.Inv s w → r.pr.dep s < 1099511627776 → r.Step 2 w (r.GP w 0 (r.pr.sbS s) 0 0 0 0 0 [])
 se : ∀ {s : σ} {w : World}, r.Inv s w → r.pr.one ≤ r.pr.dep s → r.Step 3 w (r.GP w 0 (r.pr.seS s) 0 0 0 0 0 [])
 f : ∀ {s : σ} {w : World}, r.Inv s w → r.Step 4 w (r.GP w (r.pr.fK s) (r.pr.fS s) (r.pr.fT s) 0 0 (r.pr.fI s) 0 [])
 fe : ∀ {s : σ} {w : World}, r.Inv s w → r.Step 5 w (r.GP w 0 (r.pr.feS s) 0 0 0 0 0 [])
 m : ∀ {s : σ} {w : World}, r.Inv s w → r.Step 7 w (r.GP w (r.pr.mK s) (r.pr.mS s) (r.pr.mT s) (r.pr.mKT s) (r.pr.mN s) 0 0 [])
 me : ∀ {s : σ} {w : World}, r.Inv s w → r.Step 8 w (r.GP w 0 (r.pr.meS s) 0 0 0 0 0 [])
 l : ∀ {s : σ} {w : World}, r.Inv s w → r.Step 9 w (r.GP w (r.pr.lK s) (r.pr.lS s) (r.pr.lT s) 0 (r.pr.lN s) 0 0 [])
 le : ∀ {s : σ} {w : World}, r.Inv s w → r.Step 10 w (r.GP w 0 (r.pr.leS s) 0 0 0 0 0 [])
 t : ∀ {s : σ} {w : World}, r.Inv s w → r.Step 11 w (r.GP w (r.pr.lK s) (r.pr.lS s) (r.pr.lT s) 0 (r.pr.lN s) 0 0 [])
 te : ∀ {s : σ} {w : World}, r.Inv s w → r.Step 12 w (r.GP w 0 (r.pr.leS s) 0 0 0 0 0 [])
theorem Rdr.Ok.fresh {σ : Type} {r : Rdr σ} (ok : r.Ok) {s : σ} {w w' : World} (h : r.Inv s w) (k : Keep (fun _ => False) w w') : r.Inv s w' := (ok.turn h k (fun _ x => x.elim)).1
theorem Rdr.Ok.kept {σ : Type} {r : Rdr σ} (ok : r.Ok) {s : σ} {w w' : World} (h : r.Inv s w) (k : Keep (fun _ => False) w w') : Kpt r.M w w' :=
 ⟨k.weak (fun _ _ x => x.elim), fun i _ => (ok.turn h k (fun _ x => x.elim)).2 i⟩
theorem Rdr.Ok.new {σ : Type} {r : Rdr σ} (ok : r.Ok) {s : σ} {w w' : World} (h : r.Inv s w) (k : Keep (fun _ => False) w w') : ∀ i, w.heap.size ≤ i → ¬ r.M w' i := fun i hi x => by
 have := ok.lt h i ((ok.turn h k (fun _ x => x.elim)).2 i x)
 omega
theorem got_field0 (k t kt size id n : Int) (s : Value) (w : World) : (Instr.field 75 (gotV k t kt size id n s) 0).run Tryz.prog w = .ok (.int .i64 k) w := by kernel_rfl
def Rdr.SkP {σ : Type} (r : Rdr σ) (w : World) (q : Int × σ) (e : Ending) (w' : World) : Prop :=
 ∃ x, e = .returned (.int .i64 x) ∧ Sk q.1 x ∧ (∃ s2, r.Inv s2 w' ∧ (x = 0 → s2 = q.2)) ∧ Kpt r.M w w'
abbrev Rdr.Skips {σ : Type} (r : Rdr σ) (d : Nat) : Prop := ∀ (deep t : Int) (s : σ) (w : World), deep.toNat = d → -9223372036854775808 ≤ deep → deep ≤ 9223372036854775807 → r.Inv s w → r.pr.Room s →
 Calls Tryz.prog 81 #[.pointer (some ⟨r.R, 0, none⟩), .int .i64 t, .int .i64 deep] w (r.SkP w (skp r.pr d t s))
section
variable {σ : Type} {r : Rdr σ} {s : σ} {w : World}
theorem Rdr.skip_zero : r.Skips 0 := by
 intro deep t s w hd hlo hhi hR _
 have hle : deep ≤ 0 := by omega
 go_enter Tryz.func81, Tryz.ntmps81
 go_wp2_with fail
 go_ret
 exact ⟨_, rfl, .inr (.inr rfl), ⟨_, hR, fun hh => by cases hh⟩, Kpt.refl _ _⟩
set_option maxRecDepth 100000 in
theorem Rdr.skip_scalar (ok : r.Ok) (deep t : Int) (hd : 0 < deep) (ht : isSc t = true) (hR : r.Inv s w) :
  Calls Tryz.prog 81 #[.pointer (some ⟨r.R, 0, none⟩), .int .i64 t, .int .i64 deep] w (r.SkP w (r.pr.scK t s, r.pr.scS t s)) := by
 obtain ⟨_, ho1, ho2⟩ : isSc t = true ∧ 13 ≤ opOf t ∧ opOf t ≤ 21 := by
  rcases opOf_sc t with h | h
  ·exact h
  ·rw [ht] at h; exact absurd h.1 (by decide)
 have hstep : Calls _ _ #[_, .agg (stepA (opOf t))] _ _ := ok.sc t ht hR
 obtain ⟨o, ho⟩ : ∃ o, opOf t = o := ⟨_, rfl⟩
 rw [ho] at hstep ho1 ho2
 have HO := hdd ho
 clear ho
 go_enter Tryz.func81, Tryz.ntmps81
 go_wp2_with fail
 refine (spec_op t w).mono ?_
 rintro e w1 ⟨rfl, rfl⟩
 rw [HO.out]
 go_wp2_with fail
 refine hstep.mono ?_
 rintro e w2 ⟨x, t', kt, size, id, N', S', rfl, ⟨a, m, cc, rfl⟩, hx, hr, hk, _⟩
 have HX := hdd hx
 have hf := got_field0 x t' kt size id N' (.slice a m cc)
 clear hx
 go_wp2_with fail
 go_ret
 exact ⟨_, rfl, HX.out, hr, hk⟩
end
structure Rp.Msg {St : Type} (K : Rp.Ctx St) (gK : St → Int) (gS : St → St) (gT gN : St → Int) (gB : St → List UInt8) (fb fe : FuncId) : Prop where
 mb : Rp.Meth K.T K.P "ReadMessageBegin" fb
 me : Rp.Meth K.T K.P "ReadMessageEnd" fe
 rb : ∀ {s : St} {w : World}, K.Inv s w → Calls Tryz.prog fb #[.pointer (some ⟨K.P, 0, none⟩), ctxV] w fun e w' => ∃ l t q ev, e = .returned (.tuple #[.string l, .int .i32 t, .int .i32 q, ev]) ∧ Rp.Post K w w' (gK s) ev (gS s) ∧ (gK s = 0 → l = ⟨(gB s).toArray⟩ ∧ t = gT s ∧ q = gN s)
 re : ∀ (p c : Value) (w : World), Calls Tryz.prog fe #[p, c] w fun e w' => e = .returned .nilIface ∧ w = w'
structure Pm (St : Type) where
 c : Cfg
 no : Int
 pr : Pr St
 st0 : List UInt8 → St
 rem : St → List UInt8
 gK : St → Int
 gS : St → St
 gT : St → Int
 gN : St → Int
 gB : St → List UInt8
 len : ∀ s, pr.len s = (rem s).length
 lt : (∀ t s, pr.scK t s < 50) ∧ (∀ s, pr.fK s < 50) ∧ (∀ s, pr.mK s < 50) ∧ ∀ s, pr.lK s < 50
 gK_bd : ∀ s, 0 ≤ gK s ∧ gK s ≤ 16
 room0 : ∀ l : List UInt8, l.length ≤ 1099511627775 → pr.Room (st0 l)
 gS_room : ∀ s, pr.Room s → pr.Room (gS s)
 gN_w : ∀ s, IntKind.i32.wrap (gN s) = gN s
 gT_w : ∀ s, IntKind.i64.wrap (gT s) = gT s
 gB_le : ∀ l : List UInt8, l.length ≤ 140737488355328 → (⟨(gB (st0 l)).toArray⟩ : ByteArray).size ≤ 140737488355328
 made : ∀ {E : Env} {MB B D : Nat} {l : List UInt8} {w : World}, Glob E w → Mem E w MB B D l → l.length ≤ 140737488355328 → Calls Tryz.prog 35 #[confV no c, memV MB] w fun e w' =>
  ∃ (K : Rp.Ctx St) (fb fe : FuncId), e = .returned K.V ∧ K.E = E ∧ K.pr = pr ∧ K.Inv (st0 l) w' ∧ Keep (fun _ => False) w w' ∧ (∀ i, K.M w' i → B = i ∨ w.heap.size ≤ i) ∧
   (∀ s W, K.Inv s W → ∃ D', Mem E W MB B D' (rem s)) ∧ (∀ W, K.Some W → ∃ D' s', Mem E W MB B D' s' ∧ Glob E W) ∧ Rp.Msg K gK gS gT gN gB fb fe
 read : ∀ {A : Nat → Prop} (v : Value) (l : List UInt8) (w : World), BytesAt A w v l → l.length ≤ 140737488355328 → Calls Tryz.prog 48 #[confV no c, v] w fun e w' =>
  ∃ r : Rdr St, e = .returned (.pointer (some ⟨r.R, 0, none⟩)) ∧ r.Ok ∧ r.pr = pr ∧ r.Inv (st0 l) w' ∧ Keep (fun _ => False) w w' ∧ (∀ i, r.M w' i → w.heap.size ≤ i) ∧
   (∀ s w2, r.Inv s w2 → Calls Tryz.prog 63 #[.pointer (some ⟨r.R, 0, none⟩)] w2 fun e w3 => e = .returned (.int .i64 (r.pr.len s)) ∧ w2 = w3) ∧
   (∀ s w2, r.Inv s w2 → r.Step 0 w2 (r.GP w2 (gK s) (gS s) (gT s) 0 0 0 (gN s) (gB s))) ∧
   (∀ s w2, r.Inv s w2 → r.Step 1 w2 (r.GP w2 0 s 0 0 0 0 0 []))
structure Sg where
 op : Int
 t : Int
 k : Int
 z : Int
 i : Int
 n : Int
 s : List UInt8
def Row7 (w : World) (D o : Nat) (v0 v1 v2 v3 v4 v5 v6 : Value) : Prop :=
 w.cell? ⟨D, o, none⟩ = some v0 ∧ w.cell? ⟨D, o + 1, none⟩ = some v1 ∧ w.cell? ⟨D, o + 2, none⟩ = some v2 ∧ w.cell? ⟨D, o + 3, none⟩ = some v3 ∧ w.cell? ⟨D, o + 4, none⟩ = some v4 ∧ w.cell? ⟨D, o + 5, none⟩ = some v5 ∧ w.cell? ⟨D, o + 6, none⟩ = some v6
theorem Row7.keep {M : Nat → Prop} {w w' : World} {D o : Nat} {v0 v1 v2 v3 v4 v5 v6 : Value} (h : Row7 w D o v0 v1 v2 v3 v4 v5 v6) (k : Keep M w w') (hM : ¬ M D) : Row7 w' D o v0 v1 v2 v3 v4 v5 v6 := by
 obtain ⟨h0, h1, h2, h3, h4, h5, h6⟩ := h
 exact ⟨(k.cell (p := ⟨D, o, none⟩) (lt_of_cell h0) hM).trans h0, (k.cell (p := ⟨D, o + 1, none⟩) (lt_of_cell h1) hM).trans h1, (k.cell (p := ⟨D, o + 2, none⟩) (lt_of_cell h2) hM).trans h2, (k.cell (p := ⟨D, o + 3, none⟩) (lt_of_cell h3) hM).trans h3, (k.cell (p := ⟨D, o + 4, none⟩) (lt_of_cell h4) hM).trans h4, (k.cell (p := ⟨D, o + 5, none⟩) (lt_of_cell h5) hM).trans h5, (k.cell (p := ⟨D, o + 6, none⟩) (lt_of_cell h6) hM).trans h6⟩
def StepsAt (A : Nat → Prop) (w : World) (v : Value) (l : List Sg) : Prop :=
 ∃ a c, v = .slice a l.length c ∧ l.length ≤ 140737488355328 ∧ (l.length ≠ 0 → l.length ≤ c ∧ c ≤ 9223372036854775807) ∧ ∀ j x, l[j]? = some x → ∃ D o sv, a = some ⟨D, o, none⟩ ∧ A D ∧ BytesAt A w sv x.s ∧ Row7 w D (o + j * 7) (.int .i64 x.op) (.int .i64 x.t) (.int .i64 x.k) (.int .i64 x.z) (.int .i64 x.i) (.int .i64 x.n) sv
theorem StepsAt.keep {A M : Nat → Prop} {w w' : World} {v : Value} {l : List Sg} (h : StepsAt A w v l) (k : Keep M w w') (hM : ∀ i, A i → ¬ M i) : StepsAt A w' v l := by
 obtain ⟨a, c, rfl, h1, h2, h3⟩ := h
 refine ⟨a, c, rfl, h1, h2, fun j x hj => ?_⟩
 obtain ⟨D, o, sv, e1, e2, e3, e4⟩ := h3 j x hj
 exact ⟨D, o, sv, e1, e2, e3.keep k hM, e4.keep k (hM D e2)⟩
theorem StepsAt.weak {A A' : Nat → Prop} {w : World} {v : Value} {l : List Sg} (h : StepsAt A w v l) (hA : ∀ i, i < w.heap.size → A i → A' i) : StepsAt A' w v l := by
 obtain ⟨a, c, rfl, h1, h2, h3⟩ := h
 refine ⟨a, c, rfl, h1, h2, fun j x hj => ?_⟩
 obtain ⟨D, o, sv, e1, e2, e3, e4⟩ := h3 j x hj
 exact ⟨D, o, sv, e1, hA D (lt_of_cell e4.1) e2, e3.weak hA, e4⟩
def BoolP (P : Bool → Prop) (w : World) (e : Ending) (w' : World) : Prop := ∃ b, e = .returned (.bool b) ∧ P b ∧ Keep (fun _ => False) w w'
theorem zzFits4_at {A : Nat → Prop} {w : World} {sv : Value} {s : List UInt8} (h : BytesAt A w sv s) (op t k z i n : Int) :
  Calls Tryz.prog 26 #[.agg (stepG op t k z i n sv)] w (BoolP (fun _ => True) w) := by
 obtain ⟨a, c, rfl, hl, _, _⟩ := h.cellAt'
 obtain ⟨L, hL⟩ : ∃ L, s.length = L := ⟨_, rfl⟩
 rw [hL] at hl ⊢
 by_cases hb : (2147483647 : Int) < (L : Int)
 ·go_enter Tryz.func26, Tryz.ntmps26
  go_wp2_with fail
  go_ret
  exact ⟨_, rfl, trivial, (Keep.refl _ w).alloc _⟩
 ·go_enter Tryz.func26, Tryz.ntmps26
  go_wp2_with fail
  go_ret
  exact ⟨_, rfl, trivial, (Keep.refl _ w).alloc _⟩
set_option maxRecDepth 100000 in
theorem zzFits3_at {A : Nat → Prop} {w : World} {v : Value} {l : List Sg} (h : StepsAt A w v l) :
  Calls Tryz.prog 8 #[v] w (BoolP (fun b => b = true → l.length ≤ 2147483647) w) := by
 obtain ⟨a, c, rfl, hl, hc, g⟩ := h
 obtain ⟨L, hL⟩ : ∃ L, l.length = L := ⟨_, rfl⟩
 rw [hL] at hl hc ⊢
 have HL := hdd hL
 have G := hdd g
 have HC := hdd hc
 clear hL g hc
 by_cases hb : (2147483647 : Int) < (L : Int)
 ·go_enter Tryz.func8, Tryz.ntmps8
  go_wp2_with fail
  go_ret
  exact ⟨_, rfl, fun e => (by cases e), Keep.refl _ _⟩
 ·have hLb : L ≤ 2147483647 := by omega
  go_enter Tryz.func8, Tryz.ntmps8
  go_wp2_with fail
  go_loopg [10] L (fun k v10 wr => ∃ i : Nat, v10 = .int .i64 i ∧ i + k = L ∧ Keep (fun _ => False) w wr)
  case atStart => exact ⟨0, rfl, by omega, Keep.refl _ _⟩
  case round =>
   obtain ⟨i, rfl, hik, hkr⟩ := hrel
   by_cases hlt : i < L
   ·cases gk with
    | zero => omega
    | succ k =>
    have hlt' : (i : Int) < (L : Int) := by omega
    have hj : l[i]? = some (l[i]'(by have := HL.out; omega)) := List.getElem?_eq_getElem _
    obtain ⟨D, o, sv, ha, _, hs, h7⟩ := G.out i _ hj
    generalize (l[i]'(by have := HL.out; omega)) = x at *
    subst ha
    obtain ⟨d0, d1, d2, d3, d4, d5, d6⟩ := h7.keep hkr (fun x => x)
    have HS := hdd (hs.keep hkr (fun _ _ x => x))
    have hnc : L ≤ c := (HC.out (by omega)).1
    have hw : IntKind.i64.wrap ((i : Int) + 1) = (i : Int) + 1 := IntWalk.i64_in _ (by omega)
    obtain ⟨op, t, kk, z, ii, n, s⟩ := x
    have hs : BytesAt A w sv s := hs
    obtain ⟨sa, sm, sc, rfl⟩ := BytesAt.shape hs
    have hk1 : Keep (fun _ => False) wr (wr.alloc (.cells (stepG op t kk z ii n (.slice sa sm sc)) 63 (0, 0))) := (Keep.refl _ wr).alloc _
    have hU1 := heap_alloc_new wr (.cells (stepG op t kk z ii n (.slice sa sm sc)) 63 (0, 0))
    clear hj hs h7
    go_wp2_with fail
    refine (zzFits4_at (HS.out.keep hk1 (fun _ _ x => x)) op t kk z ii n).mono ?_
    rintro e w2 ⟨b, rfl, _, hk2⟩
    cases b
    ·go_wp2_with fail
     go_ret
     exact ⟨_, rfl, fun e => (by cases e), hkr.then (hk1.then hk2)⟩
    ·go_wp2_with fail
     go_roundg k
     case measure => exact Nat.lt_succ_self _
     case rel => exact ⟨i + 1, by go_num, by omega, hkr.then (hk1.then hk2)⟩
   ·have hge : ¬ (i : Int) < (L : Int) := by omega
    go_wp2_with fail
    go_ret
    exact ⟨_, rfl, (by first | exact fun _ => hLb | trivial), hkr⟩
set_option maxRecDepth 100000 in
theorem isHeavySteps_at {A : Nat → Prop} {w : World} {v : Value} {l : List Sg} (h : StepsAt A w v l) :
  Calls Tryz.prog 27 #[v] w (BoolP (fun b => b = false → l.length ≤ 65536) w) := by
 obtain ⟨a, c, rfl, hl, hc, g⟩ := h
 obtain ⟨L, hL⟩ : ∃ L, l.length = L := ⟨_, rfl⟩
 rw [hL] at hl hc ⊢
 have HL := hdd hL
 have G := hdd g
 have HC := hdd hc
 clear hL g hc
 go_enter Tryz.func27, Tryz.ntmps27
 go_wp2_with fail
 go_loopg [3, 4] L (fun k v3 v4 wr => ∃ i m : Nat, v3 = .int .i64 m ∧ v4 = .int .i64 i ∧ i + k = L ∧ L ≤ m ∧ m ≤ 140737488355328 + 65537 ∧ w = wr)
 case atStart => exact ⟨0, L, rfl, rfl, by omega, by omega, by omega, rfl⟩
 case round =>
  obtain ⟨i, m, rfl, rfl, hik, hm, hm2, rfl⟩ := hrel
  by_cases hlt : i < L
  ·have hlt' : (i : Int) < (L : Int) := by omega
   by_cases hmm : m ≤ 65536
   ·cases gk with
    | zero => omega
    | succ k =>
    have hmm' : (m : Int) ≤ 65536 := by omega
    have hj : l[i]? = some (l[i]'(by have := HL.out; omega)) := List.getElem?_eq_getElem _
    obtain ⟨D, o, sv, ha, _, hs, h7⟩ := G.out i _ hj
    generalize (l[i]'(by have := HL.out; omega)) = x at *
    subst ha
    obtain ⟨d0, d1, d2, d3, d4, d5, d6⟩ := h7
    obtain ⟨sa, sc, rfl, hsl, _, _⟩ := hs.cellAt'
    have hnc : L ≤ c := (HC.out (by omega)).1
    obtain ⟨sm, hsm⟩ : ∃ sm, x.s.length = sm := ⟨_, rfl⟩
    rw [hsm] at hsl d6
    have hw : IntKind.i64.wrap ((i : Int) + 1) = (i : Int) + 1 := IntWalk.i64_in _ (by omega)
    clear hj hs hsm
    by_cases hs6 : (sm : Int) ≤ 65537
    ·have hw2 : IntKind.i64.wrap ((m : Int) + (sm : Int)) = (m : Int) + (sm : Int) := IntWalk.i64_in _ (by omega)
     go_wp2_with fail
     go_roundg k
     case measure => exact Nat.lt_succ_self _
     case rel => exact ⟨i + 1, m + sm, by go_num, by go_num, by omega, by omega, by omega, rfl⟩
    ·have hw2 : IntKind.i64.wrap ((m : Int) + 65537) = (m : Int) + 65537 := IntWalk.i64_in _ (by omega)
     go_wp2_with fail
     go_roundg k
     case measure => exact Nat.lt_succ_self _
     case rel => exact ⟨i + 1, m + 65537, by go_num, by go_num, by omega, by omega, by omega, rfl⟩
   ·have hmm' : ¬ (m : Int) ≤ 65536 := by omega
    have hgt : (65536 : Int) < (m : Int) := by omega
    go_wp2_with fail
    go_ret
    exact ⟨_, rfl, fun e => (by first | (simp at e; done) | (simp at e; omega) | omega), Keep.refl _ _⟩
  ·have hge : ¬ (i : Int) < (L : Int) := by omega
   go_wp2_with fail
   go_ret
   exact ⟨_, rfl, fun e => (by first | (simp at e; done) | (simp at e; omega) | omega), Keep.refl _ _⟩
section
variable {σ : Type} {r : Rdr σ} {s : σ} {w : World}
def Rdr.FldRel {σ : Type} (r : Rdr σ) (w : World) (f : Int → σ → Int × σ) (tot : Int × σ) (b k : Nat) (wr : World) : Prop :=
 ∃ s, r.Inv s wr ∧ Kpt r.M w wr ∧ r.pr.len s < k ∧ flds r.pr f k s = tot ∧ r.pr.one ≤ r.pr.dep s ∧ r.pr.len s + r.pr.dep s ≤ b
set_option maxRecDepth 100000 in
theorem Rdr.skip_struct (ok : r.Ok) (d : Nat) (ih : r.Skips d) (deep : Int) (hdq : deep.toNat = d + 1) (hd : 0 < deep) (hhi : deep ≤ 9223372036854775807) (hR : r.Inv s w) (hroom : r.pr.Room s) :
  Calls Tryz.prog 109 #[.pointer (some ⟨r.R, 0, none⟩), .int .i64 deep] w (r.SkP w (flds r.pr (skp r.pr d) (r.pr.len (r.pr.sbS s) + 1) (r.pr.sbS s))) := by
 obtain ⟨tot, htot⟩ : ∃ tot, flds r.pr (skp r.pr d) (r.pr.len (r.pr.sbS s) + 1) (r.pr.sbS s) = tot := ⟨_, rfl⟩
 rw [htot]
 have HT := hdd htot
 have HDD := hdd hdq
 clear htot hdq
 have hR0 : r.pr.len s + r.pr.dep s < 1099511627776 := hroom
 have HRM := hdd hR0
 clear hroom hR0
 have hs2 : Calls _ _ #[_, .agg (stepA 2)] _ _ := ok.sb hR (by have := HRM.out; omega)
 go_enter Tryz.func109, Tryz.ntmps109
 go_wp2_with fail
 refine hs2.mono ?_
 rintro e w2 ⟨x, t', kt, size, id, N', S', rfl, ⟨a, m, cc, rfl⟩, hx, ⟨r', hr1, hr3⟩, hk, _⟩
 have h0 : x = 0 ∨ x = -2 := by unfold Sk at hx; omega
 rcases h0 with rfl | rfl
 ·obtain rfl := hr3 rfl
  clear hx hr3
  go_wp2_with fail
  go_loopg [] (r.pr.len (r.pr.sbS s) + 1) (fun k wr => r.FldRel w (skp r.pr d) tot (r.pr.len s + r.pr.dep s + r.pr.one) k wr)
  case atStart =>
   exact ⟨_, ok.fresh hr1 ((Keep.refl _ w2).alloc _), hk.then (ok.kept hr1 ((Keep.refl _ w2).alloc _)), Nat.lt_succ_self _, HT.out, by rw [ok.pr.dsb]; omega, by rw [ok.pr.dsb]; have := ok.pr.sb s; omega⟩
  case round =>
   obtain ⟨s1, hi1, hk1, hlt, hfl, hdp⟩ := hrel
   have HDP := hdd hdp
   clear hdp
   cases gk with
   | zero => exact absurd hlt (Nat.not_lt_zero _)
   | succ k =>
   have HF := hdd hfl
   have HLT := hdd hlt
   have hd1 : (deep - 1).toNat = d := by have := HDD.out; omega
   have HD := hdd hd1
   clear hfl hlt hd1
   have hs4 : Calls _ _ #[_, .agg (stepA 4)] _ _ := ok.f hi1
   go_wp2_with fail
   refine hs4.mono ?_
   rintro e w3 ⟨x, t, kt, size, id, N', S', rfl, ⟨a4, m4, cc4, rfl⟩, hx, ⟨r4, h4, hr4⟩, hk4, hv⟩
   clear hs4
   by_cases hz : x = 0
   ·subst hz
    obtain rfl := hr4 rfl
    have HT0 := hdd (hv rfl).1
    have HZ := hdd (show r.pr.fK s1 = 0 from Sk.zero hx)
    clear hx hv hr4
    by_cases ht0 : t = 0
    ·subst ht0
     go_wp2_with fail
     refine Calls.mono (ok.se (ok.fresh h4 ((Keep.refl _ _).alloc _)) (by rw [ok.pr.df s1 HZ.out]; exact HDP.out.1)) ?_
     rintro e w5 ⟨x5, t5, kt5, size5, id5, N5, S5, rfl, ⟨a5, m5, cc5, rfl⟩, hx5, ⟨r5, h5, hr5⟩, hk5, _⟩
     have hf := got_field0 x5 t5 kt5 size5 id5 N5 (.slice a5 m5 cc5)
     have HX := hdd hx5
     have HR := hdd hr5
     clear hx5 hr5
     go_wp2_with fail
     go_ret
     have e1 : tot = (0, r.pr.seS (r.pr.fS s1)) := by
      rw [← HF.out]; simp only [flds]; rw [if_pos HZ.out, if_pos (show r.pr.fT s1 = 0 from HT0.out.symm)]
     rw [e1]
     exact ⟨_, rfl, HX.out, ⟨_, h5, HR.out⟩, (hk1.then hk4).then ((ok.kept h4 ((Keep.refl _ w3).alloc _)).then hk5)⟩
    ·go_wp2_with fail
     refine (ih (deep - 1) t _ _ HD.out (by omega) (by omega) (ok.fresh h4 ((Keep.refl _ _).alloc _)) (by have a1 := ok.pr.df s1 HZ.out; have a2 := ok.pr.f s1 HZ.out; have a3 := HDP.out.2; have a4 := ok.pr.one1; have a5 := HRM.out; show _ + _ < _; omega)).mono ?_
     rintro e w5 ⟨x5, rfl, hx5, ⟨r5, h5, hr5⟩, hk5⟩
     have hne : ¬ r.pr.fT s1 = 0 := fun hh => ht0 (HT0.out.trans hh)
     have ht' : t = r.pr.fT s1 := HT0.out
     have HX := hdd hx5
     have HR := hdd hr5
     have HNE := hdd hne
     have HT' := hdd ht'
     clear hx5 hr5 hne ht'
     by_cases hz5 : x5 = 0
     ·subst hz5
      have hs0 := Sk.zero HX.out
      have hr5 := HR.out rfl
      rw [HT'.out] at hs0 hr5
      subst hr5
      have HS0 := hdd hs0
      clear hs0
      go_wp2_with fail
      refine Calls.mono (ok.fe h5) ?_
      rintro e w6 ⟨x6, t6, kt6, size6, id6, N6, S6, rfl, ⟨a6, m6, cc6, rfl⟩, hx6, ⟨r6, h6, hr6⟩, hk6, _⟩
      have hx60 : x6 = 0 ∨ x6 = -2 := by unfold Sk at hx6; omega
      clear hx6
      rcases hx60 with rfl | rfl
      ·obtain rfl := hr6 rfl
       clear hr6
       go_wp2_with fail
       go_roundg k
       case measure => exact Nat.lt_succ_self _
       case rel =>
        have a1 := ok.pr.fe (skp r.pr d (r.pr.fT s1) (r.pr.fS s1)).2
        have a2 := skp_len ok.pr d _ _ HS0.out
        have a3 := ok.pr.f s1 HZ.out
        have a4 := HLT.out
        have a5 := ok.pr.dfe (skp r.pr d (r.pr.fT s1) (r.pr.fS s1)).2
        have a6 := skp_dep ok.pr d _ _ HS0.out
        have a7 := ok.pr.df s1 HZ.out
        have a8 := HDP.out
        refine ⟨_, ok.fresh h6 ((Keep.refl _ _).alloc _), (hk1.then hk4).then (((ok.kept h4 ((Keep.refl _ w3).alloc _)).then hk5).then (hk6.then (ok.kept h6 ((Keep.refl _ _).alloc _)))), by omega, ?_, by omega, by omega⟩
        rw [← HF.out]; simp only [flds]; rw [if_pos HZ.out, if_neg HNE.out, if_pos HS0.out]
      ·clear hr6
       go_wp2_with fail
       go_ret
       exact ⟨_, rfl, .inl rfl, ⟨_, ok.fresh h6 ((Keep.refl _ _).alloc _), fun hh => by cases hh⟩, (hk1.then hk4).then (((ok.kept h4 ((Keep.refl _ w3).alloc _)).then hk5).then (hk6.then (ok.kept h6 ((Keep.refl _ _).alloc _))))⟩
     ·have H5 := hdd hz5
      go_wp2_with fail
      go_ret
      refine ⟨_, rfl, ?_, ⟨_, h5, fun hh => absurd hh H5.out⟩, (hk1.then hk4).then ((ok.kept h4 ((Keep.refl _ w3).alloc _)).then hk5)⟩
      have hX := HX.out
      rw [HT'.out] at hX
      by_cases hq : (skp r.pr d (r.pr.fT s1) (r.pr.fS s1)).1 = 0
      ·have := H5.out
       unfold Sk at hX ⊢; omega
      ·have e1 : tot = skp r.pr d (r.pr.fT s1) (r.pr.fS s1) := by
        rw [← HF.out]; simp only [flds]; rw [if_pos HZ.out, if_neg HNE.out, if_neg hq]
       rw [e1]; exact hX
   ·have H5 := hdd hz
    have HX := hdd hx
    clear hx hv hr4
    go_wp2_with fail
    go_ret
    refine ⟨_, rfl, ?_, ⟨_, ok.fresh h4 ((Keep.refl _ _).alloc _), fun hh => absurd hh H5.out⟩, (hk1.then hk4).then (ok.kept h4 ((Keep.refl _ _).alloc _))⟩
    have hX := HX.out
    by_cases hq : r.pr.fK s1 = 0
    ·have := H5.out
     unfold Sk at hX ⊢; omega
    ·have e1 : tot = (r.pr.fK s1, r.pr.fS s1) := by
      rw [← HF.out]; simp only [flds]; rw [if_neg hq]
     rw [e1]; exact hX
 ·clear hr3 hx
  go_wp2_with fail
  go_ret
  exact ⟨_, rfl, .inl rfl, ⟨_, ok.fresh hr1 ((Keep.refl _ w2).alloc _), fun hh => by cases hh⟩, hk.then (ok.kept hr1 ((Keep.refl _ w2).alloc _))⟩
end
section
variable {σ : Type} {r : Rdr σ} {s : σ} {w : World}
def Rdr.RepRel {σ : Type} (r : Rdr σ) (w : World) (U : Nat) (g : Array Value) (f : σ → Int × σ) (sz : Int) (tot : Int × σ) (k : Nat) (v : Value) (wr : World) : Prop :=
 ∃ i s, v = .int .i64 i ∧ 0 ≤ i ∧ k = (sz - i).toNat ∧ r.Inv s wr ∧ Kpt r.M w wr ∧ wr.heap[U]? = some (.cells g 75 (0, 0)) ∧ ¬ r.M wr U ∧ rep f k s = tot ∧ r.pr.Room s
set_option maxRecDepth 100000 in
theorem Rdr.skip_list (ok : r.Ok) (d : Nat) (ih : r.Skips d) (deep : Int) (hdq : deep.toNat = d + 1) (hd : 0 < deep) (hhi : deep ≤ 9223372036854775807) (hR : r.Inv s w) (hroom : r.pr.Room s) :
  Calls Tryz.prog 110 #[.pointer (some ⟨r.R, 0, none⟩), .int .i64 15, .int .i64 deep] w (r.SkP w (skp r.pr (d + 1) 15 s)) := by
 obtain ⟨res, hres⟩ : ∃ res, skp r.pr (d + 1) 15 s = res := ⟨_, rfl⟩
 rw [hres]
 have HRES := hdd hres
 have HDD := hdd hdq
 clear hres hdq
 have HRM := hdd hroom
 clear hroom
 have hs : Calls _ _ #[_, .agg (stepA 9)] _ _ := ok.l hR
 go_enter Tryz.func110, Tryz.ntmps110
 go_wp2_with fail
 refine (spec_many 15 w).mono ?_
 rintro e w1 ⟨rfl, rfl⟩
 rw [show manyOf 15 = 9 by decide]
 go_wp2_with fail
 refine hs.mono ?_
 rintro e w2 ⟨x, t, kt, size, id, N', S', rfl, ⟨a, m, cc, rfl⟩, hx, ⟨r', hr1, hr3⟩, hk, hv⟩
 by_cases hz : x = 0
 ·subst hz
  obtain rfl := hr3 rfl
  obtain ⟨ht, _, hsz, _⟩ := hv rfl
  have hK : r.pr.lK s = 0 := Sk.zero hx
  have hszb : size ≤ 2147483647 := by rw [hsz]; exact ok.pr.lb s
  obtain ⟨tot, htot⟩ : ∃ tot, rep (skp r.pr d t) size.toNat (r.pr.lS s) = tot := ⟨_, rfl⟩
  have hrt : res = endby r.pr.leS tot := by
   rw [← HRES.out, ← htot, ht, hsz]; simp [skp, isSc, hK]
  have HT := hdd htot
  have HRT := hdd hrt
  clear hx hv hr3 htot hrt ht hsz
  go_wp2_with fail
  go_loopg [8] size.toNat (fun k v wr => r.RepRel w w2.heap.size (gotA 0 t 0 size 0 0 (.slice a m cc)) (skp r.pr d t) size tot k v wr)
  case atStart => exact ⟨0, _, rfl, by omega, by rw [Int.sub_zero], ok.fresh hr1 ((Keep.refl _ _).alloc _), hk.then (ok.kept hr1 ((Keep.refl _ _).alloc _)), heap_alloc_new _ _, ok.new hr1 ((Keep.refl _ _).alloc _) _ (Nat.le_refl _), HT.out, by have a1 := ok.pr.l s hK; have a2 := ok.pr.dl s hK; have a3 : _ + _ < _ := HRM.out; show _ + _ < _; omega⟩
  case round =>
   obtain ⟨i, s1, rfl, hi0, hk0, hi1, hk1, hg, hgm, hr, hrm⟩ := hrel
   have HGM := hdd hgm
   have HRM1 := hdd hrm
   clear hgm hrm
   obtain ⟨u0, u1, u2, u3, u4, u5, u6⟩ := got_cells hg
   have HG := hdd hg
   have hd1 : (deep - 1).toNat = d := by have := HDD.out; omega
   have HD := hdd hd1
   clear hg hd1
   by_cases hin : i < size
   ·cases gk with
    | zero => omega
    | succ k =>
    have HK := hdd hk0
    have HR := hdd hr
    clear hr hk0
    go_wp2_with fail
    refine (ih (deep - 1) t _ wr HD.out (by omega) (by omega) hi1 HRM1.out).mono ?_
    rintro e w3 ⟨x3, rfl, hx3, ⟨r3, h3, hr3⟩, hk3⟩
    have hg3 := (hk3.block w2.heap.size (lt_of_heap HG.out) HGM.out).trans HG.out
    have HX := hdd hx3
    have HR3 := hdd hr3
    clear hx3 hr3
    by_cases hz3 : x3 = 0
    ·subst hz3
     have hs0 := Sk.zero HX.out
     have hr3 := HR3.out rfl
     subst hr3
     have HS0 := hdd hs0
     have HG3 := hdd hg3
     clear hs0 hg3
     go_wp2_with fail
     go_roundg k
     case measure => exact Nat.lt_succ_self _
     case rel => exact ⟨i + 1, _, rfl, by omega, by have := HK.out; omega, h3, hk1.then hk3, HG3.out, hk3.not (lt_of_heap HG.out) HGM.out, by rw [← HR.out, rep_ok HS0.out], by have a1 := skp_len ok.pr d _ _ HS0.out; have a2 := skp_dep ok.pr d _ _ HS0.out; have a3 : _ + _ < _ := HRM1.out; show _ + _ < _; omega⟩
    ·have H5 := hdd hz3
     clear hg3
     go_wp2_with fail
     go_ret
     refine ⟨_, rfl, ?_, ⟨_, h3, fun hh => absurd hh H5.out⟩, hk1.then hk3⟩
     have hX := HX.out
     by_cases hq : (skp r.pr d t s1).1 = 0
     ·have := H5.out
      unfold Sk at hX ⊢; omega
     ·have e1 : res = skp r.pr d t s1 := by
       rw [HRT.out, ← HR.out, rep_bad hq]; exact endby_bad hq
      rw [e1]; exact hX
   ·have hgk : gk = 0 := by omega
    subst hgk
    have HR := hdd hr
    clear hr hk0
    go_wp2_with fail
    refine (spec_many 15 wr).mono ?_
    rintro e w3 ⟨rfl, rfl⟩
    rw [show manyOf 15 = 9 by decide]
    go_wp2_with fail
    refine Calls.mono (ok.le hi1) ?_
    rintro e w5 ⟨x5, t5, kt5, size5, id5, N5, S5, rfl, ⟨a5, m5, cc5, rfl⟩, hx5, ⟨r5, h5, hr5⟩, hk5, _⟩
    have hf := got_field0 x5 t5 kt5 size5 id5 N5 (.slice a5 m5 cc5)
    have HX := hdd hx5
    have HR5 := hdd hr5
    clear hx5 hr5
    go_wp2_with fail
    go_ret
    have e1 : res = (0, r.pr.leS s1) := by rw [HRT.out, ← HR.out]; rfl
    rw [e1]
    exact ⟨_, rfl, HX.out, ⟨_, h5, HR5.out⟩, hk1.then hk5⟩
 ·have H5 := hdd hz
  have HX := hdd hx
  clear hx hv hr3
  go_wp2_with fail
  go_ret
  refine ⟨_, rfl, ?_, ⟨_, ok.fresh hr1 ((Keep.refl _ _).alloc _), fun hh => absurd hh H5.out⟩, hk.then (ok.kept hr1 ((Keep.refl _ _).alloc _))⟩
  have hX := HX.out
  by_cases hq : r.pr.lK s = 0
  ·have := H5.out
   unfold Sk at hX ⊢; omega
  ·have e1 : res = (r.pr.lK s, r.pr.lS s) := by
    rw [← HRES.out]
    simp [skp, isSc, hq]
   rw [e1]; exact hX
set_option maxRecDepth 100000 in
theorem Rdr.skip_set (ok : r.Ok) (d : Nat) (ih : r.Skips d) (deep : Int) (hdq : deep.toNat = d + 1) (hd : 0 < deep) (hhi : deep ≤ 9223372036854775807) (hR : r.Inv s w) (hroom : r.pr.Room s) :
  Calls Tryz.prog 110 #[.pointer (some ⟨r.R, 0, none⟩), .int .i64 14, .int .i64 deep] w (r.SkP w (skp r.pr (d + 1) 14 s)) := by
 obtain ⟨res, hres⟩ : ∃ res, skp r.pr (d + 1) 14 s = res := ⟨_, rfl⟩
 rw [hres]
 have HRES := hdd hres
 have HDD := hdd hdq
 clear hres hdq
 have HRM := hdd hroom
 clear hroom
 have hs : Calls _ _ #[_, .agg (stepA 11)] _ _ := ok.t hR
 go_enter Tryz.func110, Tryz.ntmps110
 go_wp2_with fail
 refine (spec_many 14 w).mono ?_
 rintro e w1 ⟨rfl, rfl⟩
 rw [show manyOf 14 = 11 by decide]
 go_wp2_with fail
 refine hs.mono ?_
 rintro e w2 ⟨x, t, kt, size, id, N', S', rfl, ⟨a, m, cc, rfl⟩, hx, ⟨r', hr1, hr3⟩, hk, hv⟩
 by_cases hz : x = 0
 ·subst hz
  obtain rfl := hr3 rfl
  obtain ⟨ht, _, hsz, _⟩ := hv rfl
  have hK : r.pr.lK s = 0 := Sk.zero hx
  have hszb : size ≤ 2147483647 := by rw [hsz]; exact ok.pr.lb s
  obtain ⟨tot, htot⟩ : ∃ tot, rep (skp r.pr d t) size.toNat (r.pr.lS s) = tot := ⟨_, rfl⟩
  have hrt : res = endby r.pr.leS tot := by
   rw [← HRES.out, ← htot, ht, hsz]; simp [skp, isSc, hK]
  have HT := hdd htot
  have HRT := hdd hrt
  clear hx hv hr3 htot hrt ht hsz
  go_wp2_with fail
  go_loopg [8] size.toNat (fun k v wr => r.RepRel w w2.heap.size (gotA 0 t 0 size 0 0 (.slice a m cc)) (skp r.pr d t) size tot k v wr)
  case atStart => exact ⟨0, _, rfl, by omega, by rw [Int.sub_zero], ok.fresh hr1 ((Keep.refl _ _).alloc _), hk.then (ok.kept hr1 ((Keep.refl _ _).alloc _)), heap_alloc_new _ _, ok.new hr1 ((Keep.refl _ _).alloc _) _ (Nat.le_refl _), HT.out, by have a1 := ok.pr.l s hK; have a2 := ok.pr.dl s hK; have a3 : _ + _ < _ := HRM.out; show _ + _ < _; omega⟩
  case round =>
   obtain ⟨i, s1, rfl, hi0, hk0, hi1, hk1, hg, hgm, hr, hrm⟩ := hrel
   have HGM := hdd hgm
   have HRM1 := hdd hrm
   clear hgm hrm
   obtain ⟨u0, u1, u2, u3, u4, u5, u6⟩ := got_cells hg
   have HG := hdd hg
   have hd1 : (deep - 1).toNat = d := by have := HDD.out; omega
   have HD := hdd hd1
   clear hg hd1
   by_cases hin : i < size
   ·cases gk with
    | zero => omega
    | succ k =>
    have HK := hdd hk0
    have HR := hdd hr
    clear hr hk0
    go_wp2_with fail
    refine (ih (deep - 1) t _ wr HD.out (by omega) (by omega) hi1 HRM1.out).mono ?_
    rintro e w3 ⟨x3, rfl, hx3, ⟨r3, h3, hr3⟩, hk3⟩
    have hg3 := (hk3.block w2.heap.size (lt_of_heap HG.out) HGM.out).trans HG.out
    have HX := hdd hx3
    have HR3 := hdd hr3
    clear hx3 hr3
    by_cases hz3 : x3 = 0
    ·subst hz3
     have hs0 := Sk.zero HX.out
     have hr3 := HR3.out rfl
     subst hr3
     have HS0 := hdd hs0
     have HG3 := hdd hg3
     clear hs0 hg3
     go_wp2_with fail
     go_roundg k
     case measure => exact Nat.lt_succ_self _
     case rel => exact ⟨i + 1, _, rfl, by omega, by have := HK.out; omega, h3, hk1.then hk3, HG3.out, hk3.not (lt_of_heap HG.out) HGM.out, by rw [← HR.out, rep_ok HS0.out], by have a1 := skp_len ok.pr d _ _ HS0.out; have a2 := skp_dep ok.pr d _ _ HS0.out; have a3 : _ + _ < _ := HRM1.out; show _ + _ < _; omega⟩
    ·have H5 := hdd hz3
     clear hg3
     go_wp2_with fail
     go_ret
     refine ⟨_, rfl, ?_, ⟨_, h3, fun hh => absurd hh H5.out⟩, hk1.then hk3⟩
     have hX := HX.out
     by_cases hq : (skp r.pr d t s1).1 = 0
     ·have := H5.out
      unfold Sk at hX ⊢; omega
     ·have e1 : res = skp r.pr d t s1 := by
       rw [HRT.out, ← HR.out, rep_bad hq]; exact endby_bad hq
      rw [e1]; exact hX
   ·have hgk : gk = 0 := by omega
    subst hgk
    have HR := hdd hr
    clear hr hk0
    go_wp2_with fail
    refine (spec_many 14 wr).mono ?_
    rintro e w3 ⟨rfl, rfl⟩
    rw [show manyOf 14 = 11 by decide]
    go_wp2_with fail
    refine Calls.mono (ok.te hi1) ?_
    rintro e w5 ⟨x5, t5, kt5, size5, id5, N5, S5, rfl, ⟨a5, m5, cc5, rfl⟩, hx5, ⟨r5, h5, hr5⟩, hk5, _⟩
    have hf := got_field0 x5 t5 kt5 size5 id5 N5 (.slice a5 m5 cc5)
    have HX := hdd hx5
    have HR5 := hdd hr5
    clear hx5 hr5
    go_wp2_with fail
    go_ret
    have e1 : res = (0, r.pr.leS s1) := by rw [HRT.out, ← HR.out]; rfl
    rw [e1]
    exact ⟨_, rfl, HX.out, ⟨_, h5, HR5.out⟩, hk1.then hk5⟩
 ·have H5 := hdd hz
  have HX := hdd hx
  clear hx hv hr3
  go_wp2_with fail
  go_ret
  refine ⟨_, rfl, ?_, ⟨_, ok.fresh hr1 ((Keep.refl _ _).alloc _), fun hh => absurd hh H5.out⟩, hk.then (ok.kept hr1 ((Keep.refl _ _).alloc _))⟩
  have hX := HX.out
  by_cases hq : r.pr.lK s = 0
  ·have := H5.out
   unfold Sk at hX ⊢; omega
  ·have e1 : res = (r.pr.lK s, r.pr.lS s) := by
    rw [← HRES.out]
    simp [skp, isSc, hq]
   rw [e1]; exact hX
end
section
variable {σ : Type} {r : Rdr σ} {s : σ} {w : World}
set_option maxRecDepth 100000 in
theorem Rdr.skip_map (ok : r.Ok) (d : Nat) (ih : r.Skips d) (deep : Int) (hdq : deep.toNat = d + 1) (hd : 0 < deep) (hhi : deep ≤ 9223372036854775807) (hR : r.Inv s w) (hroom : r.pr.Room s) :
  Calls Tryz.prog 110 #[.pointer (some ⟨r.R, 0, none⟩), .int .i64 13, .int .i64 deep] w (r.SkP w (skp r.pr (d + 1) 13 s)) := by
 obtain ⟨res, hres⟩ : ∃ res, skp r.pr (d + 1) 13 s = res := ⟨_, rfl⟩
 rw [hres]
 have HRES := hdd hres
 have HDD := hdd hdq
 clear hres hdq
 have HRM := hdd hroom
 clear hroom
 have hs : Calls _ _ #[_, .agg (stepA 7)] _ _ := ok.m hR
 go_enter Tryz.func110, Tryz.ntmps110
 go_wp2_with fail
 refine (spec_many 13 w).mono ?_
 rintro e w1 ⟨rfl, rfl⟩
 rw [show manyOf 13 = 7 by decide]
 go_wp2_with fail
 refine hs.mono ?_
 rintro e w2 ⟨x, t, kt, size, id, N', S', rfl, ⟨a, m, cc, rfl⟩, hx, ⟨r', hr1, hr3⟩, hk, hv⟩
 by_cases hz : x = 0
 ·subst hz
  obtain rfl := hr3 rfl
  obtain ⟨ht, hkt, hsz, _⟩ := hv rfl
  have hK : r.pr.mK s = 0 := Sk.zero hx
  have hszb : size ≤ 2147483647 := by rw [hsz]; exact ok.pr.mb s
  obtain ⟨tot, htot⟩ : ∃ tot, rep (twice (skp r.pr d kt) (skp r.pr d t)) size.toNat (r.pr.mS s) = tot := ⟨_, rfl⟩
  have hrt : res = endby r.pr.meS tot := by
   rw [← HRES.out, ← htot, ht, hkt, hsz]; simp [skp, isSc, hK]
  have HT := hdd htot
  have HRT := hdd hrt
  clear hx hv hr3 htot hrt ht hkt hsz
  go_wp2_with fail
  go_loopg [8] size.toNat (fun k v wr => r.RepRel w w2.heap.size (gotA 0 t kt size 0 0 (.slice a m cc)) (twice (skp r.pr d kt) (skp r.pr d t)) size tot k v wr)
  case atStart => exact ⟨0, _, rfl, by omega, by rw [Int.sub_zero], ok.fresh hr1 ((Keep.refl _ _).alloc _), hk.then (ok.kept hr1 ((Keep.refl _ _).alloc _)), heap_alloc_new _ _, ok.new hr1 ((Keep.refl _ _).alloc _) _ (Nat.le_refl _), HT.out, by have a1 := ok.pr.m s hK; have a2 := ok.pr.dm s hK; have a3 : _ + _ < _ := HRM.out; show _ + _ < _; omega⟩
  case round =>
   obtain ⟨i, s1, rfl, hi0, hk0, hi1, hk1, hg, hgm, hr, hrm⟩ := hrel
   have HGM := hdd hgm
   have HRM1 := hdd hrm
   clear hgm hrm
   obtain ⟨u0, u1, u2, u3, u4, u5, u6⟩ := got_cells hg
   have HG := hdd hg
   have hd1 : (deep - 1).toNat = d := by have := HDD.out; omega
   have HD := hdd hd1
   clear hg hd1
   by_cases hin : i < size
   ·cases gk with
    | zero => omega
    | succ k =>
    have HK := hdd hk0
    have HR := hdd hr
    clear hr hk0
    go_wp2_with fail
    refine (ih (deep - 1) kt _ wr HD.out (by omega) (by omega) hi1 HRM1.out).mono ?_
    rintro e w3 ⟨x3, rfl, hx3, ⟨r3, h3, hr3⟩, hk3⟩
    have hg3 := (hk3.block w2.heap.size (lt_of_heap HG.out) HGM.out).trans HG.out
    have HX := hdd hx3
    have HR3 := hdd hr3
    clear hx3 hr3
    by_cases hz3 : x3 = 0
    ·subst hz3
     have hs0 := Sk.zero HX.out
     have hr3 := HR3.out rfl
     subst hr3
     have HS0 := hdd hs0
     have HG3 := hdd hg3
     clear hs0 hg3 u0 u1 u2 u3 u4 u5 u6
     obtain ⟨u0, u1, u2, u3, u4, u5, u6⟩ := got_cells HG3.out
     go_wp2_with fail
     refine (ih (deep - 1) t _ w3 HD.out (by omega) (by omega) h3 (by have a1 := skp_len ok.pr d _ _ HS0.out; have a2 := skp_dep ok.pr d _ _ HS0.out; have a3 : _ + _ < _ := HRM1.out; show _ + _ < _; omega)).mono ?_
     rintro e w4 ⟨x4, rfl, hx4, ⟨r4, h4, hr4⟩, hk4⟩
     have hg4 := (hk4.block w2.heap.size (lt_of_heap HG3.out) (hk3.not (lt_of_heap HG.out) HGM.out)).trans HG3.out
     have HX4 := hdd hx4
     have HR4 := hdd hr4
     clear hx4 hr4
     by_cases hz4 : x4 = 0
     ·subst hz4
      have hs1 := Sk.zero HX4.out
      have hr4 := HR4.out rfl
      subst hr4
      have HS1 := hdd hs1
      have HG4 := hdd hg4
      clear hs1 hg4
      go_wp2_with fail
      go_roundg k
      case measure => exact Nat.lt_succ_self _
      case rel => exact ⟨i + 1, _, rfl, by omega, by have := HK.out; omega, h4, (hk1.then hk3).then hk4, HG4.out, hk4.not (lt_of_heap HG3.out) (hk3.not (lt_of_heap HG.out) HGM.out), by rw [← HR.out, rep_ok (by rw [twice_ok HS0.out]; exact HS1.out), twice_ok HS0.out], by have a1 := skp_len ok.pr d _ _ HS0.out; have a2 := skp_dep ok.pr d _ _ HS0.out; have a4 := skp_len ok.pr d _ _ HS1.out; have a5 := skp_dep ok.pr d _ _ HS1.out; have a3 : _ + _ < _ := HRM1.out; show _ + _ < _; omega⟩
     ·have H5 := hdd hz4
      clear hg4
      go_wp2_with fail
      go_ret
      refine ⟨_, rfl, ?_, ⟨_, h4, fun hh => absurd hh H5.out⟩, (hk1.then hk3).then hk4⟩
      have hX := HX4.out
      by_cases hq : (skp r.pr d t (skp r.pr d kt s1).2).1 = 0
      ·have := H5.out
       unfold Sk at hX ⊢; omega
      ·have e1 : res = skp r.pr d t (skp r.pr d kt s1).2 := by
        rw [HRT.out, ← HR.out, rep_bad (by rw [twice_ok HS0.out]; exact hq), twice_ok HS0.out]; exact endby_bad hq
       rw [e1]; exact hX
    ·have H5 := hdd hz3
     clear hg3
     go_wp2_with fail
     go_ret
     refine ⟨_, rfl, ?_, ⟨_, h3, fun hh => absurd hh H5.out⟩, hk1.then hk3⟩
     have hX := HX.out
     by_cases hq : (skp r.pr d kt s1).1 = 0
     ·have := H5.out
      unfold Sk at hX ⊢; omega
     ·have e1 : res = skp r.pr d kt s1 := by
       rw [HRT.out, ← HR.out, rep_bad (by rw [twice_bad hq]; exact hq), twice_bad hq]; exact endby_bad hq
      rw [e1]; exact hX
   ·have hgk : gk = 0 := by omega
    subst hgk
    have HR := hdd hr
    clear hr hk0
    go_wp2_with fail
    refine (spec_many 13 wr).mono ?_
    rintro e w3 ⟨rfl, rfl⟩
    rw [show manyOf 13 = 7 by decide]
    go_wp2_with fail
    refine Calls.mono (ok.me hi1) ?_
    rintro e w5 ⟨x5, t5, kt5, size5, id5, N5, S5, rfl, ⟨a5, m5, cc5, rfl⟩, hx5, ⟨r5, h5, hr5⟩, hk5, _⟩
    have hf := got_field0 x5 t5 kt5 size5 id5 N5 (.slice a5 m5 cc5)
    have HX := hdd hx5
    have HR5 := hdd hr5
    clear hx5 hr5
    go_wp2_with fail
    go_ret
    have e1 : res = (0, r.pr.meS s1) := by rw [HRT.out, ← HR.out]; rfl
    rw [e1]
    exact ⟨_, rfl, HX.out, ⟨_, h5, HR5.out⟩, hk1.then hk5⟩
 ·have H5 := hdd hz
  have HX := hdd hx
  clear hx hv hr3
  go_wp2_with fail
  go_ret
  refine ⟨_, rfl, ?_, ⟨_, ok.fresh hr1 ((Keep.refl _ _).alloc _), fun hh => absurd hh H5.out⟩, hk.then (ok.kept hr1 ((Keep.refl _ _).alloc _))⟩
  have hX := HX.out
  by_cases hq : r.pr.mK s = 0
  ·have := H5.out
   unfold Sk at hX ⊢; omega
  ·have e1 : res = (r.pr.mK s, r.pr.mS s) := by
    rw [← HRES.out]
    simp [skp, isSc, hq]
   rw [e1]; exact hX
end
section
variable {σ : Type} {r : Rdr σ}
set_option maxRecDepth 100000 in
theorem Rdr.Ok.skips (ok : r.Ok) (d : Nat) : r.Skips d := by
 induction d with
 | zero => exact Rdr.skip_zero
 | succ d ih =>
  intro deep t s w hd hlo hhi hR hroom
  have hd0 : 0 < deep := by omega
  by_cases hsc : isSc t = true
  ·have e : skp r.pr (d + 1) t s = (r.pr.scK t s, r.pr.scS t s) := by simp only [skp]; rw [if_pos hsc]
   rw [e]
   exact Rdr.skip_scalar ok deep t hd0 hsc hR
  ·by_cases h12 : t = 12
   ·subst h12
    have e : skp r.pr (d + 1) 12 s = flds r.pr (skp r.pr d) (r.pr.len (r.pr.sbS s) + 1) (r.pr.sbS s) := by simp [skp, isSc]
    rw [e]
    have hc := Rdr.skip_struct ok d ih deep hd hd0 hhi hR hroom
    clear e hd ih
    go_enter Tryz.func81, Tryz.ntmps81
    go_wp2_with fail
    refine (spec_op 12 w).mono ?_
    rintro e w1 ⟨rfl, rfl⟩
    rw [show opOf 12 = -1 by decide]
    go_wp2_with fail
    refine hc.mono ?_
    rintro e w2 ⟨x, rfl, hx, hr, hk⟩
    have HX := hdd hx
    clear hx
    go_wp2_with fail
    go_ret
    exact ⟨_, rfl, HX.out, hr, hk⟩
   ·by_cases h13 : t = 13
    ·subst h13
     have hc := Rdr.skip_map ok d ih deep hd hd0 hhi hR hroom
     obtain ⟨res, hres⟩ : ∃ res, skp r.pr (d + 1) 13 s = res := ⟨_, rfl⟩
     rw [hres] at hc ⊢
     clear hres hd ih
     go_enter Tryz.func81, Tryz.ntmps81
     go_wp2_with fail
     refine (spec_op 13 w).mono ?_
     rintro e w1 ⟨rfl, rfl⟩
     rw [show opOf 13 = -1 by decide]
     go_wp2_with fail
     refine hc.mono ?_
     rintro e w2 ⟨x, rfl, hx, hr, hk⟩
     have HX := hdd hx
     clear hx
     go_wp2_with fail
     go_ret
     exact ⟨_, rfl, HX.out, hr, hk⟩
    ·by_cases h14 : t = 14
     ·subst h14
      have hc := Rdr.skip_set ok d ih deep hd hd0 hhi hR hroom
      obtain ⟨res, hres⟩ : ∃ res, skp r.pr (d + 1) 14 s = res := ⟨_, rfl⟩
      rw [hres] at hc ⊢
      clear hres hd ih
      go_enter Tryz.func81, Tryz.ntmps81
      go_wp2_with fail
      refine (spec_op 14 w).mono ?_
      rintro e w1 ⟨rfl, rfl⟩
      rw [show opOf 14 = -1 by decide]
      go_wp2_with fail
      refine hc.mono ?_
      rintro e w2 ⟨x, rfl, hx, hr, hk⟩
      have HX := hdd hx
      clear hx
      go_wp2_with fail
      go_ret
      exact ⟨_, rfl, HX.out, hr, hk⟩
     ·by_cases h15 : t = 15
      ·subst h15
       have hc := Rdr.skip_list ok d ih deep hd hd0 hhi hR hroom
       obtain ⟨res, hres⟩ : ∃ res, skp r.pr (d + 1) 15 s = res := ⟨_, rfl⟩
       rw [hres] at hc ⊢
       clear hres hd ih
       go_enter Tryz.func81, Tryz.ntmps81
       go_wp2_with fail
       refine (spec_op 15 w).mono ?_
       rintro e w1 ⟨rfl, rfl⟩
       rw [show opOf 15 = -1 by decide]
       go_wp2_with fail
       refine hc.mono ?_
       rintro e w2 ⟨x, rfl, hx, hr, hk⟩
       have HX := hdd hx
       clear hx
       go_wp2_with fail
       go_ret
       exact ⟨_, rfl, HX.out, hr, hk⟩
      ·have e : skp r.pr (d + 1) t s = (11, s) := by
        simp only [skp]; rw [if_neg hsc, if_neg h12, if_neg h13, if_neg (by omega)]
       rw [e]
       have ho : opOf t = -1 := by
        rcases opOf_sc t with h | h
        ·exact absurd h.1 hsc
        ·exact h.2
       have HO := hdd ho
       clear e hd ih ho hsc
       go_enter Tryz.func81, Tryz.ntmps81
       go_wp2_with fail
       refine (spec_op t w).mono ?_
       rintro e w1 ⟨rfl, rfl⟩
       rw [HO.out]
       go_wp2_with fail
       go_ret
       exact ⟨_, rfl, .inr (.inr rfl), ⟨_, hR, fun hh => by cases hh⟩, Kpt.refl _ _⟩
end
def Bin.rdr (R TB DT : Nat) (K : Bin.Ctx) (n : Int) (tl : List Value) : Rdr Bin.St where
 R := R
 pr := Bin.pr K
 M := fun _ i => i = R ∨ i = TB ∨ i = DT
 Inv := fun s w => RdP R TB DT K.c.b K.c n tl s w ∧ DT < w.heap.size
section
variable {R TB DT : Nat} {K : Bin.Ctx} {n : Int} {tl : List Value} {rem : List UInt8} {w : World}
theorem Bin.gp {k : Int} {s' : List UInt8} {T KT SZ ID N : Int} {S : List UInt8} {e : Ending} {w' : World} (h : RdP R TB DT K.c.b K.c n tl rem w) (hD : DT < w.heap.size) (hg : GP R TB DT K.c n tl rem w k s' T KT SZ ID N S e w') :
  (Bin.rdr R TB DT K n tl).GP w k s' T KT SZ ID N S e w' := by
 obtain ⟨x, t, kt, size, id, N', S', rfl, hs, hx, ⟨r', h1, hl, hr⟩, hk, hv⟩ := hg
 refine ⟨x, t, kt, size, id, N', S', rfl, hs, hx, ⟨r', ⟨h1, Nat.lt_of_lt_of_le hD hk.size⟩, hr⟩, ⟨hk.weak (fun i _ e => .inr (.inl e.symm)), fun _ _ x => x⟩, fun hz => ?_⟩
 obtain ⟨v1, v2, v3, v4, v5, v6⟩ := hv hz
 refine ⟨v1, v2, v3, v4, v5, v6.weak (fun i _ hi => ⟨hi, ?_⟩)⟩
 have a1 := lt_of_heap h.blk
 have a2 : TB < w.heap.size := lt_of_cell h.tube.c0
 rintro (rfl | rfl | rfl) <;> omega
theorem Bin.rdr_ok : (Bin.rdr R TB DT K n tl).Ok where
 pr := Bin.ok K
 lt := by
  rintro s w ⟨h, hD⟩ i (rfl | rfl | rfl)
  ·exact lt_of_heap h.blk
  ·exact lt_of_cell h.tube.c0
  ·exact hD
 turn := by
  rintro s w w' N ⟨h, hD⟩ hk hN
  refine ⟨⟨⟨(hk.block R (lt_of_heap h.blk) (fun x => hN _ x (.inl rfl))).trans h.blk, h.tube.keep hk (fun x => hN _ x (.inr (.inl rfl))) (fun _ x => hN _ x (.inr (.inr rfl))), h.ne, h.cok, h.size⟩, Nat.lt_of_lt_of_le hD hk.size⟩, fun _ x => x⟩
 sc := fun {s w} t ht h => (rd_scalar K t ht h.1).mono (fun e w' hg => Bin.gp h.1 h.2 hg)
 sb := fun {s w} h _ => (rd_step 2 (by omega) (by omega) (by omega) h.1 (fun w h => bin_op2 h)).mono (fun e w' hg => Bin.gp h.1 h.2 hg)
 se := fun {s w} h _ => (rd_step 3 (by omega) (by omega) (by omega) h.1 (fun w h => bin_op3 h)).mono (fun e w' hg => Bin.gp h.1 h.2 hg)
 f := fun {s w} h => (rd_step 4 (by omega) (by omega) (by omega) h.1 (fun w h => bin_op4 h)).mono (fun e w' hg => Bin.gp h.1 h.2 hg)
 fe := fun {s w} h => (rd_step 5 (by omega) (by omega) (by omega) h.1 (fun w h => bin_op5 h)).mono (fun e w' hg => Bin.gp h.1 h.2 hg)
 m := fun {s w} h => (rd_step 7 (by omega) (by omega) (by omega) h.1 (fun w h => bin_op7 h)).mono (fun e w' hg => Bin.gp h.1 h.2 hg)
 me := fun {s w} h => (rd_step 8 (by omega) (by omega) (by omega) h.1 (fun w h => bin_op8 h)).mono (fun e w' hg => Bin.gp h.1 h.2 hg)
 l := fun {s w} h => (rd_step 9 (by omega) (by omega) (by omega) h.1 (fun w h => bin_op9 h)).mono (fun e w' hg => Bin.gp h.1 h.2 hg)
 le := fun {s w} h => (rd_step 10 (by omega) (by omega) (by omega) h.1 (fun w h => bin_op10 h)).mono (fun e w' hg => Bin.gp h.1 h.2 hg)
 t := fun {s w} h => (rd_step 11 (by omega) (by omega) (by omega) h.1 (fun w h => bin_op11 h)).mono (fun e w' hg => Bin.gp h.1 h.2 hg)
 te := fun {s w} h => (rd_step 12 (by omega) (by omega) (by omega) h.1 (fun w h => bin_op12 h)).mono (fun e w' hg => Bin.gp h.1 h.2 hg)
end
def Bin.K0 (c : Cfg) : Bin.Ctx := ⟨⟨0, 0, 0, 0, 0⟩, 0, 0, 0, 0, none, c⟩
theorem Sk.cond {k x : Int} (h : Sk k x) (hx : ¬ x = 0) (A : Int) : Sk (if k = 0 then A else k) x := by
 by_cases hk : k = 0
 ·subst hk
  rcases h with h | ⟨_, h⟩ | h
  ·exact .inl h
  ·exact absurd rfl h.1
  ·exact absurd h hx
 ·rw [if_neg hk]; exact h
theorem limits_s (pr : Int) (c : Cfg) (w : World) : Calls Tryz.prog 108 #[confV pr c] w fun e w' => ∃ fr sw, e = .returned (.tuple #[.int .i32 c.maxMsg, .int .i32 fr, .int .i32 c.maxCont, .bool c.strict, .bool sw]) ∧ Keep (fun _ => False) w w' := by
 by_cases hp : c.plain = true
 ·have h1 : c.maxMsg = 104857600 := by simp [Cfg.maxMsg, hp]
  have h2 : c.maxCont = 2147483647 := by simp [Cfg.maxCont, hp]
  have h3 : c.strict = false := by simp [Cfg.strict, hp]
  rw [h1, h2, h3]
  clear h1 h2 h3
  go_enter Tryz.func108, Tryz.ntmps108
  go_wp2_with fail
  go_returns
  exact ⟨_, _, rfl, (Keep.refl _ w).alloc _⟩
 ·have hp0 : c.plain = false := by simpa using hp
  have h3 : c.strict = c.sr := by simp [Cfg.strict, hp0]
  obtain ⟨m, hm⟩ : ∃ m, c.maxMsg = m := ⟨_, rfl⟩
  obtain ⟨t, ht⟩ : ∃ t, c.maxCont = t := ⟨_, rfl⟩
  rw [hm, ht, h3]
  clear h3
  by_cases hm0 : 0 < c.msg
  ·have e1 : m = c.msg := by rw [← hm]; simp [Cfg.maxMsg, hp0]; omega
   rw [e1]
   by_cases ht0 : 0 < c.cont
   ·have e2 : t = c.cont := by rw [← ht]; simp [Cfg.maxCont, hp0]; omega
    rw [e2]
    clear hm ht e1 e2 hp
    go_enter Tryz.func108, Tryz.ntmps108
    go_wp2_with fail
    all_goals (go_quiet (fail))
    all_goals (go_wp2_with fail)
    all_goals go_returns
    all_goals exact ⟨_, _, rfl, ((Keep.refl _ w).alloc _).drewN _⟩
   ·have e2 : t = 2147483647 := by rw [← ht]; simp [Cfg.maxCont, hp0]; omega
    rw [e2]
    clear hm ht e1 e2 hp
    go_enter Tryz.func108, Tryz.ntmps108
    go_wp2_with fail
    all_goals (go_quiet (fail))
    all_goals (go_wp2_with fail)
    all_goals go_returns
    all_goals exact ⟨_, _, rfl, ((Keep.refl _ w).alloc _).drewN _⟩
  ·have e1 : m = 104857600 := by rw [← hm]; simp [Cfg.maxMsg, hp0]; omega
   rw [e1]
   by_cases ht0 : 0 < c.cont
   ·have e2 : t = c.cont := by rw [← ht]; simp [Cfg.maxCont, hp0]; omega
    rw [e2]
    clear hm ht e1 e2 hp
    go_enter Tryz.func108, Tryz.ntmps108
    go_wp2_with fail
    all_goals (go_quiet (fail))
    all_goals (go_wp2_with fail)
    all_goals go_returns
    all_goals exact ⟨_, _, rfl, ((Keep.refl _ w).alloc _).drewN _⟩
   ·have e2 : t = 2147483647 := by rw [← ht]; simp [Cfg.maxCont, hp0]; omega
    rw [e2]
    clear hm ht e1 e2 hp
    go_enter Tryz.func108, Tryz.ntmps108
    go_wp2_with fail
    all_goals (go_quiet (fail))
    all_goals (go_wp2_with fail)
    all_goals go_returns
    all_goals exact ⟨_, _, rfl, ((Keep.refl _ w).alloc _).drewN _⟩
section
variable {R TB DT : Nat} {c : Cfg} {n : Int} {tl : List Value} {rem : List UInt8} {w : World}
theorem gp_ret {f : Func} {slot : Nat} {a : Act} {U : Nat} {k x t kt size id nn T KT SZ ID N : Int} {S' : Value} {S r' s' : List UInt8} {w1 : World} {v0 v1 v2' v3 v4 v5 v6 : Value} (hf : f.results = #[.cell slot 75]) (hd : a.defers = []) (ha : a.tmps[slot]?.getD undef = .pointer (some ⟨U, 0, none⟩))
  (hR : RdP R TB DT c.b c n tl rem w) (h1 : RdP R TB DT c.b c n tl r' w1) (hk : Keep (TB = ·) w w1) (hU : w.heap.size = U) (hle : r'.length ≤ rem.length) (HU : w1.heap[U]? = some (.cells #[v0, v1, v2', v3, v4, v5, v6] 75 (0, 0))) (hs : ∃ a m cc, S' = .slice a m cc)
  (hx : Sk k x) (hv : x = 0 → r' = s' ∧ t = T ∧ kt = KT ∧ size = SZ ∧ id = ID ∧ nn = N ∧ BytesAt (U + 1 ≤ ·) w1 S' S) : bodyPost Tryz.prog f (GP R TB DT c n tl rem w k s' T KT SZ ID N S) Exit.ret a (gotW w1 U x t kt size id nn S') := by
 obtain ⟨h9, hk9⟩ := RdP.got hR h1 hk hU hle x t kt size id nn S'
 exact ret_got (U := U) hf hd ha (got_set HU _ _ _ _ _ _ _) ⟨_, _, _, _, _, _, _, rfl, hs, hx, ⟨_, h9, hle, fun hz => (hv hz).1⟩, hk9, fun hz => ⟨(hv hz).2.1, (hv hz).2.2.1, (hv hz).2.2.2.1, (hv hz).2.2.2.2.1, (hv hz).2.2.2.2.2.1, BytesAt.got (hv hz).2.2.2.2.2.2 hU _ _ _ _ _ _ _⟩⟩
theorem numZ4 {s : List UInt8} (h : 4 ≤ s.length) : numZ (s.take 4) = wrap32 (Lib.beNat (s.take 4)) := numZ_four _ (by rw [List.length_take]; omega)
theorem strN_bd (s : List UInt8) : -2147483648 ≤ strN s ∧ strN s ≤ 2147483647 := by simp only [strN, wrap32]; omega
set_option maxRecDepth 100000 in
theorem rd_msg (hR : RdP R TB DT c.b c n tl rem w) : Calls Tryz.prog 116 #[.pointer (some ⟨R, 0, none⟩)] w (GP R TB DT c n tl rem w (bmK rem c) (bmS rem) (bmT rem) 0 0 0 (bmN rem) (bmB rem)) := by
 have hTU : TB < w.heap.size := lt_of_cell hR.tube.c0
 have hk0 : Keep (fun _ => False) w (w.alloc (.cells zGot 75)) := (Keep.refl _ w).alloc _
 have hU0 := heap_alloc_new w (.cells zGot 75)
 have HH := hdd hR
 go_enter Tryz.func116, Tryz.ntmps116
 go_wp2_with fail
 have hsA : (w.alloc (.cells zGot 75)).heap.size = w.heap.size + 1 := by simp
 generalize w.alloc (.cells zGot 75) = wA at *
 obtain ⟨U, hU⟩ : ∃ U, w.heap.size = U := ⟨_, rfl⟩
 rw [hU] at hU0 hTU hsA ⊢
 have HUS := hdd hU
 clear hU
 refine (rd_whole (hR.fresh hk0) 4 (by omega)).mono ?_
 rintro e w1 ⟨z, rfl, h1, hk1, hz⟩
 have HK1 := hdd ((hk0.weak (fun _ _ x => x.elim) : Keep (TB = ·) w wA).then hk1)
 have HU1 := hdd ((hk1.block U (lt_of_heap hU0) (by omega)).trans hU0)
 have hs1 : U + 1 ≤ w1.heap.size := by have := hk1.size; omega
 clear hk1 hU0
 by_cases hl : rem.length < 4
 ·have e1 : fullK 4 rem = 10 := by simp [fullK]; omega
  have HKK : Hid (bmK rem c = 10) := hdd (by simp only [bmK, if_pos hl])
  obtain ⟨u0, u1, u2, u3, u4, u5, u6⟩ := got_cells HU1.out
  obtain ⟨f0, f1, f2, f3, f4, f5, f6⟩ := got_free HU1.out
  rw [e1]
  clear hz e1
  go_wp2_with fail
  exact gp_ret (U := U) Tryz.results116 rfl rfl HH.out h1 HK1.out HUS.out (by simp) HU1.out ⟨_, _, _, rfl⟩ (by rw [HKK.out]; exact .inr (.inr rfl)) (fun hh => by cases hh)
 ·have e1 : fullK 4 rem = 0 := by simp [fullK]; omega
  have hz2 : z = strN rem := (hz (by omega)).trans (numZ_four _ (by simp; omega))
  subst hz2
  obtain ⟨nn, hnn⟩ : ∃ nn, strN rem = nn := ⟨_, rfl⟩
  have hb1 := strN_bd rem
  rw [hnn] at hb1 ⊢
  obtain ⟨hlo, hhi⟩ := hb1
  rw [e1]
  have HN := hdd hnn
  have HL := hdd hl
  clear hz e1 hnn hl
  obtain ⟨c0, c1, c2, c3, c4, c5, c6, c7, c8⟩ := h1.cells
  go_wp2_with fail
  refine (limits_s c.b c _).mono ?_
  rintro e w2 ⟨fr, sw, rfl, hk2⟩
  have h2 := h1.fresh hk2
  have HK2 := hdd (HK1.out.then (hk2.weak (fun _ _ x => x.elim)))
  have HU2 := hdd ((hk2.block U (lt_of_heap HU1.out) id).trans HU1.out)
  have hs2 : U + 1 ≤ w2.heap.size := by have := hk2.size; omega
  obtain ⟨u0, u1, u2, u3, u4, u5, u6⟩ := got_cells HU2.out
  obtain ⟨f0, f1, f2, f3, f4, f5, f6⟩ := got_free HU2.out
  clear c0 c1 c2 c3 c4 c5 c6 c7 c8 hk2 h1
  by_cases hn0 : nn < 0
  ·have ha := and255_w64 nn
   obtain ⟨q, hq⟩ : ∃ q, lo8 nn = q := ⟨_, rfl⟩
   have hqb := lo8_bd nn
   rw [hq] at ha hqb
   obtain ⟨hq0, hq1⟩ := hqb
   have HBB : Hid (bmB rem = strS (rem.drop 4)) := hdd (by simp only [bmB, HN.out, if_pos hn0])
   have HTT : Hid (bmT rem = q) := hdd (by simp only [bmT, HN.out, if_pos hn0, hq])
   have HNN : Hid (bmN rem = wrap32 (Lib.beNat ((strRem (rem.drop 4)).take 4))) := hdd (by simp only [bmN, HN.out, if_pos hn0])
   have HSS : Hid (bmS rem = (strRem (rem.drop 4)).drop 4) := hdd (by simp only [bmS, HN.out, if_pos hn0])
   clear hq
   by_cases hver : bits BinOp.and IntKind.i64 nn 4294901760 = 2147549184
   ·have HKA : Hid (bmK rem c = if strK (rem.drop 4) c = 0 then fullK 4 (strRem (rem.drop 4)) else strK (rem.drop 4) c) := hdd (by simp only [bmK, if_neg HL.out, HN.out, if_pos hn0, verN, if_pos hver])
    go_wp2_with fail
    refine (rd_whole h2 4 (by omega)).mono ?_
    rintro e w3 ⟨z, rfl, h3, hk3, hz⟩
    have HK3 := hdd (HK2.out.then hk3)
    have HU3 := hdd ((hk3.block U (lt_of_heap HU2.out) (by omega)).trans HU2.out)
    have hs3 : U + 1 ≤ w3.heap.size := by have := hk3.size; omega
    clear u0 u1 u2 u3 u4 u5 u6 f0 f1 f2 f3 f4 f5 f6
    obtain ⟨u0, u1, u2, u3, u4, u5, u6⟩ := got_cells HU3.out
    obtain ⟨f0, f1, f2, f3, f4, f5, f6⟩ := got_free HU3.out
    clear hk3
    by_cases hl2 : (rem.drop 4).length < 4
    ·have e1 : fullK 4 (rem.drop 4) = 10 := by unfold fullK; rw [if_neg (by omega)]
     have HKK : Hid (bmK rem c = 10) := hdd (by rw [HKA.out, show strK (rem.drop 4) c = 10 by simp only [strK, if_pos hl2]]; simp)
     rw [e1]
     clear hz e1
     go_wp2_with fail
     exact gp_ret (U := U) Tryz.results116 rfl rfl HH.out h3 HK3.out HUS.out (by simp <;> omega) HU3.out ⟨_, _, _, rfl⟩ (by rw [HKK.out]; exact .inr (.inr rfl)) (fun hh => by cases hh)
    ·have e1 : fullK 4 (rem.drop 4) = 0 := by unfold fullK; rw [if_pos (by omega)]
     have hz2 : z = strN (rem.drop 4) := (hz (by omega)).trans (numZ_four _ (by rw [List.length_take]; omega))
     subst hz2
     have HSK : Hid (strK (rem.drop 4) c = if sizeK (strN (rem.drop 4)) c = 0 then fullK (strN (rem.drop 4)).toNat ((rem.drop 4).drop 4) else sizeK (strN (rem.drop 4)) c) := hdd (by simp only [strK, if_neg hl2])
     have HSR : Hid (strRem (rem.drop 4) = ((rem.drop 4).drop 4).drop (strN (rem.drop 4)).toNat) := hdd rfl
     have HSS' : Hid (strS (rem.drop 4) = ((rem.drop 4).drop 4).take (strN (rem.drop 4)).toNat) := hdd rfl
     obtain ⟨sz, hsz⟩ : ∃ sz, strN (rem.drop 4) = sz := ⟨_, rfl⟩
     have hb2 := strN_bd (rem.drop 4)
     rw [hsz] at hb2 HSK HSR HSS' ⊢
     obtain ⟨hlo2, hhi2⟩ := hb2
     rw [e1]
     clear hz e1 hsz hl2
     go_wp2_with fail
     refine (rd_bytes h3 sz hlo2 hhi2).mono ?_
     rintro e w4 ⟨S, x, rfl, hx, ⟨r', h4, hle, hr⟩, hk4, hb, Sa, Sm, Sc, rfl⟩
     have HK4 := hdd (HK3.out.then hk4)
     have HU4 := hdd ((hk4.block U (lt_of_heap HU3.out) (by omega)).trans HU3.out)
     have hs4 : U + 1 ≤ w4.heap.size := by have := hk4.size; omega
     have HLE := hdd (show r'.length ≤ rem.length by simp at hle; omega)
     clear u0 u1 u2 u3 u4 u5 u6 f0 f1 f2 f3 f4 f5 f6
     obtain ⟨u0, u1, u2, u3, u4, u5, u6⟩ := got_cells HU4.out
     obtain ⟨f0, f1, f2, f3, f4, f5, f6⟩ := got_free HU4.out
     have HX : Hid (Sk (strK (rem.drop 4) c) x) := hdd (HSK.out ▸ hx)
     clear hx hk4 hle
     by_cases hx0 : x = 0
     ·subst hx0
      have hr1 := hr rfl
      have HB := hdd ((hb rfl).weak (A' := (U + 1 ≤ ·)) (fun i _ hi => by omega))
      rw [← HSR.out] at hr1
      subst hr1
      clear hr hb
      go_wp2_with fail
      refine (rd_whole h4 4 (by omega)).mono ?_
      rintro e w5 ⟨z, rfl, h5, hk5, hz⟩
      have HK5 := hdd (HK4.out.then hk5)
      have HU5 := hdd ((hk5.block U (lt_of_heap HU4.out) (by omega)).trans HU4.out)
      have HB5 := hdd (HB.out.keep hk5 (fun i hi e => by omega))
      clear u0 u1 u2 u3 u4 u5 u6 f0 f1 f2 f3 f4 f5 f6
      obtain ⟨u0, u1, u2, u3, u4, u5, u6⟩ := got_cells HU5.out
      obtain ⟨f0, f1, f2, f3, f4, f5, f6⟩ := got_free HU5.out
      have HKB : Hid (bmK rem c = fullK 4 (strRem (rem.drop 4))) := hdd (HKA.out.trans (if_pos (Sk.zero HX.out)))
      have HZ := hdd hz
      clear hk5 hz
      obtain ⟨kk, hkk⟩ : ∃ kk, fullK 4 (strRem (rem.drop 4)) = kk := ⟨_, rfl⟩
      rw [hkk]
      have HKKK := hdd hkk
      clear hkk
      go_wp2_with fail
      exact gp_ret (U := U) Tryz.results116 rfl rfl HH.out h5 HK5.out HUS.out (by have := HLE.out; simp; omega) HU5.out ⟨_, _, _, rfl⟩ (by rw [HKB.out, HKKK.out]; exact .inr (.inr rfl)) (fun hh => ⟨HSS.out.symm, HTT.out.symm, rfl, rfl, rfl, by rw [HNN.out]; exact (HZ.out (fullK_len (HKKK.out.trans hh))).trans (numZ4 (fullK_len (HKKK.out.trans hh))), by rw [HBB.out, HSS'.out]; exact HB5.out⟩)
     ·have hxb : (x == 0) = false := by simpa using hx0
      have HX0 := hdd hx0
      clear hr hb
      go_wp2_with fail
      exact gp_ret (U := U) Tryz.results116 rfl rfl HH.out h4 HK4.out HUS.out HLE.out HU4.out ⟨_, _, _, rfl⟩ (by rw [HKA.out]; exact HX.out.cond HX0.out _) (fun hh => absurd hh HX0.out)
   ·have HKK : Hid (bmK rem c = 14) := hdd (by simp only [bmK, if_neg HL.out, HN.out, if_pos hn0, verN, if_neg hver])
    go_wp2_with fail
    exact gp_ret (U := U) Tryz.results116 rfl rfl HH.out h2 HK2.out HUS.out (by simp) HU2.out ⟨_, _, _, rfl⟩ (by rw [HKK.out]; exact .inr (.inr rfl)) (fun hh => by cases hh)
  ·have HBB : Hid (bmB rem = strS rem) := hdd (by simp only [bmB, HN.out, if_neg hn0])
   have HTT : Hid (bmT rem = match strRem rem with | b :: _ => IntKind.i8.wrap b.toNat | [] => 0) := hdd (by simp only [bmT, HN.out, if_neg hn0]; rfl)
   have HNN : Hid (bmN rem = wrap32 (Lib.beNat (((strRem rem).drop 1).take 4))) := hdd (by simp only [bmN, HN.out, if_neg hn0])
   have HSS : Hid (bmS rem = ((strRem rem).drop 1).drop 4) := hdd (by simp only [bmS, HN.out, if_neg hn0])
   have HKA : Hid (bmK rem c = if c.strict = true then 14 else if strK rem c = 0 then (if endK 1 (strRem rem) = 0 then fullK 4 ((strRem rem).drop 1) else endK 1 (strRem rem)) else strK rem c) := hdd (by simp only [bmK, if_neg HL.out, HN.out, if_neg hn0])
   have HSK : Hid (strK rem c = if sizeK nn c = 0 then fullK nn.toNat (rem.drop 4) else sizeK nn c) := hdd (by simp only [strK, if_neg HL.out, HN.out])
   have HSR : Hid (strRem rem = (rem.drop 4).drop nn.toNat) := hdd (by simp only [strRem, HN.out])
   have HSTR : Hid (strS rem = (rem.drop 4).take nn.toNat) := hdd (by simp only [strS, HN.out])
   by_cases hst : c.strict = true
   ·have HKK : Hid (bmK rem c = 14) := hdd (HKA.out.trans (if_pos hst))
    rw [hst]
    go_wp2_with fail
    exact gp_ret (U := U) Tryz.results116 rfl rfl HH.out h2 HK2.out HUS.out (by simp) HU2.out ⟨_, _, _, rfl⟩ (by rw [HKK.out]; exact .inr (.inr rfl)) (fun hh => by cases hh)
   ·have hst0 : c.strict = false := by simpa using hst
    have HKB : Hid (bmK rem c = if strK rem c = 0 then (if endK 1 (strRem rem) = 0 then fullK 4 ((strRem rem).drop 1) else endK 1 (strRem rem)) else strK rem c) := hdd (HKA.out.trans (if_neg hst))
    rw [hst0]
    clear hst hst0
    go_wp2_with fail
    refine (rd_bytes h2 nn hlo hhi).mono ?_
    rintro e w4 ⟨S, x, rfl, hx, ⟨r', h4, hle, hr⟩, hk4, hb, Sa, Sm, Sc, rfl⟩
    have HK4 := hdd (HK2.out.then hk4)
    have HU4 := hdd ((hk4.block U (lt_of_heap HU2.out) (by omega)).trans HU2.out)
    have hs4 : U + 1 ≤ w4.heap.size := by have := hk4.size; omega
    have HLE := hdd (show r'.length ≤ rem.length by simp at hle; omega)
    clear u0 u1 u2 u3 u4 u5 u6 f0 f1 f2 f3 f4 f5 f6
    obtain ⟨u0, u1, u2, u3, u4, u5, u6⟩ := got_cells HU4.out
    obtain ⟨f0, f1, f2, f3, f4, f5, f6⟩ := got_free HU4.out
    have HX : Hid (Sk (strK rem c) x) := hdd (HSK.out ▸ hx)
    clear hx hk4 hle
    by_cases hx0 : x = 0
    ·subst hx0
     have hr1 := hr rfl
     have HB := hdd ((hb rfl).weak (A' := (U + 1 ≤ ·)) (fun i _ hi => by omega))
     rw [← HSR.out] at hr1
     subst hr1
     have HKC : Hid (bmK rem c = if endK 1 (strRem rem) = 0 then fullK 4 ((strRem rem).drop 1) else endK 1 (strRem rem)) := hdd (HKB.out.trans (if_pos (Sk.zero HX.out)))
     clear hr hb
     go_wp2_with fail
     refine (rd_one h4).mono ?_
     rintro e w5 ⟨bt, rfl, h5, hk5, hbt⟩
     have HK5 := hdd (HK4.out.then hk5)
     have HU5 := hdd ((hk5.block U (lt_of_heap HU4.out) (by omega)).trans HU4.out)
     have HB5 := hdd (HB.out.keep hk5 (fun i hi e => by omega))
     have hs5 : U + 1 ≤ w5.heap.size := by have := hk5.size; omega
     clear u0 u1 u2 u3 u4 u5 u6 f0 f1 f2 f3 f4 f5 f6
     obtain ⟨u0, u1, u2, u3, u4, u5, u6⟩ := got_cells HU5.out
     obtain ⟨f0, f1, f2, f3, f4, f5, f6⟩ := got_free HU5.out
     clear hk5
     rcases endK1_cases (strRem rem) with ⟨hq, hq2⟩ | ⟨hq, b, r, hq2⟩
     ·have HKD : Hid (bmK rem c = 1) := hdd (by rw [HKC.out, hq]; simp)
      rw [hq]
      clear hbt
      go_wp2_with fail
      exact gp_ret (U := U) Tryz.results116 rfl rfl HH.out h5 HK5.out HUS.out (by have := HLE.out; simp; omega) HU5.out ⟨_, _, _, rfl⟩ (by rw [HKD.out]; exact .inr (.inr rfl)) (fun hh => by cases hh)
     ·have HKD : Hid (bmK rem c = fullK 4 ((strRem rem).drop 1)) := hdd (by rw [HKC.out, hq]; simp)
      have hbb := hbt b r hq2
      subst hbb
      obtain ⟨tt, htt⟩ : ∃ tt, IntKind.i8.wrap (b.toNat : Int) = tt := ⟨_, rfl⟩
      have htb := i8_bd2 (b.toNat : Int)
      rw [htt] at htb
      obtain ⟨htb1, htb2⟩ := htb
      have HTT2 : Hid (bmT rem = tt) := hdd (by rw [HTT.out, hq2, ← htt])
      have hb8 := b.toNat_lt
      rw [hq]
      clear hbt hq hq2
      go_wp2_with fail
      refine (rd_whole h5 4 (by omega)).mono ?_
      rintro e w6 ⟨z, rfl, h6, hk6, hz⟩
      have HK6 := hdd (HK5.out.then hk6)
      have HU6 := hdd ((hk6.block U (lt_of_heap HU5.out) (by omega)).trans HU5.out)
      have HB6 := hdd (HB5.out.keep hk6 (fun i hi e => by omega))
      clear u0 u1 u2 u3 u4 u5 u6 f0 f1 f2 f3 f4 f5 f6
      obtain ⟨u0, u1, u2, u3, u4, u5, u6⟩ := got_cells HU6.out
      obtain ⟨f0, f1, f2, f3, f4, f5, f6⟩ := got_free HU6.out
      have HZ := hdd hz
      clear hk6 hz
      obtain ⟨kk, hkk⟩ : ∃ kk, fullK 4 ((strRem rem).drop 1) = kk := ⟨_, rfl⟩
      rw [hkk]
      have HKKK := hdd hkk
      clear hkk
      go_wp2_with fail
      exact gp_ret (U := U) Tryz.results116 rfl rfl HH.out h6 HK6.out HUS.out (by have := HLE.out; simp; omega) HU6.out ⟨_, _, _, rfl⟩ (by rw [HKD.out, HKKK.out]; exact .inr (.inr rfl)) (fun hh => ⟨HSS.out.symm, HTT2.out.symm, rfl, rfl, rfl, by rw [HNN.out]; exact (HZ.out (fullK_len (HKKK.out.trans hh))).trans (numZ4 (fullK_len (HKKK.out.trans hh))), by rw [HBB.out, HSTR.out]; exact HB6.out⟩)
    ·have HX0 := hdd hx0
     clear hr hb
     go_wp2_with fail
     exact gp_ret (U := U) Tryz.results116 rfl rfl HH.out h4 HK4.out HUS.out HLE.out HU4.out ⟨_, _, _, rfl⟩ (by rw [HKB.out]; exact HX.out.cond HX0.out _) (fun hh => absurd hh HX0.out)
set_option maxRecDepth 100000 in
theorem bin_op0 (hR : RdP R TB DT c.b c n tl rem w) : Calls Tryz.prog 83 #[.pointer (some ⟨R, 0, none⟩), .int .i64 0] w (GP R TB DT c n tl rem w (bmK rem c) (bmS rem) (bmT rem) 0 0 0 (bmN rem) (bmB rem)) := by
 have hTU : TB < w.heap.size := lt_of_cell hR.tube.c0
 have hk0 : Keep (fun _ => False) w (w.alloc (.cells zGot 75)) := (Keep.refl _ w).alloc _
 have hU0 := heap_alloc_new w (.cells zGot 75)
 go_enter Tryz.func83, Tryz.ntmps83
 go_wp2_with fail
 obtain ⟨U, hU⟩ : ∃ U, w.heap.size = U := ⟨_, rfl⟩
 have hUs : (w.alloc (.cells zGot 75)).heap.size = U + 1 := by simp [hU]
 generalize w.alloc (.cells zGot 75) = wA at *
 rw [hU] at hU0 hTU ⊢
 refine (rd_msg (hR.fresh hk0)).mono ?_
 rintro e w1 ⟨x, t, kt, size, id, N', S', rfl, ⟨Sa, Sm, Sc, rfl⟩, hx, ⟨r', h1, hle, hr⟩, hk1, hv⟩
 have HU := hdd ((hk1.block U (lt_of_heap hU0) (by omega)).trans hU0)
 have HX := hdd hx
 have HR := hdd hr
 have HV := hdd hv
 have HLE := hdd hle
 clear hx hr hv hle
 obtain ⟨u0, u1, u2, u3, u4, u5, u6⟩ := got_cells HU.out
 obtain ⟨f0, f1, f2, f3, f4, f5, f6⟩ := got_free HU.out
 go_wp2_with fail
 exact gp_ret (U := U) Tryz.results83 rfl rfl hR h1 ((hk0.weak (fun _ _ x => x.elim)).then hk1) hU HLE.out HU.out ⟨_, _, _, rfl⟩ HX.out (fun hz => ⟨HR.out hz, (HV.out hz).1, (HV.out hz).2.1, (HV.out hz).2.2.1, (HV.out hz).2.2.2.1, (HV.out hz).2.2.2.2.1, by rw [← hUs]; exact (HV.out hz).2.2.2.2.2⟩)
set_option maxRecDepth 100000 in
theorem bin_op1 (hR : RdP R TB DT c.b c n tl rem w) : Calls Tryz.prog 83 #[.pointer (some ⟨R, 0, none⟩), .int .i64 1] w (GP R TB DT c n tl rem w 0 rem 0 0 0 0 0 []) := by
 have hk0 : Keep (fun _ => False) w (w.alloc (.cells zGot 75)) := (Keep.refl _ w).alloc _
 have hU0 := heap_alloc_new w (.cells zGot 75)
 go_enter Tryz.func83, Tryz.ntmps83
 go_wp2_with fail
 exact ret_got (U := w.heap.size) (k := 0) (t := 0) (kt := 0) (size := 0) (id := 0) (n := 0) (s := .slice none 0 0) Tryz.results83 rfl rfl hU0 ⟨0, 0, 0, 0, 0, 0, .slice none 0 0, rfl, ⟨_, _, _, rfl⟩, .inr (.inr rfl), ⟨_, hR.fresh hk0, Nat.le_refl _, fun _ => rfl⟩, hk0.weak (fun _ _ x => x.elim), fun _ => ⟨rfl, rfl, rfl, rfl, rfl, BytesAt.nil _ _⟩⟩
end
end Go.Proofs.YtjekbomlpcdojaaGreatDoor
