/- Part 21 of the proof: Sp11, Rd0, Pm0, Rk2, Rk3, Rk4, Rk5, Rb0, SpMg. -/
import Derived.Test.YthehmlbolajljaaGreatDoorA16
import Derived.Test.YthehmlbolajljaaGreatDoorA10
import Derived.Test.YthehmlbolajljaaGreatDoorA8
import Derived.Deep.LoopGhost
set_option linter.unusedVariables false
set_option linter.unusedSimpArgs false
set_option linter.unusedSectionVars false
namespace Go.Proofs.YthehmlbolajljaaGreatDoor
open Go Go.RowKit
def opOf (t : Int) : Int := if t = 2 then 13 else if t = 3 then 14 else if t = 6 then 15 else if t = 8 then 16 else if t = 10 then 17 else if t = 4 then 18 else if t = 11 then 19 else if t = 16 then 21 else -1
def manyOf (t : Int) : Int := if t = 13 then 7 else if t = 15 then 9 else 11
set_option maxHeartbeats 2000000 in
theorem spec_op (t : Int) (w : World) : Calls Tryz.prog 90 #[.int .i64 t] w fun e w' => e = .returned (.int .i64 (opOf t)) ∧ w = w' := by
  go_enter Tryz.func90, Tryz.ntmps90
  go_wp2_with fail
  all_goals
    go_ret
    refine ⟨?_, rfl⟩
    simp_all [opOf]
set_option maxHeartbeats 2000000 in
theorem spec_many (t : Int) (w : World) : Calls Tryz.prog 115 #[.int .i64 t] w fun e w' => e = .returned (.int .i64 (manyOf t)) ∧ w = w' := by
  go_enter Tryz.func115, Tryz.ntmps115
  go_wp2_with fail
  all_goals
    go_ret
    refine ⟨?_, rfl⟩
    simp_all [manyOf]
theorem opOf_sc (t : Int) : (isSc t = true ∧ 13 ≤ opOf t ∧ opOf t ≤ 21) ∨ (isSc t = false ∧ opOf t = -1) := by
  unfold opOf isSc
  repeat' split
  all_goals simp_all
section
variable {R TB DT : Nat} {n : Int} {tl : List Value} {rem : List UInt8} {w : World}
theorem rd_scalar (K : Bin.Ctx) (t : Int) (ht : isSc t = true) (hR : RdP R TB DT K.c.b K.c n tl rem w) :
    Calls Tryz.prog 63 #[.pointer (some ⟨R, 0, none⟩), .agg (stepA (opOf t))] w (GP R TB DT K.c n tl rem w ((Bin.pr K).scK t rem) ((Bin.pr K).scS t rem) 0 0 0 0 ((Bin.pr K).scN t rem) ((Bin.pr K).scB t rem)) := by
  have ht : t = 2 ∨ t = 3 ∨ t = 6 ∨ t = 8 ∨ t = 10 ∨ t = 4 ∨ t = 11 ∨ t = 16 := by simpa [isSc, or_assoc] using ht
  rcases ht with rfl | rfl | rfl | rfl | rfl | rfl | rfl | rfl
  · rw [Bin.k2, Bin.s2]
    exact rd_step 13 (by omega) (by omega) (by omega) hR (fun w h => bin_op13 h)
  · rw [Bin.k3, Bin.s3]
    exact rd_step 14 (by omega) (by omega) (by omega) hR (fun w h => bin_op14 h)
  · rw [Bin.k6, Bin.s6, Bin.n6]
    exact rd_step 15 (by omega) (by omega) (by omega) hR (fun w h => bin_op15 h)
  · rw [Bin.k8, Bin.s8, Bin.n8]
    exact rd_step 16 (by omega) (by omega) (by omega) hR (fun w h => bin_op16 h)
  · rw [Bin.k10, Bin.s10, Bin.n10]
    exact rd_step 17 (by omega) (by omega) (by omega) hR (fun w h => bin_op17 h)
  · rw [Bin.k4, Bin.s4, Bin.n4]
    exact rd_step 18 (by omega) (by omega) (by omega) hR (fun w h => bin_op18 h)
  · rw [Bin.k11, Bin.s11, Bin.b11]
    exact rd_step 19 (by omega) (by omega) (by omega) hR (fun w h => bin_op19 h)
  · rw [Bin.k16, Bin.s16, Bin.b16]
    exact rd_step 21 (by omega) (by omega) (by omega) hR (fun w h => bin_op21 h)
end
end Go.Proofs.YthehmlbolajljaaGreatDoor

namespace Go.Proofs.YthehmlbolajljaaGreatDoor
open Go Go.RowKit
structure Rdr (σ : Type) where
  R : Nat
  pr : Pr σ
  M : World → Nat → Prop
  Inv : σ → World → Prop
def Rdr.GP {σ : Type} (r : Rdr σ) (w : World) (k : Int) (s' : σ) (T KT SZ ID N : Int) (S : List UInt8) (e : Ending) (w' : World) : Prop :=
  ∃ x t kt size id N' S', e = .returned (gotV x t kt size id N' S') ∧ (∃ a m cc, S' = .slice a m cc) ∧ Sk k x ∧ (∃ s2, r.Inv s2 w' ∧ (x = 0 → s2 = s')) ∧ Kpt r.M w w' ∧
    (x = 0 → t = T ∧ kt = KT ∧ size = SZ ∧ id = ID ∧ N' = N ∧ BytesAt (fun i => w.heap.size ≤ i ∧ ¬ r.M w' i) w' S' S)
abbrev Rdr.Step {σ : Type} (r : Rdr σ) (op : Int) (w : World) (Q : Ending → World → Prop) : Prop := Calls Tryz.prog 63 #[.pointer (some ⟨r.R, 0, none⟩), .agg (stepA op)] w Q
structure Rdr.Ok {σ : Type} (r : Rdr σ) : Prop where
  pr : r.pr.Ok
  lt : ∀ {s : σ} {w : World}, r.Inv s w → ∀ i, r.M w i → i < w.heap.size
  turn : ∀ {s : σ} {w w' : World} {N : Nat → Prop}, r.Inv s w → Keep N w w' → (∀ i, N i → ¬ r.M w i) → r.Inv s w' ∧ ∀ i, r.M w' i → r.M w i
  sc : ∀ {s : σ} {w : World} (t : Int), isSc t = true → r.Inv s w → r.Step (opOf t) w (r.GP w (r.pr.scK t s) (r.pr.scS t s) 0 0 0 0 (r.pr.scN t s) (r.pr.scB t s))
  sb : ∀ {s : σ} {w : World}, r.Inv s w → r.pr.dep s < 1099511627776 → r.Step 2 w (r.GP w 0 (r.pr.sbS s) 0 0 0 0 0 [])
  se : ∀ {s : σ} {w : World}, r.Inv s w → r.pr.one ≤ r.pr.dep s → r.Step 3 w (r.GP w 0 (r.pr.seS s) 0 0 0 0 0 [])
  f : ∀ {s : σ} {w : World}, r.Inv s w → r.Step 4 w (r.GP w (r.pr.fK s) (r.pr.fS s) (r.pr.fT s) 0 0 (r.pr.fI s) 0 [])
  fe : ∀ {s : σ} {w : World}, r.Inv s w → r.Step 5 w (r.GP w 0 (r.pr.feS s) 0 0 0 0 0 [])
  m : ∀ {s : σ} {w : World}, r.Inv s w → r.Step 7 w (r.GP w (r.pr.mK s) (r.pr.mS s) (r.pr.mT s) (r.pr.mKT s) (r.pr.mN s) 0 0 [])
  me : ∀ {s : σ} {w : World}, r.Inv s w → r.Step 8 w (r.GP w 0 (r.pr.meS s) 0 0 0 0 0 [])
  l : ∀ {s : σ} {w : World}, r.Inv s w → r.Step 9 w (r.GP w (r.pr.lK s) (r.pr.lS s) (r.pr.lT s) 0 (r.pr.lN s) 0 0 [])
  le : ∀ {s : σ} {w : World}, r.Inv s w → r.Step 10 w (r.GP w 0 (r.pr.leS s) 0 0 0 0 0 [])
  t : ∀ {s : σ} {w : World}, r.Inv s w → r.Step 11 w (r.GP w (r.pr.lK s) (r.pr.lS s) (r.pr.lT s) 0 (r.pr.lN s) 0 0 [])
  te : ∀ {s : σ} {w : World}, r.Inv s w → r.Step 12 w (r.GP w 0 (r.pr.leS s) 0 0 0 0 0 [])
theorem Rdr.Ok.fresh {σ : Type} {r : Rdr σ} (ok : r.Ok) {s : σ} {w w' : World} (h : r.Inv s w) (k : Keep (fun _ => False) w w') : r.Inv s w' := (ok.turn h k (fun _ x => x.elim)).1
theorem Rdr.Ok.kept {σ : Type} {r : Rdr σ} (ok : r.Ok) {s : σ} {w w' : World} (h : r.Inv s w) (k : Keep (fun _ => False) w w') : Kpt r.M w w' :=
  ⟨k.weak (fun _ _ x => x.elim), fun i _ => (ok.turn h k (fun _ x => x.elim)).2 i⟩
theorem Rdr.Ok.new {σ : Type} {r : Rdr σ} (ok : r.Ok) {s : σ} {w w' : World} (h : r.Inv s w) (k : Keep (fun _ => False) w w') : ∀ i, w.heap.size ≤ i → ¬ r.M w' i := fun i hi x => by
  have := ok.lt h i ((ok.turn h k (fun _ x => x.elim)).2 i x)
  omega
theorem got_field0 (k t kt size id n : Int) (s : Value) (w : World) : (Instr.field 107 (gotV k t kt size id n s) 0).run Tryz.prog w = .ok (.int .i64 k) w := by kernel_rfl
section
variable {σ : Type} {r : Rdr σ} {s : σ} {w : World}
end
end Go.Proofs.YthehmlbolajljaaGreatDoor

namespace Go.Proofs.YthehmlbolajljaaGreatDoor
open Go Go.RowKit
structure Rp.Msg {St : Type} (K : Rp.Ctx St) (gK : St → Int) (gS : St → St) (gT gN : St → Int) (gB : St → List UInt8) (fb fe : FuncId) : Prop where
  mb : Rp.Meth K.T K.P "ReadMessageBegin" fb
  me : Rp.Meth K.T K.P "ReadMessageEnd" fe
  rb : ∀ {s : St} {w : World}, K.Inv s w → Calls Tryz.prog fb #[.pointer (some ⟨K.P, 0, none⟩), ctxV] w fun e w' => ∃ l t q ev, e = .returned (.tuple #[.string l, .int .i32 t, .int .i32 q, ev]) ∧ Rp.Post K w w' (gK s) ev (gS s) ∧ (gK s = 0 → l = ⟨(gB s).toArray⟩ ∧ t = gT s ∧ q = gN s)
  re : ∀ (p c : Value) (w : World), Calls Tryz.prog fe #[p, c] w fun e w' => e = .returned .nilIface ∧ w = w'
structure Pm (St : Type) where
  c : Cfg
  no : Int
  pr : Pr St
  st0 : List UInt8 → St
  rem : St → List UInt8
  gK : St → Int
  gS : St → St
  gT : St → Int
  gN : St → Int
  gB : St → List UInt8
  len : ∀ s, pr.len s = (rem s).length
  lt : (∀ t s, pr.scK t s < 50) ∧ (∀ s, pr.fK s < 50) ∧ (∀ s, pr.mK s < 50) ∧ ∀ s, pr.lK s < 50
  room0 : ∀ l : List UInt8, l.length ≤ 1099511627775 → pr.Room (st0 l)
  gS_room : ∀ s, pr.Room s → pr.Room (gS s)
  gN_w : ∀ s, IntKind.i32.wrap (gN s) = gN s
  gT_w : ∀ s, IntKind.i64.wrap (gT s) = gT s
  gB_le : ∀ l : List UInt8, l.length ≤ 140737488355328 → (⟨(gB (st0 l)).toArray⟩ : ByteArray).size ≤ 140737488355328
  made : ∀ {E : Env} {MB B D : Nat} {l : List UInt8} {w : World}, Glob E w → Mem E w MB B D l → l.length ≤ 140737488355328 → Calls Tryz.prog 27 #[confV no c, memV MB] w fun e w' =>
    ∃ (K : Rp.Ctx St) (fb fe : FuncId), e = .returned K.V ∧ K.E = E ∧ K.pr = pr ∧ K.Inv (st0 l) w' ∧ Keep (fun _ => False) w w' ∧ (∀ i, K.M w' i → B = i ∨ w.heap.size ≤ i) ∧
      (∀ s W, K.Inv s W → ∃ D', Mem E W MB B D' (rem s)) ∧ (∀ W, K.Some W → ∃ D' s', Mem E W MB B D' s' ∧ Glob E W) ∧ Rp.Msg K gK gS gT gN gB fb fe
  read : ∀ {A : Nat → Prop} (v : Value) (l : List UInt8) (w : World), BytesAt A w v l → l.length ≤ 140737488355328 → Calls Tryz.prog 32 #[confV no c, v] w fun e w' =>
    ∃ r : Rdr St, e = .returned (.pointer (some ⟨r.R, 0, none⟩)) ∧ r.Ok ∧ r.pr = pr ∧ r.Inv (st0 l) w' ∧ Keep (fun _ => False) w w' ∧ (∀ i, r.M w' i → w.heap.size ≤ i) ∧
      (∀ s w2, r.Inv s w2 → Calls Tryz.prog 34 #[.pointer (some ⟨r.R, 0, none⟩)] w2 fun e w3 => e = .returned (.int .i64 (r.pr.len s)) ∧ w2 = w3) ∧
      (∀ s w2, r.Inv s w2 → r.Step 0 w2 (r.GP w2 (gK s) (gS s) (gT s) 0 0 0 (gN s) (gB s))) ∧
      (∀ s w2, r.Inv s w2 → r.Step 1 w2 (r.GP w2 0 s 0 0 0 0 0 []))
end Go.Proofs.YthehmlbolajljaaGreatDoor

namespace Go.Proofs.YthehmlbolajljaaGreatDoor
open Go Go.RowKit
section
variable {σ : Type} {r : Rdr σ} {s : σ} {w : World}
end
end Go.Proofs.YthehmlbolajljaaGreatDoor

namespace Go.Proofs.YthehmlbolajljaaGreatDoor
open Go Go.RowKit
section
variable {σ : Type} {r : Rdr σ} {s : σ} {w : World}
end
end Go.Proofs.YthehmlbolajljaaGreatDoor

namespace Go.Proofs.YthehmlbolajljaaGreatDoor
open Go Go.RowKit
section
variable {σ : Type} {r : Rdr σ} {s : σ} {w : World}
end
end Go.Proofs.YthehmlbolajljaaGreatDoor

namespace Go.Proofs.YthehmlbolajljaaGreatDoor
open Go Go.RowKit
section
variable {σ : Type} {r : Rdr σ}
end
end Go.Proofs.YthehmlbolajljaaGreatDoor

namespace Go.Proofs.YthehmlbolajljaaGreatDoor
open Go Go.RowKit
def Bin.rdr (R TB DT : Nat) (K : Bin.Ctx) (n : Int) (tl : List Value) : Rdr Bin.St where
  R := R
  pr := Bin.pr K
  M := fun _ i => i = R ∨ i = TB ∨ i = DT
  Inv := fun s w => RdP R TB DT K.c.b K.c n tl s w ∧ DT < w.heap.size
section
variable {R TB DT : Nat} {K : Bin.Ctx} {n : Int} {tl : List Value} {rem : List UInt8} {w : World}
theorem Bin.gp {k : Int} {s' : List UInt8} {T KT SZ ID N : Int} {S : List UInt8} {e : Ending} {w' : World} (h : RdP R TB DT K.c.b K.c n tl rem w) (hD : DT < w.heap.size) (hg : GP R TB DT K.c n tl rem w k s' T KT SZ ID N S e w') :
    (Bin.rdr R TB DT K n tl).GP w k s' T KT SZ ID N S e w' := by
  obtain ⟨x, t, kt, size, id, N', S', rfl, hs, hx, ⟨r', h1, hl, hr⟩, hk, hv⟩ := hg
  refine ⟨x, t, kt, size, id, N', S', rfl, hs, hx, ⟨r', ⟨h1, Nat.lt_of_lt_of_le hD hk.size⟩, hr⟩, ⟨hk.weak (fun i _ e => .inr (.inl e.symm)), fun _ _ x => x⟩, fun hz => ?_⟩
  obtain ⟨v1, v2, v3, v4, v5, v6⟩ := hv hz
  refine ⟨v1, v2, v3, v4, v5, v6.weak (fun i _ hi => ⟨hi, ?_⟩)⟩
  have a1 := lt_of_heap h.blk
  have a2 : TB < w.heap.size := lt_of_cell h.tube.c0
  rintro (rfl | rfl | rfl) <;> omega
theorem Bin.rdr_ok : (Bin.rdr R TB DT K n tl).Ok where
  pr := Bin.ok K
  lt := by
    rintro s w ⟨h, hD⟩ i (rfl | rfl | rfl)
    · exact lt_of_heap h.blk
    · exact lt_of_cell h.tube.c0
    · exact hD
  turn := by
    rintro s w w' N ⟨h, hD⟩ hk hN
    refine ⟨⟨⟨(hk.block R (lt_of_heap h.blk) (fun x => hN _ x (.inl rfl))).trans h.blk, h.tube.keep hk (fun x => hN _ x (.inr (.inl rfl))) (fun _ x => hN _ x (.inr (.inr rfl))), h.ne, h.cok, h.size⟩, Nat.lt_of_lt_of_le hD hk.size⟩, fun _ x => x⟩
  sc := fun {s w} t ht h => (rd_scalar K t ht h.1).mono (fun e w' hg => Bin.gp h.1 h.2 hg)
  sb := fun {s w} h _ => (rd_step 2 (by omega) (by omega) (by omega) h.1 (fun w h => bin_op2 h)).mono (fun e w' hg => Bin.gp h.1 h.2 hg)
  se := fun {s w} h _ => (rd_step 3 (by omega) (by omega) (by omega) h.1 (fun w h => bin_op3 h)).mono (fun e w' hg => Bin.gp h.1 h.2 hg)
  f := fun {s w} h => (rd_step 4 (by omega) (by omega) (by omega) h.1 (fun w h => bin_op4 h)).mono (fun e w' hg => Bin.gp h.1 h.2 hg)
  fe := fun {s w} h => (rd_step 5 (by omega) (by omega) (by omega) h.1 (fun w h => bin_op5 h)).mono (fun e w' hg => Bin.gp h.1 h.2 hg)
  m := fun {s w} h => (rd_step 7 (by omega) (by omega) (by omega) h.1 (fun w h => bin_op7 h)).mono (fun e w' hg => Bin.gp h.1 h.2 hg)
  me := fun {s w} h => (rd_step 8 (by omega) (by omega) (by omega) h.1 (fun w h => bin_op8 h)).mono (fun e w' hg => Bin.gp h.1 h.2 hg)
  l := fun {s w} h => (rd_step 9 (by omega) (by omega) (by omega) h.1 (fun w h => bin_op9 h)).mono (fun e w' hg => Bin.gp h.1 h.2 hg)
  le := fun {s w} h => (rd_step 10 (by omega) (by omega) (by omega) h.1 (fun w h => bin_op10 h)).mono (fun e w' hg => Bin.gp h.1 h.2 hg)
  t := fun {s w} h => (rd_step 11 (by omega) (by omega) (by omega) h.1 (fun w h => bin_op11 h)).mono (fun e w' hg => Bin.gp h.1 h.2 hg)
  te := fun {s w} h => (rd_step 12 (by omega) (by omega) (by omega) h.1 (fun w h => bin_op12 h)).mono (fun e w' hg => Bin.gp h.1 h.2 hg)
end
def Bin.K0 (c : Cfg) : Bin.Ctx := ⟨⟨0, 0, 0, 0, 0⟩, 0, 0, 0, 0, none, c⟩
end Go.Proofs.YthehmlbolajljaaGreatDoor

namespace Go.Proofs.YthehmlbolajljaaGreatDoor
open Go Go.RowKit
theorem Sk.cond {k x : Int} (h : Sk k x) (hx : ¬ x = 0) (A : Int) : Sk (if k = 0 then A else k) x := by
  by_cases hk : k = 0
  · subst hk
    rcases h with h | ⟨_, h⟩ | h
    · exact .inl h
    · exact absurd rfl h.1
    · exact absurd h hx
  · rw [if_neg hk]; exact h
set_option maxHeartbeats 2000000 in
theorem limits_s (pr : Int) (c : Cfg) (w : World) : Calls Tryz.prog 86 #[confV pr c] w fun e w' => ∃ fr sw, e = .returned (.tuple #[.int .i32 c.maxMsg, .int .i32 fr, .int .i32 c.maxCont, .bool c.strict, .bool sw]) ∧ Keep (fun _ => False) w w' := by
  by_cases hp : c.plain = true
  · have h1 : c.maxMsg = 104857600 := by simp [Cfg.maxMsg, hp]
    have h2 : c.maxCont = 2147483647 := by simp [Cfg.maxCont, hp]
    have h3 : c.strict = false := by simp [Cfg.strict, hp]
    rw [h1, h2, h3]
    clear h1 h2 h3
    go_enter Tryz.func86, Tryz.ntmps86
    go_wp2_with fail
    go_returns
    exact ⟨_, _, rfl, (Keep.refl _ w).alloc _⟩
  · have hp0 : c.plain = false := by simpa using hp
    have h3 : c.strict = c.sr := by simp [Cfg.strict, hp0]
    obtain ⟨m, hm⟩ : ∃ m, c.maxMsg = m := ⟨_, rfl⟩
    obtain ⟨t, ht⟩ : ∃ t, c.maxCont = t := ⟨_, rfl⟩
    rw [hm, ht, h3]
    clear h3
    by_cases hm0 : 0 < c.msg
    · have e1 : m = c.msg := by rw [← hm]; simp [Cfg.maxMsg, hp0]; omega
      rw [e1]
      by_cases ht0 : 0 < c.cont
      · have e2 : t = c.cont := by rw [← ht]; simp [Cfg.maxCont, hp0]; omega
        rw [e2]
        clear hm ht e1 e2 hp
        go_enter Tryz.func86, Tryz.ntmps86
        go_wp2_with fail
        all_goals (go_quiet (fail))
        all_goals (go_wp2_with fail)
        all_goals go_returns
        all_goals exact ⟨_, _, rfl, ((Keep.refl _ w).alloc _).drewN _⟩
      · have e2 : t = 2147483647 := by rw [← ht]; simp [Cfg.maxCont, hp0]; omega
        rw [e2]
        clear hm ht e1 e2 hp
        go_enter Tryz.func86, Tryz.ntmps86
        go_wp2_with fail
        all_goals (go_quiet (fail))
        all_goals (go_wp2_with fail)
        all_goals go_returns
        all_goals exact ⟨_, _, rfl, ((Keep.refl _ w).alloc _).drewN _⟩
    · have e1 : m = 104857600 := by rw [← hm]; simp [Cfg.maxMsg, hp0]; omega
      rw [e1]
      by_cases ht0 : 0 < c.cont
      · have e2 : t = c.cont := by rw [← ht]; simp [Cfg.maxCont, hp0]; omega
        rw [e2]
        clear hm ht e1 e2 hp
        go_enter Tryz.func86, Tryz.ntmps86
        go_wp2_with fail
        all_goals (go_quiet (fail))
        all_goals (go_wp2_with fail)
        all_goals go_returns
        all_goals exact ⟨_, _, rfl, ((Keep.refl _ w).alloc _).drewN _⟩
      · have e2 : t = 2147483647 := by rw [← ht]; simp [Cfg.maxCont, hp0]; omega
        rw [e2]
        clear hm ht e1 e2 hp
        go_enter Tryz.func86, Tryz.ntmps86
        go_wp2_with fail
        all_goals (go_quiet (fail))
        all_goals (go_wp2_with fail)
        all_goals go_returns
        all_goals exact ⟨_, _, rfl, ((Keep.refl _ w).alloc _).drewN _⟩
section
variable {R TB DT : Nat} {c : Cfg} {n : Int} {tl : List Value} {rem : List UInt8} {w : World}
theorem gp_ret {f : Func} {slot : Nat} {a : Act} {U : Nat} {k x t kt size id nn T KT SZ ID N : Int} {S' : Value} {S r' s' : List UInt8} {w1 : World} {v0 v1 v2' v3 v4 v5 v6 : Value} (hf : f.results = #[.cell slot 107]) (hd : a.defers = []) (ha : a.tmps[slot]?.getD undef = .pointer (some ⟨U, 0, none⟩))
    (hR : RdP R TB DT c.b c n tl rem w) (h1 : RdP R TB DT c.b c n tl r' w1) (hk : Keep (TB = ·) w w1) (hU : w.heap.size = U) (hle : r'.length ≤ rem.length) (HU : w1.heap[U]? = some (.cells #[v0, v1, v2', v3, v4, v5, v6] 107 (0, 0))) (hs : ∃ a m cc, S' = .slice a m cc)
    (hx : Sk k x) (hv : x = 0 → r' = s' ∧ t = T ∧ kt = KT ∧ size = SZ ∧ id = ID ∧ nn = N ∧ BytesAt (U + 1 ≤ ·) w1 S' S) : bodyPost Tryz.prog f (GP R TB DT c n tl rem w k s' T KT SZ ID N S) Exit.ret a (gotW w1 U x t kt size id nn S') := by
  obtain ⟨h9, hk9⟩ := RdP.got hR h1 hk hU hle x t kt size id nn S'
  exact ret_got (U := U) hf hd ha (got_set HU _ _ _ _ _ _ _) ⟨_, _, _, _, _, _, _, rfl, hs, hx, ⟨_, h9, hle, fun hz => (hv hz).1⟩, hk9, fun hz => ⟨(hv hz).2.1, (hv hz).2.2.1, (hv hz).2.2.2.1, (hv hz).2.2.2.2.1, (hv hz).2.2.2.2.2.1, BytesAt.got (hv hz).2.2.2.2.2.2 hU _ _ _ _ _ _ _⟩⟩
theorem numZ4 {s : List UInt8} (h : 4 ≤ s.length) : numZ (s.take 4) = wrap32 (Lib.beNat (s.take 4)) := numZ_four _ (by rw [List.length_take]; omega)
theorem strN_bd (s : List UInt8) : -2147483648 ≤ strN s ∧ strN s ≤ 2147483647 := by simp only [strN, wrap32]; omega
set_option maxRecDepth 100000 in
set_option maxHeartbeats 8000000 in
theorem rd_msg (hR : RdP R TB DT c.b c n tl rem w) : Calls Tryz.prog 105 #[.pointer (some ⟨R, 0, none⟩)] w (GP R TB DT c n tl rem w (bmK rem c) (bmS rem) (bmT rem) 0 0 0 (bmN rem) (bmB rem)) := by
  have hTU : TB < w.heap.size := lt_of_cell hR.tube.c0
  have hk0 : Keep (fun _ => False) w (w.alloc (.cells zGot 107)) := (Keep.refl _ w).alloc _
  have hU0 := heap_alloc_new w (.cells zGot 107)
  have HH := Lib.hid hR
  go_enter Tryz.func105, Tryz.ntmps105
  go_wp2_with fail
  have hsA : (w.alloc (.cells zGot 107)).heap.size = w.heap.size + 1 := by simp
  generalize w.alloc (.cells zGot 107) = wA at *
  obtain ⟨U, hU⟩ : ∃ U, w.heap.size = U := ⟨_, rfl⟩
  rw [hU] at hU0 hTU hsA ⊢
  have HUS := Lib.hid hU
  clear hU
  refine (rd_whole (hR.fresh hk0) 4 (by omega)).mono ?_
  rintro e w1 ⟨z, rfl, h1, hk1, hz⟩
  have HK1 := Lib.hid ((hk0.weak (fun _ _ x => x.elim) : Keep (TB = ·) w wA).then hk1)
  have HU1 := Lib.hid ((hk1.block U (lt_of_heap hU0) (by omega)).trans hU0)
  have hs1 : U + 1 ≤ w1.heap.size := by have := hk1.size; omega
  clear hk1 hU0
  by_cases hl : rem.length < 4
  · have e1 : fullK 4 rem = 10 := by simp [fullK]; omega
    have HKK : Hid (bmK rem c = 10) := Lib.hid (by simp only [bmK, if_pos hl])
    obtain ⟨u0, u1, u2, u3, u4, u5, u6⟩ := got_cells HU1.out
    obtain ⟨f0, f1, f2, f3, f4, f5, f6⟩ := got_free HU1.out
    rw [e1]
    clear hz e1
    go_wp2_with fail
    exact gp_ret (U := U) Tryz.results105 rfl rfl HH.out h1 HK1.out HUS.out (by simp) HU1.out ⟨_, _, _, rfl⟩ (by rw [HKK.out]; exact .inr (.inr rfl)) (fun hh => by cases hh)
  · have e1 : fullK 4 rem = 0 := by simp [fullK]; omega
    have hz2 : z = strN rem := (hz (by omega)).trans (numZ_four _ (by simp; omega))
    subst hz2
    obtain ⟨nn, hnn⟩ : ∃ nn, strN rem = nn := ⟨_, rfl⟩
    have hb1 := strN_bd rem
    rw [hnn] at hb1 ⊢
    obtain ⟨hlo, hhi⟩ := hb1
    rw [e1]
    have HN := Lib.hid hnn
    have HL := Lib.hid hl
    clear hz e1 hnn hl
    obtain ⟨c0, c1, c2, c3, c4, c5, c6, c7, c8⟩ := h1.cells
    go_wp2_with fail
    refine (limits_s c.b c _).mono ?_
    rintro e w2 ⟨fr, sw, rfl, hk2⟩
    have h2 := h1.fresh hk2
    have HK2 := Lib.hid (HK1.out.then (hk2.weak (fun _ _ x => x.elim)))
    have HU2 := Lib.hid ((hk2.block U (lt_of_heap HU1.out) id).trans HU1.out)
    have hs2 : U + 1 ≤ w2.heap.size := by have := hk2.size; omega
    obtain ⟨u0, u1, u2, u3, u4, u5, u6⟩ := got_cells HU2.out
    obtain ⟨f0, f1, f2, f3, f4, f5, f6⟩ := got_free HU2.out
    clear c0 c1 c2 c3 c4 c5 c6 c7 c8 hk2 h1
    by_cases hn0 : nn < 0
    · have ha := and255_w64 nn
      obtain ⟨q, hq⟩ : ∃ q, lo8 nn = q := ⟨_, rfl⟩
      have hqb := lo8_bd nn
      rw [hq] at ha hqb
      obtain ⟨hq0, hq1⟩ := hqb
      have HBB : Hid (bmB rem = strS (rem.drop 4)) := Lib.hid (by simp only [bmB, HN.out, if_pos hn0])
      have HTT : Hid (bmT rem = q) := Lib.hid (by simp only [bmT, HN.out, if_pos hn0, hq])
      have HNN : Hid (bmN rem = wrap32 (Lib.beNat ((strRem (rem.drop 4)).take 4))) := Lib.hid (by simp only [bmN, HN.out, if_pos hn0])
      have HSS : Hid (bmS rem = (strRem (rem.drop 4)).drop 4) := Lib.hid (by simp only [bmS, HN.out, if_pos hn0])
      clear hq
      by_cases hver : bits BinOp.and IntKind.i64 nn 4294901760 = 2147549184
      · have HKA : Hid (bmK rem c = if strK (rem.drop 4) c = 0 then fullK 4 (strRem (rem.drop 4)) else strK (rem.drop 4) c) := Lib.hid (by simp only [bmK, if_neg HL.out, HN.out, if_pos hn0, verN, if_pos hver])
        go_wp2_with fail
        refine (rd_whole h2 4 (by omega)).mono ?_
        rintro e w3 ⟨z, rfl, h3, hk3, hz⟩
        have HK3 := Lib.hid (HK2.out.then hk3)
        have HU3 := Lib.hid ((hk3.block U (lt_of_heap HU2.out) (by omega)).trans HU2.out)
        have hs3 : U + 1 ≤ w3.heap.size := by have := hk3.size; omega
        clear u0 u1 u2 u3 u4 u5 u6 f0 f1 f2 f3 f4 f5 f6
        obtain ⟨u0, u1, u2, u3, u4, u5, u6⟩ := got_cells HU3.out
        obtain ⟨f0, f1, f2, f3, f4, f5, f6⟩ := got_free HU3.out
        clear hk3
        by_cases hl2 : (rem.drop 4).length < 4
        · have e1 : fullK 4 (rem.drop 4) = 10 := by unfold fullK; rw [if_neg (by omega)]
          have HKK : Hid (bmK rem c = 10) := Lib.hid (by rw [HKA.out, show strK (rem.drop 4) c = 10 by simp only [strK, if_pos hl2]]; simp)
          rw [e1]
          clear hz e1
          go_wp2_with fail
          exact gp_ret (U := U) Tryz.results105 rfl rfl HH.out h3 HK3.out HUS.out (by simp <;> omega) HU3.out ⟨_, _, _, rfl⟩ (by rw [HKK.out]; exact .inr (.inr rfl)) (fun hh => by cases hh)
        · have e1 : fullK 4 (rem.drop 4) = 0 := by unfold fullK; rw [if_pos (by omega)]
          have hz2 : z = strN (rem.drop 4) := (hz (by omega)).trans (numZ_four _ (by rw [List.length_take]; omega))
          subst hz2
          have HSK : Hid (strK (rem.drop 4) c = if sizeK (strN (rem.drop 4)) c = 0 then fullK (strN (rem.drop 4)).toNat ((rem.drop 4).drop 4) else sizeK (strN (rem.drop 4)) c) := Lib.hid (by simp only [strK, if_neg hl2])
          have HSR : Hid (strRem (rem.drop 4) = ((rem.drop 4).drop 4).drop (strN (rem.drop 4)).toNat) := Lib.hid rfl
          have HSS' : Hid (strS (rem.drop 4) = ((rem.drop 4).drop 4).take (strN (rem.drop 4)).toNat) := Lib.hid rfl
          obtain ⟨sz, hsz⟩ : ∃ sz, strN (rem.drop 4) = sz := ⟨_, rfl⟩
          have hb2 := strN_bd (rem.drop 4)
          rw [hsz] at hb2 HSK HSR HSS' ⊢
          obtain ⟨hlo2, hhi2⟩ := hb2
          rw [e1]
          clear hz e1 hsz hl2
          go_wp2_with fail
          refine (rd_bytes h3 sz hlo2 hhi2).mono ?_
          rintro e w4 ⟨S, x, rfl, hx, ⟨r', h4, hle, hr⟩, hk4, hb, Sa, Sm, Sc, rfl⟩
          have HK4 := Lib.hid (HK3.out.then hk4)
          have HU4 := Lib.hid ((hk4.block U (lt_of_heap HU3.out) (by omega)).trans HU3.out)
          have hs4 : U + 1 ≤ w4.heap.size := by have := hk4.size; omega
          have HLE := Lib.hid (show r'.length ≤ rem.length by simp at hle; omega)
          clear u0 u1 u2 u3 u4 u5 u6 f0 f1 f2 f3 f4 f5 f6
          obtain ⟨u0, u1, u2, u3, u4, u5, u6⟩ := got_cells HU4.out
          obtain ⟨f0, f1, f2, f3, f4, f5, f6⟩ := got_free HU4.out
          have HX : Hid (Sk (strK (rem.drop 4) c) x) := Lib.hid (HSK.out ▸ hx)
          clear hx hk4 hle
          by_cases hx0 : x = 0
          · subst hx0
            have hr1 := hr rfl
            have HB := Lib.hid ((hb rfl).weak (A' := (U + 1 ≤ ·)) (fun i _ hi => by omega))
            rw [← HSR.out] at hr1
            subst hr1
            clear hr hb
            go_wp2_with fail
            refine (rd_whole h4 4 (by omega)).mono ?_
            rintro e w5 ⟨z, rfl, h5, hk5, hz⟩
            have HK5 := Lib.hid (HK4.out.then hk5)
            have HU5 := Lib.hid ((hk5.block U (lt_of_heap HU4.out) (by omega)).trans HU4.out)
            have HB5 := Lib.hid (HB.out.keep hk5 (fun i hi e => by omega))
            clear u0 u1 u2 u3 u4 u5 u6 f0 f1 f2 f3 f4 f5 f6
            obtain ⟨u0, u1, u2, u3, u4, u5, u6⟩ := got_cells HU5.out
            obtain ⟨f0, f1, f2, f3, f4, f5, f6⟩ := got_free HU5.out
            have HKB : Hid (bmK rem c = fullK 4 (strRem (rem.drop 4))) := Lib.hid (HKA.out.trans (if_pos (Sk.zero HX.out)))
            have HZ := Lib.hid hz
            clear hk5 hz
            obtain ⟨kk, hkk⟩ : ∃ kk, fullK 4 (strRem (rem.drop 4)) = kk := ⟨_, rfl⟩
            rw [hkk]
            have HKKK := Lib.hid hkk
            clear hkk
            go_wp2_with fail
            exact gp_ret (U := U) Tryz.results105 rfl rfl HH.out h5 HK5.out HUS.out (by have := HLE.out; simp; omega) HU5.out ⟨_, _, _, rfl⟩ (by rw [HKB.out, HKKK.out]; exact .inr (.inr rfl)) (fun hh => ⟨HSS.out.symm, HTT.out.symm, rfl, rfl, rfl, by rw [HNN.out]; exact (HZ.out (fullK_len (HKKK.out.trans hh))).trans (numZ4 (fullK_len (HKKK.out.trans hh))), by rw [HBB.out, HSS'.out]; exact HB5.out⟩)
          · have hxb : (x == 0) = false := by simpa using hx0
            have HX0 := Lib.hid hx0
            clear hr hb
            go_wp2_with fail
            exact gp_ret (U := U) Tryz.results105 rfl rfl HH.out h4 HK4.out HUS.out HLE.out HU4.out ⟨_, _, _, rfl⟩ (by rw [HKA.out]; exact HX.out.cond HX0.out _) (fun hh => absurd hh HX0.out)
      · have HKK : Hid (bmK rem c = 14) := Lib.hid (by simp only [bmK, if_neg HL.out, HN.out, if_pos hn0, verN, if_neg hver])
        go_wp2_with fail
        exact gp_ret (U := U) Tryz.results105 rfl rfl HH.out h2 HK2.out HUS.out (by simp) HU2.out ⟨_, _, _, rfl⟩ (by rw [HKK.out]; exact .inr (.inr rfl)) (fun hh => by cases hh)
    · have HBB : Hid (bmB rem = strS rem) := Lib.hid (by simp only [bmB, HN.out, if_neg hn0])
      have HTT : Hid (bmT rem = match strRem rem with | b :: _ => IntKind.i8.wrap b.toNat | [] => 0) := Lib.hid (by simp only [bmT, HN.out, if_neg hn0]; rfl)
      have HNN : Hid (bmN rem = wrap32 (Lib.beNat (((strRem rem).drop 1).take 4))) := Lib.hid (by simp only [bmN, HN.out, if_neg hn0])
      have HSS : Hid (bmS rem = ((strRem rem).drop 1).drop 4) := Lib.hid (by simp only [bmS, HN.out, if_neg hn0])
      have HKA : Hid (bmK rem c = if c.strict = true then 14 else if strK rem c = 0 then (if endK 1 (strRem rem) = 0 then fullK 4 ((strRem rem).drop 1) else endK 1 (strRem rem)) else strK rem c) := Lib.hid (by simp only [bmK, if_neg HL.out, HN.out, if_neg hn0])
      have HSK : Hid (strK rem c = if sizeK nn c = 0 then fullK nn.toNat (rem.drop 4) else sizeK nn c) := Lib.hid (by simp only [strK, if_neg HL.out, HN.out])
      have HSR : Hid (strRem rem = (rem.drop 4).drop nn.toNat) := Lib.hid (by simp only [strRem, HN.out])
      have HSTR : Hid (strS rem = (rem.drop 4).take nn.toNat) := Lib.hid (by simp only [strS, HN.out])
      by_cases hst : c.strict = true
      · have HKK : Hid (bmK rem c = 14) := Lib.hid (HKA.out.trans (if_pos hst))
        rw [hst]
        go_wp2_with fail
        exact gp_ret (U := U) Tryz.results105 rfl rfl HH.out h2 HK2.out HUS.out (by simp) HU2.out ⟨_, _, _, rfl⟩ (by rw [HKK.out]; exact .inr (.inr rfl)) (fun hh => by cases hh)
      · have hst0 : c.strict = false := by simpa using hst
        have HKB : Hid (bmK rem c = if strK rem c = 0 then (if endK 1 (strRem rem) = 0 then fullK 4 ((strRem rem).drop 1) else endK 1 (strRem rem)) else strK rem c) := Lib.hid (HKA.out.trans (if_neg hst))
        rw [hst0]
        clear hst hst0
        go_wp2_with fail
        refine (rd_bytes h2 nn hlo hhi).mono ?_
        rintro e w4 ⟨S, x, rfl, hx, ⟨r', h4, hle, hr⟩, hk4, hb, Sa, Sm, Sc, rfl⟩
        have HK4 := Lib.hid (HK2.out.then hk4)
        have HU4 := Lib.hid ((hk4.block U (lt_of_heap HU2.out) (by omega)).trans HU2.out)
        have hs4 : U + 1 ≤ w4.heap.size := by have := hk4.size; omega
        have HLE := Lib.hid (show r'.length ≤ rem.length by simp at hle; omega)
        clear u0 u1 u2 u3 u4 u5 u6 f0 f1 f2 f3 f4 f5 f6
        obtain ⟨u0, u1, u2, u3, u4, u5, u6⟩ := got_cells HU4.out
        obtain ⟨f0, f1, f2, f3, f4, f5, f6⟩ := got_free HU4.out
        have HX : Hid (Sk (strK rem c) x) := Lib.hid (HSK.out ▸ hx)
        clear hx hk4 hle
        by_cases hx0 : x = 0
        · subst hx0
          have hr1 := hr rfl
          have HB := Lib.hid ((hb rfl).weak (A' := (U + 1 ≤ ·)) (fun i _ hi => by omega))
          rw [← HSR.out] at hr1
          subst hr1
          have HKC : Hid (bmK rem c = if endK 1 (strRem rem) = 0 then fullK 4 ((strRem rem).drop 1) else endK 1 (strRem rem)) := Lib.hid (HKB.out.trans (if_pos (Sk.zero HX.out)))
          clear hr hb
          go_wp2_with fail
          refine (rd_one h4).mono ?_
          rintro e w5 ⟨bt, rfl, h5, hk5, hbt⟩
          have HK5 := Lib.hid (HK4.out.then hk5)
          have HU5 := Lib.hid ((hk5.block U (lt_of_heap HU4.out) (by omega)).trans HU4.out)
          have HB5 := Lib.hid (HB.out.keep hk5 (fun i hi e => by omega))
          have hs5 : U + 1 ≤ w5.heap.size := by have := hk5.size; omega
          clear u0 u1 u2 u3 u4 u5 u6 f0 f1 f2 f3 f4 f5 f6
          obtain ⟨u0, u1, u2, u3, u4, u5, u6⟩ := got_cells HU5.out
          obtain ⟨f0, f1, f2, f3, f4, f5, f6⟩ := got_free HU5.out
          clear hk5
          rcases endK1_cases (strRem rem) with ⟨hq, hq2⟩ | ⟨hq, b, r, hq2⟩
          · have HKD : Hid (bmK rem c = 1) := Lib.hid (by rw [HKC.out, hq]; simp)
            rw [hq]
            clear hbt
            go_wp2_with fail
            exact gp_ret (U := U) Tryz.results105 rfl rfl HH.out h5 HK5.out HUS.out (by have := HLE.out; simp; omega) HU5.out ⟨_, _, _, rfl⟩ (by rw [HKD.out]; exact .inr (.inr rfl)) (fun hh => by cases hh)
          · have HKD : Hid (bmK rem c = fullK 4 ((strRem rem).drop 1)) := Lib.hid (by rw [HKC.out, hq]; simp)
            have hbb := hbt b r hq2
            subst hbb
            obtain ⟨tt, htt⟩ : ∃ tt, IntKind.i8.wrap (b.toNat : Int) = tt := ⟨_, rfl⟩
            have htb := i8_bd2 (b.toNat : Int)
            rw [htt] at htb
            obtain ⟨htb1, htb2⟩ := htb
            have HTT2 : Hid (bmT rem = tt) := Lib.hid (by rw [HTT.out, hq2, ← htt])
            have hb8 := b.toNat_lt
            rw [hq]
            clear hbt hq hq2
            go_wp2_with fail
            refine (rd_whole h5 4 (by omega)).mono ?_
            rintro e w6 ⟨z, rfl, h6, hk6, hz⟩
            have HK6 := Lib.hid (HK5.out.then hk6)
            have HU6 := Lib.hid ((hk6.block U (lt_of_heap HU5.out) (by omega)).trans HU5.out)
            have HB6 := Lib.hid (HB5.out.keep hk6 (fun i hi e => by omega))
            clear u0 u1 u2 u3 u4 u5 u6 f0 f1 f2 f3 f4 f5 f6
            obtain ⟨u0, u1, u2, u3, u4, u5, u6⟩ := got_cells HU6.out
            obtain ⟨f0, f1, f2, f3, f4, f5, f6⟩ := got_free HU6.out
            have HZ := Lib.hid hz
            clear hk6 hz
            obtain ⟨kk, hkk⟩ : ∃ kk, fullK 4 ((strRem rem).drop 1) = kk := ⟨_, rfl⟩
            rw [hkk]
            have HKKK := Lib.hid hkk
            clear hkk
            go_wp2_with fail
            exact gp_ret (U := U) Tryz.results105 rfl rfl HH.out h6 HK6.out HUS.out (by have := HLE.out; simp; omega) HU6.out ⟨_, _, _, rfl⟩ (by rw [HKD.out, HKKK.out]; exact .inr (.inr rfl)) (fun hh => ⟨HSS.out.symm, HTT2.out.symm, rfl, rfl, rfl, by rw [HNN.out]; exact (HZ.out (fullK_len (HKKK.out.trans hh))).trans (numZ4 (fullK_len (HKKK.out.trans hh))), by rw [HBB.out, HSTR.out]; exact HB6.out⟩)
        · have HX0 := Lib.hid hx0
          clear hr hb
          go_wp2_with fail
          exact gp_ret (U := U) Tryz.results105 rfl rfl HH.out h4 HK4.out HUS.out HLE.out HU4.out ⟨_, _, _, rfl⟩ (by rw [HKB.out]; exact HX.out.cond HX0.out _) (fun hh => absurd hh HX0.out)
set_option maxRecDepth 100000 in
set_option maxHeartbeats 4000000 in
theorem bin_op0 (hR : RdP R TB DT c.b c n tl rem w) : Calls Tryz.prog 89 #[.pointer (some ⟨R, 0, none⟩), .int .i64 0] w (GP R TB DT c n tl rem w (bmK rem c) (bmS rem) (bmT rem) 0 0 0 (bmN rem) (bmB rem)) := by
  have hTU : TB < w.heap.size := lt_of_cell hR.tube.c0
  have hk0 : Keep (fun _ => False) w (w.alloc (.cells zGot 107)) := (Keep.refl _ w).alloc _
  have hU0 := heap_alloc_new w (.cells zGot 107)
  go_enter Tryz.func89, Tryz.ntmps89
  go_wp2_with fail
  obtain ⟨U, hU⟩ : ∃ U, w.heap.size = U := ⟨_, rfl⟩
  have hUs : (w.alloc (.cells zGot 107)).heap.size = U + 1 := by simp [hU]
  generalize w.alloc (.cells zGot 107) = wA at *
  rw [hU] at hU0 hTU ⊢
  refine (rd_msg (hR.fresh hk0)).mono ?_
  rintro e w1 ⟨x, t, kt, size, id, N', S', rfl, ⟨Sa, Sm, Sc, rfl⟩, hx, ⟨r', h1, hle, hr⟩, hk1, hv⟩
  have HU := Lib.hid ((hk1.block U (lt_of_heap hU0) (by omega)).trans hU0)
  have HX := Lib.hid hx
  have HR := Lib.hid hr
  have HV := Lib.hid hv
  have HLE := Lib.hid hle
  clear hx hr hv hle
  obtain ⟨u0, u1, u2, u3, u4, u5, u6⟩ := got_cells HU.out
  obtain ⟨f0, f1, f2, f3, f4, f5, f6⟩ := got_free HU.out
  go_wp2_with fail
  exact gp_ret (U := U) Tryz.results89 rfl rfl hR h1 ((hk0.weak (fun _ _ x => x.elim)).then hk1) hU HLE.out HU.out ⟨_, _, _, rfl⟩ HX.out (fun hz => ⟨HR.out hz, (HV.out hz).1, (HV.out hz).2.1, (HV.out hz).2.2.1, (HV.out hz).2.2.2.1, (HV.out hz).2.2.2.2.1, by rw [← hUs]; exact (HV.out hz).2.2.2.2.2⟩)
set_option maxRecDepth 100000 in
set_option maxHeartbeats 4000000 in
theorem bin_op1 (hR : RdP R TB DT c.b c n tl rem w) : Calls Tryz.prog 89 #[.pointer (some ⟨R, 0, none⟩), .int .i64 1] w (GP R TB DT c n tl rem w 0 rem 0 0 0 0 0 []) := by
  have hk0 : Keep (fun _ => False) w (w.alloc (.cells zGot 107)) := (Keep.refl _ w).alloc _
  have hU0 := heap_alloc_new w (.cells zGot 107)
  go_enter Tryz.func89, Tryz.ntmps89
  go_wp2_with fail
  exact ret_got (U := w.heap.size) (k := 0) (t := 0) (kt := 0) (size := 0) (id := 0) (n := 0) (s := .slice none 0 0) Tryz.results89 rfl rfl hU0 ⟨0, 0, 0, 0, 0, 0, .slice none 0 0, rfl, ⟨_, _, _, rfl⟩, .inr (.inr rfl), ⟨_, hR.fresh hk0, Nat.le_refl _, fun _ => rfl⟩, hk0.weak (fun _ _ x => x.elim), fun _ => ⟨rfl, rfl, rfl, rfl, rfl, BytesAt.nil _ _⟩⟩
end
end Go.Proofs.YthehmlbolajljaaGreatDoor
