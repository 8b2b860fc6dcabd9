/- Part 18 of the proof: Sp9, Sp10, Sp11, Rd0, Rk2, Rk3, Rk4, Rk5, Rb0. -/
import Derived.Test.YtnccjcbelcbgoaaGreatDoorA16
import Derived.Deep.LoopGhost
set_option linter.unusedVariables false
set_option linter.unusedSimpArgs false
set_option linter.unusedSectionVars false
/- The reference's reader: texts and uuids by the binary protocol. -/
namespace Go.Proofs.YtnccjcbelcbgoaaGreatDoor
open Go Go.RowKit

section
variable {R TB DT : Nat} {c : Cfg} {n : Int} {tl : List Value} {rem : List UInt8} {w : World}

set_option maxRecDepth 100000 in
set_option maxHeartbeats 4000000 in
theorem bin_op21 (hR : RdP R TB DT c.b c n tl rem w) : Calls Tryz.prog 64 #[.pointer (some ⟨R, 0, none⟩), .int .i64 21] w (GP R TB DT c n tl rem w (fullK 16 rem) (rem.drop 16) 0 0 0 0 0 (rem.take 16)) := by
  have hTU : TB < w.heap.size := lt_of_cell hR.tube.c0
  have hk0 : Keep (fun _ => False) w (w.alloc (.cells zGot 140)) := (Keep.refl _ w).alloc _
  have hU0 := heap_alloc_new w (.cells zGot 140)
  by_cases hl : 16 ≤ rem.length
  · have e0 : endK 16 rem = 0 := by simp [endK, hl]
    have e1 : fullK 16 rem = 0 := by simp [fullK, hl]
    rw [e1]
    have HE := Lib.hid e0
    have HL := Lib.hid hl
    clear e0 e1 hl
    go_enter Tryz.func64, Tryz.ntmps64
    go_wp2_with fail
    obtain ⟨U, hU⟩ : ∃ U, w.heap.size = U := ⟨_, rfl⟩
    have hUs : (w.alloc (.cells zGot 140)).heap.size = U + 1 := by simp [hU]
    generalize w.alloc (.cells zGot 140) = wA at *
    rw [hU] at hU0 hTU ⊢
    refine (rd_raw (hR.fresh hk0) 16 (by omega)).mono ?_
    rintro e w1 ⟨S, rfl, h1, hk1, hb⟩
    rw [HE.out]
    have hb1 := hb HL.out
    obtain ⟨Sa, Sm, Sc, rfl⟩ := hb1.shape
    have HB := Lib.hid hb1
    clear hb hb1
    have HU := Lib.hid ((hk1.block U (lt_of_heap hU0) (by omega)).trans hU0)
    obtain ⟨u0, u1, u2, u3, u4, u5, u6⟩ := got_cells HU.out
    obtain ⟨f0, f1, f2, f3, f4, f5, f6⟩ := got_free HU.out
    go_wp2_with fail
    obtain ⟨h9, hk9⟩ := RdP.got hR h1 ((hk0.weak (fun _ _ x => x.elim)).then hk1) hU (by simp <;> omega) 0 0 0 0 0 0 (.slice Sa Sm Sc)
    exact ret_got (U := U) Tryz.results64 rfl rfl (got_set HU.out _ _ _ _ _ _ _) ⟨_, _, _, _, _, _, _, rfl, ⟨_, _, _, rfl⟩, .inr (.inr rfl), ⟨_, h9, by simp, fun _ => rfl⟩, hk9, fun _ => ⟨rfl, rfl, rfl, rfl, rfl, BytesAt.got (by have := HB.out; rw [hUs] at this; exact this) hU _ _ _ _ _ _ _⟩⟩
  · have e0 : endK 16 rem = 1 ∨ endK 16 rem = 2 := by
      unfold endK; rw [if_neg hl]; split <;> simp
    have e1 : fullK 16 rem = 10 := by simp [fullK, hl]
    rw [e1]
    obtain ⟨k, hk⟩ : ∃ k, endK 16 rem = k := ⟨_, rfl⟩
    rw [hk] at e0
    have hkn : ¬ k = 0 := by omega
    have H0 := Lib.hid e0
    have HK := Lib.hid hk
    clear e0 e1 hk hl
    go_enter Tryz.func64, Tryz.ntmps64
    go_wp2_with fail
    obtain ⟨U, hU⟩ : ∃ U, w.heap.size = U := ⟨_, rfl⟩
    have hUs : (w.alloc (.cells zGot 140)).heap.size = U + 1 := by simp [hU]
    generalize w.alloc (.cells zGot 140) = wA at *
    rw [hU] at hU0 hTU ⊢
    refine (rd_raw (hR.fresh hk0) 16 (by omega)).mono ?_
    rintro e w1 ⟨S, rfl, h1, hk1, _⟩
    rw [HK.out]
    have HU := Lib.hid ((hk1.block U (lt_of_heap hU0) (by omega)).trans hU0)
    obtain ⟨u0, u1, u2, u3, u4, u5, u6⟩ := got_cells HU.out
    obtain ⟨f0, f1, f2, f3, f4, f5, f6⟩ := got_free HU.out
    go_wp2_with fail
    refine (wrapped_at k w1 H0.out).mono ?_
    rintro e w2 ⟨rfl, rfl⟩
    go_wp2_with fail
    obtain ⟨h9, hk9⟩ := RdP.got hR h1 ((hk0.weak (fun _ _ x => x.elim)).then hk1) hU (by simp <;> omega) 10 0 0 0 0 0 (.slice none 0 0)
    exact ret_got (U := U) Tryz.results64 rfl rfl (got_set HU.out _ _ _ _ _ _ _) ⟨_, _, _, _, _, _, _, rfl, ⟨_, _, _, rfl⟩, .inr (.inr rfl), ⟨_, h9, by simp, fun hh => by cases hh⟩, hk9, fun hh => by cases hh⟩

set_option maxRecDepth 100000 in
set_option maxHeartbeats 4000000 in
theorem bin_op19 (hR : RdP R TB DT c.b c n tl rem w) : Calls Tryz.prog 64 #[.pointer (some ⟨R, 0, none⟩), .int .i64 19] w (GP R TB DT c n tl rem w (strK rem c) (strRem rem) 0 0 0 0 0 (strS rem)) := by
  have hTU : TB < w.heap.size := lt_of_cell hR.tube.c0
  have hk0 : Keep (fun _ => False) w (w.alloc (.cells zGot 140)) := (Keep.refl _ w).alloc _
  have hU0 := heap_alloc_new w (.cells zGot 140)
  by_cases hl : rem.length < 4
  · have e1 : fullK 4 rem = 10 := by simp [fullK]; omega
    have e2 : strK rem c = 10 := by simp [strK, hl]
    rw [e2]
    have HE := Lib.hid e1
    clear e1 e2 hl
    go_enter Tryz.func64, Tryz.ntmps64
    go_wp2_with fail
    obtain ⟨U, hU⟩ : ∃ U, w.heap.size = U := ⟨_, rfl⟩
    have hUs : (w.alloc (.cells zGot 140)).heap.size = U + 1 := by simp [hU]
    generalize w.alloc (.cells zGot 140) = wA at *
    rw [hU] at hU0 hTU ⊢
    refine (rd_whole (hR.fresh hk0) 4 (by omega)).mono ?_
    rintro e w1 ⟨z, rfl, h1, hk1, hz⟩
    rw [HE.out]
    clear hz
    have HU := Lib.hid ((hk1.block U (lt_of_heap hU0) (by omega)).trans hU0)
    obtain ⟨u0, u1, u2, u3, u4, u5, u6⟩ := got_cells HU.out
    obtain ⟨f0, f1, f2, f3, f4, f5, f6⟩ := got_free HU.out
    go_wp2_with fail
    obtain ⟨h9, hk9⟩ := RdP.got hR h1 ((hk0.weak (fun _ _ x => x.elim)).then hk1) hU (by simp <;> omega) 10 0 0 0 0 0 (.slice none 0 0)
    exact ret_got (U := U) Tryz.results64 rfl rfl (got_set HU.out _ _ _ _ _ _ _) ⟨_, _, _, _, _, _, _, rfl, ⟨_, _, _, rfl⟩, .inr (.inr rfl), ⟨_, h9, by simp, fun hh => by cases hh⟩, hk9, fun hh => by cases hh⟩
  · have e1 : fullK 4 rem = 0 := by simp [fullK]; omega
    have e2 : strK rem c = if sizeK (strN rem) c = 0 then fullK (strN rem).toNat (rem.drop 4) else sizeK (strN rem) c := by simp only [strK, if_neg hl]
    rw [e2]
    have hzz : numZ (rem.take 4) = strN rem := numZ_four _ (by simp; omega)
    have hb1 : -2147483648 ≤ strN rem ∧ strN rem ≤ 2147483647 := by simp only [strN, wrap32]; omega
    have e3 : strRem rem = (rem.drop 4).drop (strN rem).toNat := rfl
    have e4 : strS rem = (rem.drop 4).take (strN rem).toNat := rfl
    rw [e3, e4]
    obtain ⟨sz, hsz⟩ : ∃ sz, strN rem = sz := ⟨_, rfl⟩
    rw [hsz] at hzz hb1 ⊢
    obtain ⟨kk, hkk⟩ : ∃ kk, (if sizeK sz c = 0 then fullK sz.toNat (rem.drop 4) else sizeK sz c) = kk := ⟨_, rfl⟩
    rw [hkk]
    have HKK := Lib.hid hkk
    clear hkk
    obtain ⟨hlo, hhi⟩ := hb1
    have HE := Lib.hid e1
    have HZ := Lib.hid hzz
    have HL := Lib.hid (show 4 ≤ rem.length by omega)
    clear e1 e2 e3 e4 hl hsz hzz
    go_enter Tryz.func64, Tryz.ntmps64
    go_wp2_with fail
    obtain ⟨U, hU⟩ : ∃ U, w.heap.size = U := ⟨_, rfl⟩
    have hUs : (w.alloc (.cells zGot 140)).heap.size = U + 1 := by simp [hU]
    generalize w.alloc (.cells zGot 140) = wA at *
    rw [hU] at hU0 hTU ⊢
    refine (rd_whole (hR.fresh hk0) 4 (by omega)).mono ?_
    rintro e w1 ⟨z, rfl, h1, hk1, hz⟩
    rw [HE.out, (hz HL.out).trans HZ.out]
    clear hz
    go_wp2_with fail
    refine (rd_bytes h1 sz hlo hhi).mono ?_
    rintro e w2 ⟨S, x, rfl, hx, ⟨r', h2, hle, hr⟩, hk2, hb, Sa, Sm, Sc, rfl⟩
    have HX := Lib.hid hx
    have HR := Lib.hid hr
    have HB := Lib.hid hb
    have HLE := Lib.hid (show r'.length ≤ rem.length by simp at hle; omega)
    clear hx hr hb hle
    have HU := Lib.hid (((hk1.then hk2).block U (lt_of_heap hU0) (by omega)).trans hU0)
    obtain ⟨u0, u1, u2, u3, u4, u5, u6⟩ := got_cells HU.out
    obtain ⟨f0, f1, f2, f3, f4, f5, f6⟩ := got_free HU.out
    go_wp2_with fail
    obtain ⟨h9, hk9⟩ := RdP.got hR h2 ((hk0.weak (fun _ _ x => x.elim)).then (hk1.then hk2)) hU HLE.out x 0 0 0 0 0 (.slice Sa Sm Sc)
    exact ret_got (U := U) Tryz.results64 rfl rfl (got_set HU.out _ _ _ _ _ _ _) ⟨_, _, _, _, _, _, _, rfl, ⟨_, _, _, rfl⟩, HKK.out ▸ HX.out, ⟨_, h9, HLE.out, HR.out⟩, hk9, fun hh => ⟨rfl, rfl, rfl, rfl, rfl, BytesAt.got ((HB.out hh).weak (fun i _ hi => by have := hk1.size; omega)) hU _ _ _ _ _ _ _⟩⟩
end

end Go.Proofs.YtnccjcbelcbgoaaGreatDoor

/- The reference's reader: a step. -/
namespace Go.Proofs.YtnccjcbelcbgoaaGreatDoor
open Go Go.RowKit

section
variable {R TB DT : Nat} {c : Cfg} {n : Int} {tl : List Value} {rem : List UInt8} {w : World}

abbrev stepA (op : Int) : Array Value := #[.int .i64 op, .int .i64 0, .int .i64 0, .int .i64 0, .int .i64 0, .int .i64 0, .slice none 0 0]

set_option maxRecDepth 100000 in
set_option maxHeartbeats 4000000 in
theorem rd_step (op : Int) (h0 : 0 ≤ op) (h22 : op < 22) (h6 : ¬ op = 6) (hR : RdP R TB DT c.b c n tl rem w) {k : Int} {s' : List UInt8} {T KT SZ ID N : Int} {S : List UInt8}
    (hbin : ∀ w, RdP R TB DT c.b c n tl rem w → Calls Tryz.prog 64 #[.pointer (some ⟨R, 0, none⟩), .int .i64 op] w (GP R TB DT c n tl rem w k s' T KT SZ ID N S)) :
    Calls Tryz.prog 45 #[.pointer (some ⟨R, 0, none⟩), .agg (stepA op)] w (GP R TB DT c n tl rem w k s' T KT SZ ID N S) := by
  have hbn := c.b_ne
  obtain ⟨c0, c1, c2, c3, c4, c5, c6, c7, c8⟩ := hR.cells
  have hTU : TB < w.heap.size := lt_of_cell hR.tube.c0
  have hRU : R < w.heap.size := lt_of_cell c0
  have n22 : ¬ op = 22 := by omega
  have ncond : (decide (op < 0) || decide (22 < op) || op == 6) = false := by simp; omega
  have ncond1 : decide (op < 0) = false := by simp; omega
  have ncond2 : decide (22 < op) = false := by simp; omega
  have ncond3 : (op == 6) = false := by simp; omega
  have hk0 : Keep (fun _ => False) w ((w.alloc (.cells (stepA op) 143)).alloc (.cells zGot 140)) := ((Keep.refl _ w).alloc _).alloc _
  have hU0 := heap_alloc_new (w.alloc (.cells (stepA op) 143)) (.cells zGot 140)
  go_enter Tryz.func45, Tryz.ntmps45
  go_wp2_with fail
  obtain ⟨U, hU⟩ : ∃ U, w.heap.size + 1 = U := ⟨_, rfl⟩
  have hUs : ((w.alloc (.cells (stepA op) 143)).alloc (.cells zGot 140)).heap.size = U + 1 := by simp [← hU]
  rw [show (w.alloc (.cells (stepA op) 143)).heap.size = U by simp [← hU]] at hU0
  generalize (w.alloc (.cells (stepA op) 143)).alloc (.cells zGot 140) = wA at *
  rw [hU]
  refine (hbin wA (hR.fresh hk0)).mono ?_
  rintro e w1 ⟨x, t, kt, size, id, N', S', rfl, ⟨Sa, Sm, Sc, rfl⟩, hx, ⟨r', h1, hle, hr⟩, hk1, hv⟩
  have HU := Lib.hid ((hk1.block U (lt_of_heap hU0) (by omega)).trans hU0)
  have HX := Lib.hid hx
  have HR := Lib.hid hr
  have HV := Lib.hid hv
  have HLE := Lib.hid hle
  clear hx hr hv hle
  obtain ⟨u0, u1, u2, u3, u4, u5, u6⟩ := got_cells HU.out
  obtain ⟨f0, f1, f2, f3, f4, f5, f6⟩ := got_free HU.out
  go_wp2_with fail
  have hk00 : Keep (TB = ·) w w1 := (hk0.weak (fun _ _ x => x.elim)).then hk1
  have hk2 : Keep (TB = ·) w (gotW w1 U x t kt size id N' (.slice Sa Sm Sc)) := got_keep hk00 (fun x => by omega) _ _ _ _ _ _ _
  have hkU : Keep (fun i => U = i) w1 (gotW w1 U x t kt size id N' (.slice Sa Sm Sc)) := got_keep (Keep.refl _ w1) (fun _ => rfl) _ _ _ _ _ _ _
  have h9 : RdP R TB DT c.b c n tl r' (gotW w1 U x t kt size id N' (.slice Sa Sm Sc)) := by
    refine ⟨(hkU.block R (lt_of_heap h1.blk) (by omega)).trans h1.blk, h1.tube.keep hkU (by omega) (fun hr' => ?_), h1.ne, h1.cok, h1.size⟩
    have := hR.dlt (fun e => hr' (List.eq_nil_of_length_eq_zero (by have := HLE.out; simp [e] at this; simpa using this)))
    omega
  refine ret_got (U := U) Tryz.results45 rfl rfl (got_set HU.out _ _ _ _ _ _ _) ⟨_, _, _, _, _, _, _, rfl, ⟨_, _, _, rfl⟩, HX.out, ⟨_, h9, HLE.out, HR.out⟩, hk2, fun hz => ?_⟩
  obtain ⟨v1, v2, v3, v4, v5, v6⟩ := HV.out hz
  exact ⟨v1, v2, v3, v4, v5, ((v6.weak (A' := fun i => U + 1 ≤ i) (fun i _ hi => by omega)).keep (got_keep (M := fun i => U = i) (Keep.refl _ w1) (fun _ => rfl) _ _ _ _ _ _ _) (fun i hi e => by omega)).weak (fun i _ hi => by omega)⟩
end

end Go.Proofs.YtnccjcbelcbgoaaGreatDoor

/- The reference: which step reads a scalar, which begins a container; a scalar's step. -/
namespace Go.Proofs.YtnccjcbelcbgoaaGreatDoor
open Go Go.RowKit

def opOf (t : Int) : Int := if t = 2 then 13 else if t = 3 then 14 else if t = 6 then 15 else if t = 8 then 16 else if t = 10 then 17 else if t = 4 then 18 else if t = 11 then 19 else if t = 16 then 21 else -1
def manyOf (t : Int) : Int := if t = 13 then 7 else if t = 15 then 9 else 11

set_option maxHeartbeats 2000000 in
theorem spec_op (t : Int) (w : World) : Calls Tryz.prog 44 #[.int .i64 t] w fun e w' => e = .returned (.int .i64 (opOf t)) ∧ w = w' := by
  go_enter Tryz.func44, Tryz.ntmps44
  go_wp2_with fail
  all_goals
    go_ret
    refine ⟨?_, rfl⟩
    simp_all [opOf]

set_option maxHeartbeats 2000000 in
theorem spec_many (t : Int) (w : World) : Calls Tryz.prog 65 #[.int .i64 t] w fun e w' => e = .returned (.int .i64 (manyOf t)) ∧ w = w' := by
  go_enter Tryz.func65, Tryz.ntmps65
  go_wp2_with fail
  all_goals
    go_ret
    refine ⟨?_, rfl⟩
    simp_all [manyOf]

theorem opOf_sc (t : Int) : (isSc t = true ∧ 13 ≤ opOf t ∧ opOf t ≤ 21) ∨ (isSc t = false ∧ opOf t = -1) := by
  unfold opOf isSc
  repeat' split
  all_goals simp_all

section
variable {R TB DT : Nat} {n : Int} {tl : List Value} {rem : List UInt8} {w : World}

/-- A scalar of type t is read by its step. -/
theorem rd_scalar (K : Bin.Ctx) (t : Int) (ht : isSc t = true) (hR : RdP R TB DT K.c.b K.c n tl rem w) :
    Calls Tryz.prog 45 #[.pointer (some ⟨R, 0, none⟩), .agg (stepA (opOf t))] w (GP R TB DT K.c n tl rem w ((Bin.pr K).scK t rem) ((Bin.pr K).scS t rem) 0 0 0 0 ((Bin.pr K).scN t rem) ((Bin.pr K).scB t rem)) := by
  have ht : t = 2 ∨ t = 3 ∨ t = 6 ∨ t = 8 ∨ t = 10 ∨ t = 4 ∨ t = 11 ∨ t = 16 := by simpa [isSc, or_assoc] using ht
  rcases ht with rfl | rfl | rfl | rfl | rfl | rfl | rfl | rfl
  · rw [Bin.k2, Bin.s2]
    exact rd_step 13 (by omega) (by omega) (by omega) hR (fun w h => bin_op13 h)
  · rw [Bin.k3, Bin.s3]
    exact rd_step 14 (by omega) (by omega) (by omega) hR (fun w h => bin_op14 h)
  · rw [Bin.k6, Bin.s6, Bin.n6]
    exact rd_step 15 (by omega) (by omega) (by omega) hR (fun w h => bin_op15 h)
  · rw [Bin.k8, Bin.s8, Bin.n8]
    exact rd_step 16 (by omega) (by omega) (by omega) hR (fun w h => bin_op16 h)
  · rw [Bin.k10, Bin.s10, Bin.n10]
    exact rd_step 17 (by omega) (by omega) (by omega) hR (fun w h => bin_op17 h)
  · rw [Bin.k4, Bin.s4, Bin.n4]
    exact rd_step 18 (by omega) (by omega) (by omega) hR (fun w h => bin_op18 h)
  · rw [Bin.k11, Bin.s11, Bin.b11]
    exact rd_step 19 (by omega) (by omega) (by omega) hR (fun w h => bin_op19 h)
  · rw [Bin.k16, Bin.s16, Bin.b16]
    exact rd_step 21 (by omega) (by omega) (by omega) hR (fun w h => bin_op21 h)
end

end Go.Proofs.YtnccjcbelcbgoaaGreatDoor

/- A reader of the reference, as such: what each of its steps tells and leaves. -/
namespace Go.Proofs.YtnccjcbelcbgoaaGreatDoor
open Go Go.RowKit

/-- A reader: its block, its protocol as plain functions, the blocks that are its own, what holds of it. -/
structure Rdr (σ : Type) where
  R : Nat
  pr : Pr σ
  M : World → Nat → Prop
  Inv : σ → World → Prop

/-- What a step tells: of kind k, leaving s', with these values. -/
def Rdr.GP {σ : Type} (r : Rdr σ) (w : World) (k : Int) (s' : σ) (T KT SZ ID N : Int) (S : List UInt8) (e : Ending) (w' : World) : Prop :=
  ∃ x t kt size id N' S', e = .returned (gotV x t kt size id N' S') ∧ (∃ a m cc, S' = .slice a m cc) ∧ Sk k x ∧ (∃ s2, r.Inv s2 w' ∧ (x = 0 → s2 = s')) ∧ Kpt r.M w w' ∧
    (x = 0 → t = T ∧ kt = KT ∧ size = SZ ∧ id = ID ∧ N' = N ∧ BytesAt (fun i => w.heap.size ≤ i ∧ ¬ r.M w' i) w' S' S)

abbrev Rdr.Step {σ : Type} (r : Rdr σ) (op : Int) (w : World) (Q : Ending → World → Prop) : Prop := Calls Tryz.prog 45 #[.pointer (some ⟨r.R, 0, none⟩), .agg (stepA op)] w Q

structure Rdr.Ok {σ : Type} (r : Rdr σ) : Prop where
  pr : r.pr.Ok
  lt : ∀ {s : σ} {w : World}, r.Inv s w → ∀ i, r.M w i → i < w.heap.size
  turn : ∀ {s : σ} {w w' : World} {N : Nat → Prop}, r.Inv s w → Keep N w w' → (∀ i, N i → ¬ r.M w i) → r.Inv s w' ∧ ∀ i, r.M w' i → r.M w i
  sc : ∀ {s : σ} {w : World} (t : Int), isSc t = true → r.Inv s w → r.Step (opOf t) w (r.GP w (r.pr.scK t s) (r.pr.scS t s) 0 0 0 0 (r.pr.scN t s) (r.pr.scB t s))
  sb : ∀ {s : σ} {w : World}, r.Inv s w → r.pr.dep s < 1099511627776 → r.Step 2 w (r.GP w 0 (r.pr.sbS s) 0 0 0 0 0 [])
  se : ∀ {s : σ} {w : World}, r.Inv s w → r.pr.one ≤ r.pr.dep s → r.Step 3 w (r.GP w 0 (r.pr.seS s) 0 0 0 0 0 [])
  f : ∀ {s : σ} {w : World}, r.Inv s w → r.Step 4 w (r.GP w (r.pr.fK s) (r.pr.fS s) (r.pr.fT s) 0 0 (r.pr.fI s) 0 [])
  fe : ∀ {s : σ} {w : World}, r.Inv s w → r.Step 5 w (r.GP w 0 (r.pr.feS s) 0 0 0 0 0 [])
  m : ∀ {s : σ} {w : World}, r.Inv s w → r.Step 7 w (r.GP w (r.pr.mK s) (r.pr.mS s) (r.pr.mT s) (r.pr.mKT s) (r.pr.mN s) 0 0 [])
  me : ∀ {s : σ} {w : World}, r.Inv s w → r.Step 8 w (r.GP w 0 (r.pr.meS s) 0 0 0 0 0 [])
  l : ∀ {s : σ} {w : World}, r.Inv s w → r.Step 9 w (r.GP w (r.pr.lK s) (r.pr.lS s) (r.pr.lT s) 0 (r.pr.lN s) 0 0 [])
  le : ∀ {s : σ} {w : World}, r.Inv s w → r.Step 10 w (r.GP w 0 (r.pr.leS s) 0 0 0 0 0 [])
  t : ∀ {s : σ} {w : World}, r.Inv s w → r.Step 11 w (r.GP w (r.pr.lK s) (r.pr.lS s) (r.pr.lT s) 0 (r.pr.lN s) 0 0 [])
  te : ∀ {s : σ} {w : World}, r.Inv s w → r.Step 12 w (r.GP w 0 (r.pr.leS s) 0 0 0 0 0 [])

theorem Rdr.Ok.fresh {σ : Type} {r : Rdr σ} (ok : r.Ok) {s : σ} {w w' : World} (h : r.Inv s w) (k : Keep (fun _ => False) w w') : r.Inv s w' := (ok.turn h k (fun _ x => x.elim)).1
theorem Rdr.Ok.kept {σ : Type} {r : Rdr σ} (ok : r.Ok) {s : σ} {w w' : World} (h : r.Inv s w) (k : Keep (fun _ => False) w w') : Kpt r.M w w' :=
  ⟨k.weak (fun _ _ x => x.elim), fun i _ => (ok.turn h k (fun _ x => x.elim)).2 i⟩
/-- A block that is allocated anew is none of the reader's. -/
theorem Rdr.Ok.new {σ : Type} {r : Rdr σ} (ok : r.Ok) {s : σ} {w w' : World} (h : r.Inv s w) (k : Keep (fun _ => False) w w') : ∀ i, w.heap.size ≤ i → ¬ r.M w' i := fun i hi x => by
  have := ok.lt h i ((ok.turn h k (fun _ x => x.elim)).2 i x)
  omega
theorem got_field0 (k t kt size id n : Int) (s : Value) (w : World) : (Instr.field 140 (gotV k t kt size id n s) 0).run Tryz.prog w = .ok (.int .i64 k) w := by kernel_rfl

/-- What passing over tells, against what the program does. -/
def Rdr.SkP {σ : Type} (r : Rdr σ) (w : World) (q : Int × σ) (e : Ending) (w' : World) : Prop :=
  ∃ x, e = .returned (.int .i64 x) ∧ Sk q.1 x ∧ (∃ s2, r.Inv s2 w' ∧ (x = 0 → s2 = q.2)) ∧ Kpt r.M w w'

abbrev Rdr.Skips {σ : Type} (r : Rdr σ) (d : Nat) : Prop := ∀ (deep t : Int) (s : σ) (w : World), deep.toNat = d → -9223372036854775808 ≤ deep → deep ≤ 9223372036854775807 → r.Inv s w → r.pr.Room s →
  Calls Tryz.prog 62 #[.pointer (some ⟨r.R, 0, none⟩), .int .i64 t, .int .i64 deep] w (r.SkP w (skp r.pr d t s))

section
variable {σ : Type} {r : Rdr σ} {s : σ} {w : World}

set_option maxHeartbeats 2000000 in
theorem Rdr.skip_zero : r.Skips 0 := by
  intro deep t s w hd hlo hhi hR _
  have hle : deep ≤ 0 := by omega
  go_enter Tryz.func62, Tryz.ntmps62
  go_wp2_with fail
  go_ret
  exact ⟨_, rfl, .inr (.inr rfl), ⟨_, hR, fun hh => by cases hh⟩, Kpt.refl _ _⟩

set_option maxRecDepth 100000 in
set_option maxHeartbeats 2000000 in
theorem Rdr.skip_scalar (ok : r.Ok) (deep t : Int) (hd : 0 < deep) (ht : isSc t = true) (hR : r.Inv s w) :
    Calls Tryz.prog 62 #[.pointer (some ⟨r.R, 0, none⟩), .int .i64 t, .int .i64 deep] w (r.SkP w (r.pr.scK t s, r.pr.scS t s)) := by
  obtain ⟨_, ho1, ho2⟩ : isSc t = true ∧ 13 ≤ opOf t ∧ opOf t ≤ 21 := by
    rcases opOf_sc t with h | h
    · exact h
    · rw [ht] at h; exact absurd h.1 (by decide)
  have hstep : Calls _ _ _ _ _ := ok.sc t ht hR
  obtain ⟨o, ho⟩ : ∃ o, opOf t = o := ⟨_, rfl⟩
  rw [ho] at hstep ho1 ho2
  have HO := Lib.hid ho
  clear ho
  go_enter Tryz.func62, Tryz.ntmps62
  go_wp2_with fail
  refine (spec_op t w).mono ?_
  rintro e w1 ⟨rfl, rfl⟩
  rw [HO.out]
  go_wp2_with fail
  refine hstep.mono ?_
  rintro e w2 ⟨x, t', kt, size, id, N', S', rfl, ⟨a, m, cc, rfl⟩, hx, hr, hk, _⟩
  have HX := Lib.hid hx
  have hf := got_field0 x t' kt size id N' (.slice a m cc)
  clear hx
  go_wp2_with fail
  go_ret
  exact ⟨_, rfl, HX.out, hr, hk⟩
end

end Go.Proofs.YtnccjcbelcbgoaaGreatDoor

/- The reference: passing over structs. -/
namespace Go.Proofs.YtnccjcbelcbgoaaGreatDoor
open Go Go.RowKit

section
variable {σ : Type} {r : Rdr σ} {s : σ} {w : World}

/-- Ahead of each field. -/
def Rdr.FldRel {σ : Type} (r : Rdr σ) (w : World) (f : Int → σ → Int × σ) (tot : Int × σ) (b k : Nat) (wr : World) : Prop :=
  ∃ s, r.Inv s wr ∧ Kpt r.M w wr ∧ r.pr.len s < k ∧ flds r.pr f k s = tot ∧ r.pr.one ≤ r.pr.dep s ∧ r.pr.len s + r.pr.dep s ≤ b

set_option maxRecDepth 100000 in
set_option maxHeartbeats 8000000 in
theorem Rdr.skip_struct (ok : r.Ok) (d : Nat) (ih : r.Skips d) (deep : Int) (hdd : deep.toNat = d + 1) (hd : 0 < deep) (hhi : deep ≤ 9223372036854775807) (hR : r.Inv s w) (hroom : r.pr.Room s) :
    Calls Tryz.prog 71 #[.pointer (some ⟨r.R, 0, none⟩), .int .i64 deep] w (r.SkP w (flds r.pr (skp r.pr d) (r.pr.len (r.pr.sbS s) + 1) (r.pr.sbS s))) := by
  obtain ⟨tot, htot⟩ : ∃ tot, flds r.pr (skp r.pr d) (r.pr.len (r.pr.sbS s) + 1) (r.pr.sbS s) = tot := ⟨_, rfl⟩
  rw [htot]
  have HT := Lib.hid htot
  have HDD := Lib.hid hdd
  clear htot hdd
  have hR0 : r.pr.len s + r.pr.dep s < 1099511627776 := hroom
  have HRM := Lib.hid hR0
  clear hroom hR0
  have hs2 : Calls _ _ _ _ _ := ok.sb hR (by have := HRM.out; omega)
  go_enter Tryz.func71, Tryz.ntmps71
  go_wp2_with fail
  refine hs2.mono ?_
  rintro e w2 ⟨x, t', kt, size, id, N', S', rfl, ⟨a, m, cc, rfl⟩, hx, ⟨r', hr1, hr3⟩, hk, _⟩
  have h0 : x = 0 ∨ x = -2 := by unfold Sk at hx; omega
  rcases h0 with rfl | rfl
  · obtain rfl := hr3 rfl
    clear hx hr3
    go_wp2_with fail
    go_loopg [] (r.pr.len (r.pr.sbS s) + 1) (fun k wr => r.FldRel w (skp r.pr d) tot (r.pr.len s + r.pr.dep s + r.pr.one) k wr)
    case atStart =>
      exact ⟨_, ok.fresh hr1 ((Keep.refl _ w2).alloc _), hk.then (ok.kept hr1 ((Keep.refl _ w2).alloc _)), Nat.lt_succ_self _, HT.out, by rw [ok.pr.dsb]; omega, by rw [ok.pr.dsb]; have := ok.pr.sb s; omega⟩
    case round =>
      obtain ⟨s1, hi1, hk1, hlt, hfl, hdp⟩ := hrel
      have HDP := Lib.hid hdp
      clear hdp
      cases gk with
      | zero => exact absurd hlt (Nat.not_lt_zero _)
      | succ k =>
      have HF := Lib.hid hfl
      have HLT := Lib.hid hlt
      have hd1 : (deep - 1).toNat = d := by have := HDD.out; omega
      have HD := Lib.hid hd1
      clear hfl hlt hd1
      have hs4 : Calls _ _ _ _ _ := ok.f hi1
      go_wp2_with fail
      refine hs4.mono ?_
      rintro e w3 ⟨x, t, kt, size, id, N', S', rfl, ⟨a4, m4, cc4, rfl⟩, hx, ⟨r4, h4, hr4⟩, hk4, hv⟩
      clear hs4
      by_cases hz : x = 0
      · subst hz
        obtain rfl := hr4 rfl
        have HT0 := Lib.hid (hv rfl).1
        have HZ := Lib.hid (show r.pr.fK s1 = 0 from Sk.zero hx)
        clear hx hv hr4
        by_cases ht0 : t = 0
        · subst ht0
          go_wp2_with fail
          refine Calls.mono (ok.se (ok.fresh h4 ((Keep.refl _ _).alloc _)) (by rw [ok.pr.df s1 HZ.out]; exact HDP.out.1)) ?_
          rintro e w5 ⟨x5, t5, kt5, size5, id5, N5, S5, rfl, ⟨a5, m5, cc5, rfl⟩, hx5, ⟨r5, h5, hr5⟩, hk5, _⟩
          have hf := got_field0 x5 t5 kt5 size5 id5 N5 (.slice a5 m5 cc5)
          have HX := Lib.hid hx5
          have HR := Lib.hid hr5
          clear hx5 hr5
          go_wp2_with fail
          go_ret
          have e1 : tot = (0, r.pr.seS (r.pr.fS s1)) := by
            rw [← HF.out]; simp only [flds]; rw [if_pos HZ.out, if_pos (show r.pr.fT s1 = 0 from HT0.out.symm)]
          rw [e1]
          exact ⟨_, rfl, HX.out, ⟨_, h5, HR.out⟩, (hk1.then hk4).then ((ok.kept h4 ((Keep.refl _ w3).alloc _)).then hk5)⟩
        · go_wp2_with fail
          refine (ih (deep - 1) t _ _ HD.out (by omega) (by omega) (ok.fresh h4 ((Keep.refl _ _).alloc _)) (by have a1 := ok.pr.df s1 HZ.out; have a2 := ok.pr.f s1 HZ.out; have a3 := HDP.out.2; have a4 := ok.pr.one1; have a5 := HRM.out; show _ + _ < _; omega)).mono ?_
          rintro e w5 ⟨x5, rfl, hx5, ⟨r5, h5, hr5⟩, hk5⟩
          have hne : ¬ r.pr.fT s1 = 0 := fun hh => ht0 (HT0.out.trans hh)
          have ht' : t = r.pr.fT s1 := HT0.out
          have HX := Lib.hid hx5
          have HR := Lib.hid hr5
          have HNE := Lib.hid hne
          have HT' := Lib.hid ht'
          clear hx5 hr5 hne ht'
          by_cases hz5 : x5 = 0
          · subst hz5
            have hs0 := Sk.zero HX.out
            have hr5 := HR.out rfl
            rw [HT'.out] at hs0 hr5
            subst hr5
            have HS0 := Lib.hid hs0
            clear hs0
            go_wp2_with fail
            refine Calls.mono (ok.fe h5) ?_
            rintro e w6 ⟨x6, t6, kt6, size6, id6, N6, S6, rfl, ⟨a6, m6, cc6, rfl⟩, hx6, ⟨r6, h6, hr6⟩, hk6, _⟩
            have hx60 : x6 = 0 ∨ x6 = -2 := by unfold Sk at hx6; omega
            clear hx6
            rcases hx60 with rfl | rfl
            · obtain rfl := hr6 rfl
              clear hr6
              go_wp2_with fail
              go_roundg k
              case measure => exact Nat.lt_succ_self _
              case rel =>
                have a1 := ok.pr.fe (skp r.pr d (r.pr.fT s1) (r.pr.fS s1)).2
                have a2 := skp_len ok.pr d _ _ HS0.out
                have a3 := ok.pr.f s1 HZ.out
                have a4 := HLT.out
                have a5 := ok.pr.dfe (skp r.pr d (r.pr.fT s1) (r.pr.fS s1)).2
                have a6 := skp_dep ok.pr d _ _ HS0.out
                have a7 := ok.pr.df s1 HZ.out
                have a8 := HDP.out
                refine ⟨_, ok.fresh h6 ((Keep.refl _ _).alloc _), (hk1.then hk4).then (((ok.kept h4 ((Keep.refl _ w3).alloc _)).then hk5).then (hk6.then (ok.kept h6 ((Keep.refl _ _).alloc _)))), by omega, ?_, by omega, by omega⟩
                rw [← HF.out]; simp only [flds]; rw [if_pos HZ.out, if_neg HNE.out, if_pos HS0.out]
            · clear hr6
              go_wp2_with fail
              go_ret
              exact ⟨_, rfl, .inl rfl, ⟨_, ok.fresh h6 ((Keep.refl _ _).alloc _), fun hh => by cases hh⟩, (hk1.then hk4).then (((ok.kept h4 ((Keep.refl _ w3).alloc _)).then hk5).then (hk6.then (ok.kept h6 ((Keep.refl _ _).alloc _))))⟩
          · have H5 := Lib.hid hz5
            go_wp2_with fail
            go_ret
            refine ⟨_, rfl, ?_, ⟨_, h5, fun hh => absurd hh H5.out⟩, (hk1.then hk4).then ((ok.kept h4 ((Keep.refl _ w3).alloc _)).then hk5)⟩
            have hX := HX.out
            rw [HT'.out] at hX
            by_cases hq : (skp r.pr d (r.pr.fT s1) (r.pr.fS s1)).1 = 0
            · have := H5.out
              unfold Sk at hX ⊢; omega
            · have e1 : tot = skp r.pr d (r.pr.fT s1) (r.pr.fS s1) := by
                rw [← HF.out]; simp only [flds]; rw [if_pos HZ.out, if_neg HNE.out, if_neg hq]
              rw [e1]; exact hX
      · have H5 := Lib.hid hz
        have HX := Lib.hid hx
        clear hx hv hr4
        go_wp2_with fail
        go_ret
        refine ⟨_, rfl, ?_, ⟨_, ok.fresh h4 ((Keep.refl _ _).alloc _), fun hh => absurd hh H5.out⟩, (hk1.then hk4).then (ok.kept h4 ((Keep.refl _ _).alloc _))⟩
        have hX := HX.out
        by_cases hq : r.pr.fK s1 = 0
        · have := H5.out
          unfold Sk at hX ⊢; omega
        · have e1 : tot = (r.pr.fK s1, r.pr.fS s1) := by
            rw [← HF.out]; simp only [flds]; rw [if_neg hq]
          rw [e1]; exact hX
  · clear hr3 hx
    go_wp2_with fail
    go_ret
    exact ⟨_, rfl, .inl rfl, ⟨_, ok.fresh hr1 ((Keep.refl _ w2).alloc _), fun hh => by cases hh⟩, hk.then (ok.kept hr1 ((Keep.refl _ w2).alloc _))⟩
end

end Go.Proofs.YtnccjcbelcbgoaaGreatDoor

/- The reference: passing over lists, sets and maps. -/
namespace Go.Proofs.YtnccjcbelcbgoaaGreatDoor
open Go Go.RowKit

section
variable {σ : Type} {r : Rdr σ} {s : σ} {w : World}

/-- Ahead of each element: what was told of the container lies in block U. -/
def Rdr.RepRel {σ : Type} (r : Rdr σ) (w : World) (U : Nat) (g : Array Value) (f : σ → Int × σ) (sz : Int) (tot : Int × σ) (k : Nat) (v : Value) (wr : World) : Prop :=
  ∃ i s, v = .int .i64 i ∧ 0 ≤ i ∧ k = (sz - i).toNat ∧ r.Inv s wr ∧ Kpt r.M w wr ∧ wr.heap[U]? = some (.cells g 140 (0, 0)) ∧ ¬ r.M wr U ∧ rep f k s = tot ∧ r.pr.Room s

set_option maxRecDepth 100000 in
set_option maxHeartbeats 8000000 in
theorem Rdr.skip_list (ok : r.Ok) (d : Nat) (ih : r.Skips d) (deep : Int) (hdd : deep.toNat = d + 1) (hd : 0 < deep) (hhi : deep ≤ 9223372036854775807) (hR : r.Inv s w) (hroom : r.pr.Room s) :
    Calls Tryz.prog 72 #[.pointer (some ⟨r.R, 0, none⟩), .int .i64 15, .int .i64 deep] w (r.SkP w (skp r.pr (d + 1) 15 s)) := by
  obtain ⟨res, hres⟩ : ∃ res, skp r.pr (d + 1) 15 s = res := ⟨_, rfl⟩
  rw [hres]
  have HRES := Lib.hid hres
  have HDD := Lib.hid hdd
  clear hres hdd
  have HRM := Lib.hid hroom
  clear hroom
  have hs : Calls _ _ _ _ _ := ok.l hR
  go_enter Tryz.func72, Tryz.ntmps72
  go_wp2_with fail
  refine (spec_many 15 w).mono ?_
  rintro e w1 ⟨rfl, rfl⟩
  rw [show manyOf 15 = 9 by decide]
  go_wp2_with fail
  refine hs.mono ?_
  rintro e w2 ⟨x, t, kt, size, id, N', S', rfl, ⟨a, m, cc, rfl⟩, hx, ⟨r', hr1, hr3⟩, hk, hv⟩
  by_cases hz : x = 0
  · subst hz
    obtain rfl := hr3 rfl
    obtain ⟨ht, _, hsz, _⟩ := hv rfl
    have hK : r.pr.lK s = 0 := Sk.zero hx
    have hszb : size ≤ 2147483647 := by rw [hsz]; exact ok.pr.lb s
    obtain ⟨tot, htot⟩ : ∃ tot, rep (skp r.pr d t) size.toNat (r.pr.lS s) = tot := ⟨_, rfl⟩
    have hrt : res = endby r.pr.leS tot := by
      rw [← HRES.out, ← htot, ht, hsz]; simp [skp, isSc, hK]
    have HT := Lib.hid htot
    have HRT := Lib.hid hrt
    clear hx hv hr3 htot hrt ht hsz
    go_wp2_with fail
    go_loopg [8] size.toNat (fun k v wr => r.RepRel w w2.heap.size (gotA 0 t 0 size 0 0 (.slice a m cc)) (skp r.pr d t) size tot k v wr)
    case atStart => exact ⟨0, _, rfl, by omega, by rw [Int.sub_zero], ok.fresh hr1 ((Keep.refl _ _).alloc _), hk.then (ok.kept hr1 ((Keep.refl _ _).alloc _)), heap_alloc_new _ _, ok.new hr1 ((Keep.refl _ _).alloc _) _ (Nat.le_refl _), HT.out, by have a1 := ok.pr.l s hK; have a2 := ok.pr.dl s hK; have a3 : _ + _ < _ := HRM.out; show _ + _ < _; omega⟩
    case round =>
      obtain ⟨i, s1, rfl, hi0, hk0, hi1, hk1, hg, hgm, hr, hrm⟩ := hrel
      have HGM := Lib.hid hgm
      have HRM1 := Lib.hid hrm
      clear hgm hrm
      obtain ⟨u0, u1, u2, u3, u4, u5, u6⟩ := got_cells hg
      have HG := Lib.hid hg
      have hd1 : (deep - 1).toNat = d := by have := HDD.out; omega
      have HD := Lib.hid hd1
      clear hg hd1
      by_cases hin : i < size
      · cases gk with
        | zero => omega
        | succ k =>
        have HK := Lib.hid hk0
        have HR := Lib.hid hr
        clear hr hk0
        go_wp2_with fail
        refine (ih (deep - 1) t _ wr HD.out (by omega) (by omega) hi1 HRM1.out).mono ?_
        rintro e w3 ⟨x3, rfl, hx3, ⟨r3, h3, hr3⟩, hk3⟩
        have hg3 := (hk3.block w2.heap.size (lt_of_heap HG.out) HGM.out).trans HG.out
        have HX := Lib.hid hx3
        have HR3 := Lib.hid hr3
        clear hx3 hr3
        by_cases hz3 : x3 = 0
        · subst hz3
          have hs0 := Sk.zero HX.out
          have hr3 := HR3.out rfl
          subst hr3
          have HS0 := Lib.hid hs0
          have HG3 := Lib.hid hg3
          clear hs0 hg3
          go_wp2_with fail
          go_roundg k
          case measure => exact Nat.lt_succ_self _
          case rel => exact ⟨i + 1, _, rfl, by omega, by have := HK.out; omega, h3, hk1.then hk3, HG3.out, hk3.not (lt_of_heap HG.out) HGM.out, by rw [← HR.out, rep_ok HS0.out], by have a1 := skp_len ok.pr d _ _ HS0.out; have a2 := skp_dep ok.pr d _ _ HS0.out; have a3 : _ + _ < _ := HRM1.out; show _ + _ < _; omega⟩
        · have H5 := Lib.hid hz3
          clear hg3
          go_wp2_with fail
          go_ret
          refine ⟨_, rfl, ?_, ⟨_, h3, fun hh => absurd hh H5.out⟩, hk1.then hk3⟩
          have hX := HX.out
          by_cases hq : (skp r.pr d t s1).1 = 0
          · have := H5.out
            unfold Sk at hX ⊢; omega
          · have e1 : res = skp r.pr d t s1 := by
              rw [HRT.out, ← HR.out, rep_bad hq]; exact endby_bad hq
            rw [e1]; exact hX
      · have hgk : gk = 0 := by omega
        subst hgk
        have HR := Lib.hid hr
        clear hr hk0
        go_wp2_with fail
        refine (spec_many 15 wr).mono ?_
        rintro e w3 ⟨rfl, rfl⟩
        rw [show manyOf 15 = 9 by decide]
        go_wp2_with fail
        refine Calls.mono (ok.le hi1) ?_
        rintro e w5 ⟨x5, t5, kt5, size5, id5, N5, S5, rfl, ⟨a5, m5, cc5, rfl⟩, hx5, ⟨r5, h5, hr5⟩, hk5, _⟩
        have hf := got_field0 x5 t5 kt5 size5 id5 N5 (.slice a5 m5 cc5)
        have HX := Lib.hid hx5
        have HR5 := Lib.hid hr5
        clear hx5 hr5
        go_wp2_with fail
        go_ret
        have e1 : res = (0, r.pr.leS s1) := by rw [HRT.out, ← HR.out]; rfl
        rw [e1]
        exact ⟨_, rfl, HX.out, ⟨_, h5, HR5.out⟩, hk1.then hk5⟩
  · have H5 := Lib.hid hz
    have HX := Lib.hid hx
    clear hx hv hr3
    go_wp2_with fail
    go_ret
    refine ⟨_, rfl, ?_, ⟨_, ok.fresh hr1 ((Keep.refl _ _).alloc _), fun hh => absurd hh H5.out⟩, hk.then (ok.kept hr1 ((Keep.refl _ _).alloc _))⟩
    have hX := HX.out
    by_cases hq : r.pr.lK s = 0
    · have := H5.out
      unfold Sk at hX ⊢; omega
    · have e1 : res = (r.pr.lK s, r.pr.lS s) := by
        rw [← HRES.out]
        simp [skp, isSc, hq]
      rw [e1]; exact hX

set_option maxRecDepth 100000 in
set_option maxHeartbeats 8000000 in
theorem Rdr.skip_set (ok : r.Ok) (d : Nat) (ih : r.Skips d) (deep : Int) (hdd : deep.toNat = d + 1) (hd : 0 < deep) (hhi : deep ≤ 9223372036854775807) (hR : r.Inv s w) (hroom : r.pr.Room s) :
    Calls Tryz.prog 72 #[.pointer (some ⟨r.R, 0, none⟩), .int .i64 14, .int .i64 deep] w (r.SkP w (skp r.pr (d + 1) 14 s)) := by
  obtain ⟨res, hres⟩ : ∃ res, skp r.pr (d + 1) 14 s = res := ⟨_, rfl⟩
  rw [hres]
  have HRES := Lib.hid hres
  have HDD := Lib.hid hdd
  clear hres hdd
  have HRM := Lib.hid hroom
  clear hroom
  have hs : Calls _ _ _ _ _ := ok.t hR
  go_enter Tryz.func72, Tryz.ntmps72
  go_wp2_with fail
  refine (spec_many 14 w).mono ?_
  rintro e w1 ⟨rfl, rfl⟩
  rw [show manyOf 14 = 11 by decide]
  go_wp2_with fail
  refine hs.mono ?_
  rintro e w2 ⟨x, t, kt, size, id, N', S', rfl, ⟨a, m, cc, rfl⟩, hx, ⟨r', hr1, hr3⟩, hk, hv⟩
  by_cases hz : x = 0
  · subst hz
    obtain rfl := hr3 rfl
    obtain ⟨ht, _, hsz, _⟩ := hv rfl
    have hK : r.pr.lK s = 0 := Sk.zero hx
    have hszb : size ≤ 2147483647 := by rw [hsz]; exact ok.pr.lb s
    obtain ⟨tot, htot⟩ : ∃ tot, rep (skp r.pr d t) size.toNat (r.pr.lS s) = tot := ⟨_, rfl⟩
    have hrt : res = endby r.pr.leS tot := by
      rw [← HRES.out, ← htot, ht, hsz]; simp [skp, isSc, hK]
    have HT := Lib.hid htot
    have HRT := Lib.hid hrt
    clear hx hv hr3 htot hrt ht hsz
    go_wp2_with fail
    go_loopg [8] size.toNat (fun k v wr => r.RepRel w w2.heap.size (gotA 0 t 0 size 0 0 (.slice a m cc)) (skp r.pr d t) size tot k v wr)
    case atStart => exact ⟨0, _, rfl, by omega, by rw [Int.sub_zero], ok.fresh hr1 ((Keep.refl _ _).alloc _), hk.then (ok.kept hr1 ((Keep.refl _ _).alloc _)), heap_alloc_new _ _, ok.new hr1 ((Keep.refl _ _).alloc _) _ (Nat.le_refl _), HT.out, by have a1 := ok.pr.l s hK; have a2 := ok.pr.dl s hK; have a3 : _ + _ < _ := HRM.out; show _ + _ < _; omega⟩
    case round =>
      obtain ⟨i, s1, rfl, hi0, hk0, hi1, hk1, hg, hgm, hr, hrm⟩ := hrel
      have HGM := Lib.hid hgm
      have HRM1 := Lib.hid hrm
      clear hgm hrm
      obtain ⟨u0, u1, u2, u3, u4, u5, u6⟩ := got_cells hg
      have HG := Lib.hid hg
      have hd1 : (deep - 1).toNat = d := by have := HDD.out; omega
      have HD := Lib.hid hd1
      clear hg hd1
      by_cases hin : i < size
      · cases gk with
        | zero => omega
        | succ k =>
        have HK := Lib.hid hk0
        have HR := Lib.hid hr
        clear hr hk0
        go_wp2_with fail
        refine (ih (deep - 1) t _ wr HD.out (by omega) (by omega) hi1 HRM1.out).mono ?_
        rintro e w3 ⟨x3, rfl, hx3, ⟨r3, h3, hr3⟩, hk3⟩
        have hg3 := (hk3.block w2.heap.size (lt_of_heap HG.out) HGM.out).trans HG.out
        have HX := Lib.hid hx3
        have HR3 := Lib.hid hr3
        clear hx3 hr3
        by_cases hz3 : x3 = 0
        · subst hz3
          have hs0 := Sk.zero HX.out
          have hr3 := HR3.out rfl
          subst hr3
          have HS0 := Lib.hid hs0
          have HG3 := Lib.hid hg3
          clear hs0 hg3
          go_wp2_with fail
          go_roundg k
          case measure => exact Nat.lt_succ_self _
          case rel => exact ⟨i + 1, _, rfl, by omega, by have := HK.out; omega, h3, hk1.then hk3, HG3.out, hk3.not (lt_of_heap HG.out) HGM.out, by rw [← HR.out, rep_ok HS0.out], by have a1 := skp_len ok.pr d _ _ HS0.out; have a2 := skp_dep ok.pr d _ _ HS0.out; have a3 : _ + _ < _ := HRM1.out; show _ + _ < _; omega⟩
        · have H5 := Lib.hid hz3
          clear hg3
          go_wp2_with fail
          go_ret
          refine ⟨_, rfl, ?_, ⟨_, h3, fun hh => absurd hh H5.out⟩, hk1.then hk3⟩
          have hX := HX.out
          by_cases hq : (skp r.pr d t s1).1 = 0
          · have := H5.out
            unfold Sk at hX ⊢; omega
          · have e1 : res = skp r.pr d t s1 := by
              rw [HRT.out, ← HR.out, rep_bad hq]; exact endby_bad hq
            rw [e1]; exact hX
      · have hgk : gk = 0 := by omega
        subst hgk
        have HR := Lib.hid hr
        clear hr hk0
        go_wp2_with fail
        refine (spec_many 14 wr).mono ?_
        rintro e w3 ⟨rfl, rfl⟩
        rw [show manyOf 14 = 11 by decide]
        go_wp2_with fail
        refine Calls.mono (ok.te hi1) ?_
        rintro e w5 ⟨x5, t5, kt5, size5, id5, N5, S5, rfl, ⟨a5, m5, cc5, rfl⟩, hx5, ⟨r5, h5, hr5⟩, hk5, _⟩
        have hf := got_field0 x5 t5 kt5 size5 id5 N5 (.slice a5 m5 cc5)
        have HX := Lib.hid hx5
        have HR5 := Lib.hid hr5
        clear hx5 hr5
        go_wp2_with fail
        go_ret
        have e1 : res = (0, r.pr.leS s1) := by rw [HRT.out, ← HR.out]; rfl
        rw [e1]
        exact ⟨_, rfl, HX.out, ⟨_, h5, HR5.out⟩, hk1.then hk5⟩
  · have H5 := Lib.hid hz
    have HX := Lib.hid hx
    clear hx hv hr3
    go_wp2_with fail
    go_ret
    refine ⟨_, rfl, ?_, ⟨_, ok.fresh hr1 ((Keep.refl _ _).alloc _), fun hh => absurd hh H5.out⟩, hk.then (ok.kept hr1 ((Keep.refl _ _).alloc _))⟩
    have hX := HX.out
    by_cases hq : r.pr.lK s = 0
    · have := H5.out
      unfold Sk at hX ⊢; omega
    · have e1 : res = (r.pr.lK s, r.pr.lS s) := by
        rw [← HRES.out]
        simp [skp, isSc, hq]
      rw [e1]; exact hX
end

end Go.Proofs.YtnccjcbelcbgoaaGreatDoor

/- The reference: passing over maps. -/
namespace Go.Proofs.YtnccjcbelcbgoaaGreatDoor
open Go Go.RowKit

section
variable {σ : Type} {r : Rdr σ} {s : σ} {w : World}

set_option maxRecDepth 100000 in
set_option maxHeartbeats 8000000 in
theorem Rdr.skip_map (ok : r.Ok) (d : Nat) (ih : r.Skips d) (deep : Int) (hdd : deep.toNat = d + 1) (hd : 0 < deep) (hhi : deep ≤ 9223372036854775807) (hR : r.Inv s w) (hroom : r.pr.Room s) :
    Calls Tryz.prog 72 #[.pointer (some ⟨r.R, 0, none⟩), .int .i64 13, .int .i64 deep] w (r.SkP w (skp r.pr (d + 1) 13 s)) := by
  obtain ⟨res, hres⟩ : ∃ res, skp r.pr (d + 1) 13 s = res := ⟨_, rfl⟩
  rw [hres]
  have HRES := Lib.hid hres
  have HDD := Lib.hid hdd
  clear hres hdd
  have HRM := Lib.hid hroom
  clear hroom
  have hs : Calls _ _ _ _ _ := ok.m hR
  go_enter Tryz.func72, Tryz.ntmps72
  go_wp2_with fail
  refine (spec_many 13 w).mono ?_
  rintro e w1 ⟨rfl, rfl⟩
  rw [show manyOf 13 = 7 by decide]
  go_wp2_with fail
  refine hs.mono ?_
  rintro e w2 ⟨x, t, kt, size, id, N', S', rfl, ⟨a, m, cc, rfl⟩, hx, ⟨r', hr1, hr3⟩, hk, hv⟩
  by_cases hz : x = 0
  · subst hz
    obtain rfl := hr3 rfl
    obtain ⟨ht, hkt, hsz, _⟩ := hv rfl
    have hK : r.pr.mK s = 0 := Sk.zero hx
    have hszb : size ≤ 2147483647 := by rw [hsz]; exact ok.pr.mb s
    obtain ⟨tot, htot⟩ : ∃ tot, rep (twice (skp r.pr d kt) (skp r.pr d t)) size.toNat (r.pr.mS s) = tot := ⟨_, rfl⟩
    have hrt : res = endby r.pr.meS tot := by
      rw [← HRES.out, ← htot, ht, hkt, hsz]; simp [skp, isSc, hK]
    have HT := Lib.hid htot
    have HRT := Lib.hid hrt
    clear hx hv hr3 htot hrt ht hkt hsz
    go_wp2_with fail
    go_loopg [8] size.toNat (fun k v wr => r.RepRel w w2.heap.size (gotA 0 t kt size 0 0 (.slice a m cc)) (twice (skp r.pr d kt) (skp r.pr d t)) size tot k v wr)
    case atStart => exact ⟨0, _, rfl, by omega, by rw [Int.sub_zero], ok.fresh hr1 ((Keep.refl _ _).alloc _), hk.then (ok.kept hr1 ((Keep.refl _ _).alloc _)), heap_alloc_new _ _, ok.new hr1 ((Keep.refl _ _).alloc _) _ (Nat.le_refl _), HT.out, by have a1 := ok.pr.m s hK; have a2 := ok.pr.dm s hK; have a3 : _ + _ < _ := HRM.out; show _ + _ < _; omega⟩
    case round =>
      obtain ⟨i, s1, rfl, hi0, hk0, hi1, hk1, hg, hgm, hr, hrm⟩ := hrel
      have HGM := Lib.hid hgm
      have HRM1 := Lib.hid hrm
      clear hgm hrm
      obtain ⟨u0, u1, u2, u3, u4, u5, u6⟩ := got_cells hg
      have HG := Lib.hid hg
      have hd1 : (deep - 1).toNat = d := by have := HDD.out; omega
      have HD := Lib.hid hd1
      clear hg hd1
      by_cases hin : i < size
      · cases gk with
        | zero => omega
        | succ k =>
        have HK := Lib.hid hk0
        have HR := Lib.hid hr
        clear hr hk0
        go_wp2_with fail
        refine (ih (deep - 1) kt _ wr HD.out (by omega) (by omega) hi1 HRM1.out).mono ?_
        rintro e w3 ⟨x3, rfl, hx3, ⟨r3, h3, hr3⟩, hk3⟩
        have hg3 := (hk3.block w2.heap.size (lt_of_heap HG.out) HGM.out).trans HG.out
        have HX := Lib.hid hx3
        have HR3 := Lib.hid hr3
        clear hx3 hr3
        by_cases hz3 : x3 = 0
        · subst hz3
          have hs0 := Sk.zero HX.out
          have hr3 := HR3.out rfl
          subst hr3
          have HS0 := Lib.hid hs0
          have HG3 := Lib.hid hg3
          clear hs0 hg3 u0 u1 u2 u3 u4 u5 u6
          obtain ⟨u0, u1, u2, u3, u4, u5, u6⟩ := got_cells HG3.out
          go_wp2_with fail
          refine (ih (deep - 1) t _ w3 HD.out (by omega) (by omega) h3 (by have a1 := skp_len ok.pr d _ _ HS0.out; have a2 := skp_dep ok.pr d _ _ HS0.out; have a3 : _ + _ < _ := HRM1.out; show _ + _ < _; omega)).mono ?_
          rintro e w4 ⟨x4, rfl, hx4, ⟨r4, h4, hr4⟩, hk4⟩
          have hg4 := (hk4.block w2.heap.size (lt_of_heap HG3.out) (hk3.not (lt_of_heap HG.out) HGM.out)).trans HG3.out
          have HX4 := Lib.hid hx4
          have HR4 := Lib.hid hr4
          clear hx4 hr4
          by_cases hz4 : x4 = 0
          · subst hz4
            have hs1 := Sk.zero HX4.out
            have hr4 := HR4.out rfl
            subst hr4
            have HS1 := Lib.hid hs1
            have HG4 := Lib.hid hg4
            clear hs1 hg4
            go_wp2_with fail
            go_roundg k
            case measure => exact Nat.lt_succ_self _
            case rel => exact ⟨i + 1, _, rfl, by omega, by have := HK.out; omega, h4, (hk1.then hk3).then hk4, HG4.out, hk4.not (lt_of_heap HG3.out) (hk3.not (lt_of_heap HG.out) HGM.out), by rw [← HR.out, rep_ok (by rw [twice_ok HS0.out]; exact HS1.out), twice_ok HS0.out], by have a1 := skp_len ok.pr d _ _ HS0.out; have a2 := skp_dep ok.pr d _ _ HS0.out; have a4 := skp_len ok.pr d _ _ HS1.out; have a5 := skp_dep ok.pr d _ _ HS1.out; have a3 : _ + _ < _ := HRM1.out; show _ + _ < _; omega⟩
          · have H5 := Lib.hid hz4
            clear hg4
            go_wp2_with fail
            go_ret
            refine ⟨_, rfl, ?_, ⟨_, h4, fun hh => absurd hh H5.out⟩, (hk1.then hk3).then hk4⟩
            have hX := HX4.out
            by_cases hq : (skp r.pr d t (skp r.pr d kt s1).2).1 = 0
            · have := H5.out
              unfold Sk at hX ⊢; omega
            · have e1 : res = skp r.pr d t (skp r.pr d kt s1).2 := by
                rw [HRT.out, ← HR.out, rep_bad (by rw [twice_ok HS0.out]; exact hq), twice_ok HS0.out]; exact endby_bad hq
              rw [e1]; exact hX
        · have H5 := Lib.hid hz3
          clear hg3
          go_wp2_with fail
          go_ret
          refine ⟨_, rfl, ?_, ⟨_, h3, fun hh => absurd hh H5.out⟩, hk1.then hk3⟩
          have hX := HX.out
          by_cases hq : (skp r.pr d kt s1).1 = 0
          · have := H5.out
            unfold Sk at hX ⊢; omega
          · have e1 : res = skp r.pr d kt s1 := by
              rw [HRT.out, ← HR.out, rep_bad (by rw [twice_bad hq]; exact hq), twice_bad hq]; exact endby_bad hq
            rw [e1]; exact hX
      · have hgk : gk = 0 := by omega
        subst hgk
        have HR := Lib.hid hr
        clear hr hk0
        go_wp2_with fail
        refine (spec_many 13 wr).mono ?_
        rintro e w3 ⟨rfl, rfl⟩
        rw [show manyOf 13 = 7 by decide]
        go_wp2_with fail
        refine Calls.mono (ok.me hi1) ?_
        rintro e w5 ⟨x5, t5, kt5, size5, id5, N5, S5, rfl, ⟨a5, m5, cc5, rfl⟩, hx5, ⟨r5, h5, hr5⟩, hk5, _⟩
        have hf := got_field0 x5 t5 kt5 size5 id5 N5 (.slice a5 m5 cc5)
        have HX := Lib.hid hx5
        have HR5 := Lib.hid hr5
        clear hx5 hr5
        go_wp2_with fail
        go_ret
        have e1 : res = (0, r.pr.meS s1) := by rw [HRT.out, ← HR.out]; rfl
        rw [e1]
        exact ⟨_, rfl, HX.out, ⟨_, h5, HR5.out⟩, hk1.then hk5⟩
  · have H5 := Lib.hid hz
    have HX := Lib.hid hx
    clear hx hv hr3
    go_wp2_with fail
    go_ret
    refine ⟨_, rfl, ?_, ⟨_, ok.fresh hr1 ((Keep.refl _ _).alloc _), fun hh => absurd hh H5.out⟩, hk.then (ok.kept hr1 ((Keep.refl _ _).alloc _))⟩
    have hX := HX.out
    by_cases hq : r.pr.mK s = 0
    · have := H5.out
      unfold Sk at hX ⊢; omega
    · have e1 : res = (r.pr.mK s, r.pr.mS s) := by
        rw [← HRES.out]
        simp [skp, isSc, hq]
      rw [e1]; exact hX
end

end Go.Proofs.YtnccjcbelcbgoaaGreatDoor

/- The reference: passing over any value, by induction on the depth. -/
namespace Go.Proofs.YtnccjcbelcbgoaaGreatDoor
open Go Go.RowKit

section
variable {σ : Type} {r : Rdr σ}

set_option maxRecDepth 100000 in
set_option maxHeartbeats 4000000 in
theorem Rdr.Ok.skips (ok : r.Ok) (d : Nat) : r.Skips d := by
  induction d with
  | zero => exact Rdr.skip_zero
  | succ d ih =>
    intro deep t s w hd hlo hhi hR hroom
    have hd0 : 0 < deep := by omega
    by_cases hsc : isSc t = true
    · have e : skp r.pr (d + 1) t s = (r.pr.scK t s, r.pr.scS t s) := by simp only [skp]; rw [if_pos hsc]
      rw [e]
      exact Rdr.skip_scalar ok deep t hd0 hsc hR
    · by_cases h12 : t = 12
      · subst h12
        have e : skp r.pr (d + 1) 12 s = flds r.pr (skp r.pr d) (r.pr.len (r.pr.sbS s) + 1) (r.pr.sbS s) := by simp [skp, isSc]
        rw [e]
        have hc := Rdr.skip_struct ok d ih deep hd hd0 hhi hR hroom
        clear e hd ih
        go_enter Tryz.func62, Tryz.ntmps62
        go_wp2_with fail
        refine (spec_op 12 w).mono ?_
        rintro e w1 ⟨rfl, rfl⟩
        rw [show opOf 12 = -1 by decide]
        go_wp2_with fail
        refine hc.mono ?_
        rintro e w2 ⟨x, rfl, hx, hr, hk⟩
        have HX := Lib.hid hx
        clear hx
        go_wp2_with fail
        go_ret
        exact ⟨_, rfl, HX.out, hr, hk⟩
      · by_cases h13 : t = 13
        · subst h13
          have hc := Rdr.skip_map ok d ih deep hd hd0 hhi hR hroom
          obtain ⟨res, hres⟩ : ∃ res, skp r.pr (d + 1) 13 s = res := ⟨_, rfl⟩
          rw [hres] at hc ⊢
          clear hres hd ih
          go_enter Tryz.func62, Tryz.ntmps62
          go_wp2_with fail
          refine (spec_op 13 w).mono ?_
          rintro e w1 ⟨rfl, rfl⟩
          rw [show opOf 13 = -1 by decide]
          go_wp2_with fail
          refine hc.mono ?_
          rintro e w2 ⟨x, rfl, hx, hr, hk⟩
          have HX := Lib.hid hx
          clear hx
          go_wp2_with fail
          go_ret
          exact ⟨_, rfl, HX.out, hr, hk⟩
        · by_cases h14 : t = 14
          · subst h14
            have hc := Rdr.skip_set ok d ih deep hd hd0 hhi hR hroom
            obtain ⟨res, hres⟩ : ∃ res, skp r.pr (d + 1) 14 s = res := ⟨_, rfl⟩
            rw [hres] at hc ⊢
            clear hres hd ih
            go_enter Tryz.func62, Tryz.ntmps62
            go_wp2_with fail
            refine (spec_op 14 w).mono ?_
            rintro e w1 ⟨rfl, rfl⟩
            rw [show opOf 14 = -1 by decide]
            go_wp2_with fail
            refine hc.mono ?_
            rintro e w2 ⟨x, rfl, hx, hr, hk⟩
            have HX := Lib.hid hx
            clear hx
            go_wp2_with fail
            go_ret
            exact ⟨_, rfl, HX.out, hr, hk⟩
          · by_cases h15 : t = 15
            · subst h15
              have hc := Rdr.skip_list ok d ih deep hd hd0 hhi hR hroom
              obtain ⟨res, hres⟩ : ∃ res, skp r.pr (d + 1) 15 s = res := ⟨_, rfl⟩
              rw [hres] at hc ⊢
              clear hres hd ih
              go_enter Tryz.func62, Tryz.ntmps62
              go_wp2_with fail
              refine (spec_op 15 w).mono ?_
              rintro e w1 ⟨rfl, rfl⟩
              rw [show opOf 15 = -1 by decide]
              go_wp2_with fail
              refine hc.mono ?_
              rintro e w2 ⟨x, rfl, hx, hr, hk⟩
              have HX := Lib.hid hx
              clear hx
              go_wp2_with fail
              go_ret
              exact ⟨_, rfl, HX.out, hr, hk⟩
            · have e : skp r.pr (d + 1) t s = (11, s) := by
                simp only [skp]; rw [if_neg hsc, if_neg h12, if_neg h13, if_neg (by omega)]
              rw [e]
              have ho : opOf t = -1 := by
                rcases opOf_sc t with h | h
                · exact absurd h.1 hsc
                · exact h.2
              have HO := Lib.hid ho
              clear e hd ih ho hsc
              go_enter Tryz.func62, Tryz.ntmps62
              go_wp2_with fail
              refine (spec_op t w).mono ?_
              rintro e w1 ⟨rfl, rfl⟩
              rw [HO.out]
              go_wp2_with fail
              go_ret
              exact ⟨_, rfl, .inr (.inr rfl), ⟨_, hR, fun hh => by cases hh⟩, Kpt.refl _ _⟩
end

end Go.Proofs.YtnccjcbelcbgoaaGreatDoor

/- The reference's reader of the binary protocol, as a reader. -/
namespace Go.Proofs.YtnccjcbelcbgoaaGreatDoor
open Go Go.RowKit

/-- The reader in block R over the tube in block TB, whose bytes lie in block DT. -/
def Bin.rdr (R TB DT : Nat) (K : Bin.Ctx) (n : Int) (tl : List Value) : Rdr Bin.St where
  R := R
  pr := Bin.pr K
  M := fun _ i => i = R ∨ i = TB ∨ i = DT
  Inv := fun s w => RdP R TB DT K.c.b K.c n tl s w ∧ DT < w.heap.size

section
variable {R TB DT : Nat} {K : Bin.Ctx} {n : Int} {tl : List Value} {rem : List UInt8} {w : World}

theorem Bin.gp {k : Int} {s' : List UInt8} {T KT SZ ID N : Int} {S : List UInt8} {e : Ending} {w' : World} (h : RdP R TB DT K.c.b K.c n tl rem w) (hD : DT < w.heap.size) (hg : GP R TB DT K.c n tl rem w k s' T KT SZ ID N S e w') :
    (Bin.rdr R TB DT K n tl).GP w k s' T KT SZ ID N S e w' := by
  obtain ⟨x, t, kt, size, id, N', S', rfl, hs, hx, ⟨r', h1, hl, hr⟩, hk, hv⟩ := hg
  refine ⟨x, t, kt, size, id, N', S', rfl, hs, hx, ⟨r', ⟨h1, Nat.lt_of_lt_of_le hD hk.size⟩, hr⟩, ⟨hk.weak (fun i _ e => .inr (.inl e.symm)), fun _ _ x => x⟩, fun hz => ?_⟩
  obtain ⟨v1, v2, v3, v4, v5, v6⟩ := hv hz
  refine ⟨v1, v2, v3, v4, v5, v6.weak (fun i _ hi => ⟨hi, ?_⟩)⟩
  have a1 := lt_of_heap h.blk
  have a2 : TB < w.heap.size := lt_of_cell h.tube.c0
  rintro (rfl | rfl | rfl) <;> omega

theorem Bin.rdr_ok : (Bin.rdr R TB DT K n tl).Ok where
  pr := Bin.ok K
  lt := by
    rintro s w ⟨h, hD⟩ i (rfl | rfl | rfl)
    · exact lt_of_heap h.blk
    · exact lt_of_cell h.tube.c0
    · exact hD
  turn := by
    rintro s w w' N ⟨h, hD⟩ hk hN
    refine ⟨⟨⟨(hk.block R (lt_of_heap h.blk) (fun x => hN _ x (.inl rfl))).trans h.blk, h.tube.keep hk (fun x => hN _ x (.inr (.inl rfl))) (fun _ x => hN _ x (.inr (.inr rfl))), h.ne, h.cok, h.size⟩, Nat.lt_of_lt_of_le hD hk.size⟩, fun _ x => x⟩
  sc := fun {s w} t ht h => (rd_scalar K t ht h.1).mono (fun e w' hg => Bin.gp h.1 h.2 hg)
  sb := fun {s w} h _ => (rd_step 2 (by omega) (by omega) (by omega) h.1 (fun w h => bin_op2 h)).mono (fun e w' hg => Bin.gp h.1 h.2 hg)
  se := fun {s w} h _ => (rd_step 3 (by omega) (by omega) (by omega) h.1 (fun w h => bin_op3 h)).mono (fun e w' hg => Bin.gp h.1 h.2 hg)
  f := fun {s w} h => (rd_step 4 (by omega) (by omega) (by omega) h.1 (fun w h => bin_op4 h)).mono (fun e w' hg => Bin.gp h.1 h.2 hg)
  fe := fun {s w} h => (rd_step 5 (by omega) (by omega) (by omega) h.1 (fun w h => bin_op5 h)).mono (fun e w' hg => Bin.gp h.1 h.2 hg)
  m := fun {s w} h => (rd_step 7 (by omega) (by omega) (by omega) h.1 (fun w h => bin_op7 h)).mono (fun e w' hg => Bin.gp h.1 h.2 hg)
  me := fun {s w} h => (rd_step 8 (by omega) (by omega) (by omega) h.1 (fun w h => bin_op8 h)).mono (fun e w' hg => Bin.gp h.1 h.2 hg)
  l := fun {s w} h => (rd_step 9 (by omega) (by omega) (by omega) h.1 (fun w h => bin_op9 h)).mono (fun e w' hg => Bin.gp h.1 h.2 hg)
  le := fun {s w} h => (rd_step 10 (by omega) (by omega) (by omega) h.1 (fun w h => bin_op10 h)).mono (fun e w' hg => Bin.gp h.1 h.2 hg)
  t := fun {s w} h => (rd_step 11 (by omega) (by omega) (by omega) h.1 (fun w h => bin_op11 h)).mono (fun e w' hg => Bin.gp h.1 h.2 hg)
  te := fun {s w} h => (rd_step 12 (by omega) (by omega) (by omega) h.1 (fun w h => bin_op12 h)).mono (fun e w' hg => Bin.gp h.1 h.2 hg)
end

def Bin.K0 (c : Cfg) : Bin.Ctx := ⟨⟨0, 0, 0, 0, 0⟩, 0, 0, 0, 0, none, c⟩
theorem Bin.pr_c (K : Bin.Ctx) : Bin.pr K = Bin.pr (Bin.K0 K.c) := rfl

end Go.Proofs.YtnccjcbelcbgoaaGreatDoor
