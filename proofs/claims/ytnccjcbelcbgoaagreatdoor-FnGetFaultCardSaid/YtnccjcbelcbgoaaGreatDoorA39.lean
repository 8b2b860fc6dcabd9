/- Part 39 of the proof: Ci1, SpC11, SkipCmp, Skip2Cmp, Skip3Cmp, FltICmp. -/
import Derived.Test.YtnccjcbelcbgoaaGreatDoorA38
import Derived.Test.YtnccjcbelcbgoaaGreatDoorA25
import Derived.Test.YtnccjcbelcbgoaaGreatDoorA36
import Derived.Test.YtnccjcbelcbgoaaGreatDoorA18
import Derived.Test.YtnccjcbelcbgoaaGreatDoorA20
import Derived.Deep.LoopGhost
set_option linter.unusedVariables false
set_option linter.unusedSimpArgs false
set_option linter.unusedSectionVars false
/- The compact protocol: what a caller knows whose own blocks turn behind a call. -/
namespace Go.Proofs.YtnccjcbelcbgoaaGreatDoor
open Go Go.RowKit

theorem Cmp.at_lt {K : Cmp.Ctx} {s : Cmp.St} {fv : Value} {sc : List UInt8} {w : World} (h : Cmp.At K s fv sc w) : ∀ i, Cmp.M K w i → i < w.heap.size := by
  intro i hi
  have hl := h.mem.lts
  have hP := h.ltP
  rcases (Cmp.M_at h i).1 hi with e | e | e
  · omega
  · omega
  · exact (h.row.lt i e).2
theorem Cmp.M_lt {K : Cmp.Ctx} {s : Cmp.St} {w : World} (h : Cmp.Inv K s w) : ∀ i, Cmp.M K w i → i < w.heap.size := by
  obtain ⟨_, _, hp⟩ := h.p
  exact Cmp.at_lt hp
theorem Cmp.M_new {K : Cmp.Ctx} {s : Cmp.St} {w w1 : World} (h : Cmp.Inv K s w) (k : Keep (fun _ => False) w w1) : ∀ i, Cmp.M K w1 i → i < w.heap.size := by
  obtain ⟨_, _, hp⟩ := h.p
  exact fun i hi => Cmp.at_lt hp i ((Cmp.M_at hp i).2 ((Cmp.M_at (hp.fresh k) i).1 hi))
theorem Cmp.Some.lt {K : Cmp.Ctx} {w : World} (h : Cmp.Some K w) : ∀ i, Cmp.M K w i → i < w.heap.size := by
  obtain ⟨s, _, _, h⟩ := h
  exact Cmp.at_lt h
theorem Cmp.kept {K : Cmp.Ctx} {s : Cmp.St} {w w1 : World} (h : Cmp.Inv K s w) (k : Keep (fun _ => False) w w1) : Kpt (Cmp.M K) w w1 := Cmp.kept_some h.some k
theorem Cmp.b2 (K : Cmp.Ctx) (s : Cmp.St) : (Cmp.pr K).scB 2 s = [] := by simp [Cmp.pr, Cmp.prc, Cmp.scB]
theorem Cmp.b3 (K : Cmp.Ctx) (s : Cmp.St) : (Cmp.pr K).scB 3 s = [] := by simp [Cmp.pr, Cmp.prc, Cmp.scB]
theorem Cmp.b4 (K : Cmp.Ctx) (s : Cmp.St) : (Cmp.pr K).scB 4 s = [] := by simp [Cmp.pr, Cmp.prc, Cmp.scB]
theorem Cmp.b6 (K : Cmp.Ctx) (s : Cmp.St) : (Cmp.pr K).scB 6 s = [] := by simp [Cmp.pr, Cmp.prc, Cmp.scB]
theorem Cmp.b10 (K : Cmp.Ctx) (s : Cmp.St) : (Cmp.pr K).scB 10 s = [] := by simp [Cmp.pr, Cmp.prc, Cmp.scB]
theorem Cmp.b8 (K : Cmp.Ctx) (s : Cmp.St) : (Cmp.pr K).scB 8 s = [] := by simp [Cmp.pr, Cmp.prc, Cmp.scB]
theorem Cmp.n11 (K : Cmp.Ctx) (s : Cmp.St) : (Cmp.pr K).scN 11 s = 0 := by simp [Cmp.pr, Cmp.prc, Cmp.scN]
theorem Cmp.n16 (K : Cmp.Ctx) (s : Cmp.St) : (Cmp.pr K).scN 16 s = 0 := by simp [Cmp.pr, Cmp.prc, Cmp.scN]
theorem Cmp.b_le {K : Cmp.Ctx} {s : Cmp.St} {w : World} (h : Cmp.Inv K s w) (t : Int) : ((Cmp.pr K).scB t s).length ≤ 140737488355328 := by
  have hl := h.len
  have hv := vR_le s.rem
  show (Cmp.scB t s).length ≤ _
  unfold Cmp.scB
  split
  · simp [cstrS]; omega
  · split
    · simp; omega
    · simp

theorem Cmp.lT_bd (K : Cmp.Ctx) (s : Cmp.St) : 0 ≤ (Cmp.pr K).lT s ∧ (Cmp.pr K).lT s ≤ 255 := by
  show 0 ≤ Cmp.lT s ∧ Cmp.lT s ≤ 255
  unfold Cmp.lT
  split
  · omega
  · rename_i b r _
    have := cty_bd (b.toNat % 16)
    omega
theorem Cmp.lT_w (K : Cmp.Ctx) (s : Cmp.St) : wrap64 ((Cmp.pr K).lT s) = (Cmp.pr K).lT s := by
  have h := Cmp.lT_bd K s
  generalize (Cmp.pr K).lT s = x at h ⊢
  simp only [wrap64]
  omega
theorem Cmp.fT_bd (K : Cmp.Ctx) (s : Cmp.St) : 0 ≤ (Cmp.pr K).fT s ∧ (Cmp.pr K).fT s ≤ 255 := by
  show 0 ≤ Cmp.fT s ∧ Cmp.fT s ≤ 255
  unfold Cmp.fT
  split
  · omega
  · rename_i b r _
    have := cty_bd (b.toNat % 16)
    split <;> omega
theorem Cmp.mT_bd (K : Cmp.Ctx) (s : Cmp.St) : (0 ≤ (Cmp.pr K).mT s ∧ (Cmp.pr K).mT s ≤ 255) ∧ 0 ≤ (Cmp.pr K).mKT s ∧ (Cmp.pr K).mKT s ≤ 255 := by
  show (0 ≤ Cmp.mT s ∧ Cmp.mT s ≤ 255) ∧ 0 ≤ Cmp.mKT s ∧ Cmp.mKT s ≤ 255
  unfold Cmp.mT Cmp.mKT
  split
  · omega
  · split
    · omega
    · rename_i b r _
      have := cty_bd (b.toNat % 16)
      have := cty_bd (b.toNat / 16)
      omega

theorem Cmp.over1 {K : Cmp.Ctx} {s s' : Cmp.St} {fv' : Value} {sc' : List UInt8} {w w2 w3 : World} {N : Nat → Prop} (h : Cmp.Inv K s w) (h2 : Cmp.At K s' fv' sc' w2) (k2 : Kpt (Cmp.M K) w w2) (k : Keep N w2 w3) (hN : ∀ i, N i → w.heap.size ≤ i) (hF : ∀ i, N i → ¬ Cmp.M K w2 i) :
    Cmp.At K s' fv' sc' w3 ∧ Kpt (Cmp.M K) w w3 ∧ ∀ i, Cmp.M K w3 i → Cmp.M K w2 i := by
  obtain ⟨fv, sc, hp⟩ := h.p
  have h3 : Cmp.At K s' fv' sc' w3 := cmp_over hp h2 k2.keep k (fun i _ x => (Cmp.M_at hp i).1 x) (fun i e => by
    by_cases hi : i < w.heap.size
    · rcases (Cmp.M_at hp i).1 (k2.grow i hi ((Cmp.M_at h2 i).2 (.inr (.inr e)))) with x | x | x
      · exact absurd x.symm (h2.rowB i e).2.2.1
      · exact absurd x.symm (h2.rowB i e).1
      · exact .inl x
    · exact .inr (by omega)) hN (fun i e x => hF i x ((Cmp.M_at h2 i).2 (.inr (.inr e))))
  have hm : ∀ i, Cmp.M K w3 i → Cmp.M K w2 i := fun i x => (Cmp.M_at h2 i).2 ((Cmp.M_at h3 i).1 x)
  exact ⟨h3, ⟨k2.keep.trans k (fun i hi x => absurd (hN i x) (by omega)), fun i hi x => k2.grow i hi (hm i x)⟩, hm⟩

/-- The caller turns blocks of its own. -/
theorem Cmp.turn {K : Cmp.Ctx} {s s' : Cmp.St} {w w2 w3 : World} {N : Nat → Prop} (h : Cmp.Inv K s w) (k2 : Kpt (Cmp.M K) w w2) (i2 : Cmp.Inv K s' w2) (hk : Keep N w2 w3) (hN : ∀ i, N i → w.heap.size ≤ i ∧ ¬ Cmp.M K w2 i) :
    Cmp.Inv K s' w3 ∧ Kpt (Cmp.M K) w w3 ∧ ∀ i, Cmp.M K w3 i → Cmp.M K w2 i := by
  obtain ⟨fv, sc, hp⟩ := i2.p
  obtain ⟨h3, hk3, hm⟩ := Cmp.over1 h hp k2 hk (fun i x => (hN i x).1) (fun i x => (hN i x).2)
  exact ⟨⟨⟨_, _, h3⟩, i2.len⟩, hk3, hm⟩

/-- A call behind which the caller turns blocks of its own. -/
theorem Cmp.thru {K : Cmp.Ctx} {s s1 s' : Cmp.St} {w w1 w2 w3 : World} {k : Int} {ev : Value} {N : Nat → Prop} (h : Cmp.Inv K s w) (k1 : Kpt (Cmp.M K) w w1) (_ : Cmp.Inv K s1 w1) (hp : Cmp.Post K w1 w2 k ev s') (hk : Keep N w2 w3) (hN : ∀ i, N i → w.heap.size ≤ i ∧ i < w1.heap.size ∧ ¬ Cmp.M K w1 i) :
    Cmp.Post K w w3 k ev s' ∧ ∀ i, Cmp.M K w3 i → Cmp.M K w2 i := by
  have k02 : Kpt (Cmp.M K) w w2 := k1.then hp.keep
  have hF : ∀ i, N i → ¬ Cmp.M K w2 i := fun i x m => (hN i x).2.2 (hp.keep.grow i (hN i x).2.1 m)
  obtain ⟨s2, fv2, sc2, h2⟩ := hp.some
  obtain ⟨h3, hk3, hm⟩ := Cmp.over1 h h2 k02 hk (fun i x => (hN i x).1) hF
  exact ⟨⟨(hp.err.keep hk (fun i hi x => by have := (hN i x).2; omega)).mono k1.size, fun hz => (Cmp.turn h k02 (hp.inv hz) hk (fun i x => ⟨(hN i x).1, hF i x⟩)).1, ⟨_, _, _, h3⟩, hk3⟩, hm⟩

theorem Cmp.through {K : Cmp.Ctx} {s s' : Cmp.St} {w w1 w2 w3 : World} {k : Int} {ev : Value} {N : Nat → Prop} (h : Cmp.Inv K s w) (hk0 : Keep (fun _ => False) w w1) (hp : Cmp.Post K w1 w2 k ev s') (hk : Keep N w2 w3) (hN : ∀ i, N i → w.heap.size ≤ i ∧ i < w1.heap.size) : Cmp.Post K w w3 k ev s' :=
  (Cmp.thru h (Cmp.kept h hk0) (h.fresh hk0) hp hk (fun i x => ⟨(hN i x).1, (hN i x).2, fun m => by have := Cmp.M_new h hk0 i m; have := (hN i x).1; omega⟩)).1
theorem Cmp.through_M {K : Cmp.Ctx} {s s' : Cmp.St} {w w1 w2 w3 : World} {k : Int} {ev : Value} {N : Nat → Prop} (h : Cmp.Inv K s w) (hk0 : Keep (fun _ => False) w w1) (hp : Cmp.Post K w1 w2 k ev s') (hk : Keep N w2 w3) (hN : ∀ i, N i → w.heap.size ≤ i ∧ i < w1.heap.size) : ∀ i, Cmp.M K w3 i → Cmp.M K w2 i :=
  (Cmp.thru h (Cmp.kept h hk0) (h.fresh hk0) hp hk (fun i x => ⟨(hN i x).1, (hN i x).2, fun m => by have := Cmp.M_new h hk0 i m; have := (hN i x).1; omega⟩)).2

end Go.Proofs.YtnccjcbelcbgoaaGreatDoor

/- The reference's reader of the compact protocol, as a reader. -/
namespace Go.Proofs.YtnccjcbelcbgoaaGreatDoor
open Go Go.RowKit

section
variable {R TB DT : Nat} {c : Cfg} {n : Int} {s s2 s' : Cmp.St} {fv fv2 : Value} {v v2 : Int} {w wA w1 w' : World} {k T KT SZ ID N : Int} {S : List UInt8}

set_option maxRecDepth 100000 in
set_option maxHeartbeats 4000000 in
theorem rd_stepc (op : Int) (h0 : 0 ≤ op) (h22 : op < 22) (h6 : ¬ op = 6) (h : RdC R TB DT c n s fv v w)
    (hcmp : ∀ w, RdC R TB DT c n s fv v w → Calls Tryz.prog 63 #[.pointer (some ⟨R, 0, none⟩), .agg (stepA op)] w (GG R TB DT c n s fv w k s' T KT SZ ID N S)) :
    Calls Tryz.prog 45 #[.pointer (some ⟨R, 0, none⟩), .agg (stepA op)] w (GG R TB DT c n s fv w k s' T KT SZ ID N S) := by
  obtain ⟨c0, c1, c2, c3, c4, c5, c6, c7, c8⟩ := h.p.cells
  have hTU := h.ltT
  have hRU := h.ltR
  have hDU := h.dlt
  have n22 : ¬ op = 22 := by omega
  have ncond : (decide (op < 0) || decide (22 < op) || op == 6) = false := by simp; omega
  have ncond1 : decide (op < 0) = false := by simp; omega
  have ncond2 : decide (22 < op) = false := by simp; omega
  have ncond3 : (op == 6) = false := by simp; omega
  have hk0 : Keep (fun _ => False) w ((w.alloc (.cells (stepA op) 143)).alloc (.cells zGot 140)) := ((Keep.refl _ w).alloc _).alloc _
  have hU0 := heap_alloc_new (w.alloc (.cells (stepA op) 143)) (.cells zGot 140)
  have HH := Lib.hid h
  go_enter Tryz.func45, Tryz.ntmps45
  go_wp2_with fail
  obtain ⟨U, hU⟩ : ∃ U, w.heap.size + 1 = U := ⟨_, rfl⟩
  have hUs : ((w.alloc (.cells (stepA op) 143)).alloc (.cells zGot 140)).heap.size = U + 1 := by simp [← hU]
  rw [show (w.alloc (.cells (stepA op) 143)).heap.size = U by simp [← hU]] at hU0
  generalize (w.alloc (.cells (stepA op) 143)).alloc (.cells zGot 140) = wA at *
  rw [hU]
  have HUS := Lib.hid hU
  clear hU
  refine (hcmp wA (h.fresh hk0)).mono ?_
  rintro e w1 ⟨x, t, kt, size, id, N', S', rfl, ⟨Sa, Sm, Sc, rfl⟩, hx, hk1, s2, fv2, v2, h1, hs, ho, hv⟩
  have hUm : ¬ (RT R TB U ∨ fv.ownBlock = some U) := by
    have := HUS.out
    rintro ((e | e) | e)
    · omega
    · omega
    · have := (HH.out.row.lt U e).2; omega
  have HU := Lib.hid ((hk1.block U (lt_of_heap hU0) hUm).trans hU0)
  have HX := Lib.hid hx
  have HS := Lib.hid hs
  have HV := Lib.hid hv
  have HO := Lib.hid ho
  have HK1 := Lib.hid hk1
  have HK0 := Lib.hid hk0
  have H1 := Lib.hid h1
  clear hx hs hv ho hk1 hk0 h1 hU0 hUm
  obtain ⟨u0, u1, u2, u3, u4, u5, u6⟩ := got_cells HU.out
  obtain ⟨f0, f1, f2, f3, f4, f5, f6⟩ := got_free HU.out
  go_wp2_with fail
  have hkU : Keep (fun i => U = i) w1 (gotW w1 U x t kt size id N' (.slice Sa Sm Sc)) := got_keep (Keep.refl _ w1) (fun _ => rfl) _ _ _ _ _ _ _
  have hsz := HUS.out
  have hUs' := hUs
  refine ret_got (U := U) Tryz.results45 rfl rfl (got_set HU.out _ _ _ _ _ _ _) ⟨_, _, _, _, _, _, _, rfl, ⟨_, _, _, rfl⟩, HX.out, ?_, s2, fv2, v2, ?_, HS.out, ?_, fun hz => ?_⟩
  · exact ((HK0.out.weak (fun _ _ x => x.elim)).then HK1.out).trans hkU (fun i hi e => by omega)
  · refine H1.out.keep hkU (by omega) (by omega) (by omega) (fun i e e2 => ?_)
    rcases HO.out i e with y | y
    · have := (HH.out.row.lt i y).2; omega
    · omega
  · intro i e
    rcases HO.out i e with y | y
    · exact .inl y
    · exact .inr (by omega)
  · obtain ⟨q1, q2, q3, q4, q5, q6⟩ := HV.out hz
    exact ⟨q1, q2, q3, q4, q5, (q6.keep hkU (fun i hi e => by omega)).weak (fun i _ hi => ⟨by omega, hi.2⟩)⟩

theorem c_plain_any (op t : Int) (h13 : 13 ≤ op ∧ op ≤ 21) (h : RdC R TB DT c n s fv v w)
    (hpl : ∀ w, RdC R TB DT c n s fv v w → Calls Tryz.prog 77 #[.pointer (some ⟨R, 0, none⟩), .int .i64 op] w (GC R TB DT c n s fv w k s' T KT SZ ID N S)) :
    Calls Tryz.prog 63 #[.pointer (some ⟨R, 0, none⟩), .agg (stepA op)] w (GG R TB DT c n s fv w k s' T KT SZ ID N S) := by
  cases hp : s.pend with
  | false => exact (c_plain_d op h13 hp h hpl).mono (fun e w' hg => hg.gg h)
  | true =>
    by_cases h1 : op = 13
    · subst h1
      exact (c_d13_true hp h hpl).mono (fun e w' hg => hg.gg h)
    · exact (c_open op (by omega) h1 hp h).mono (fun e w' hg => hg.gg h)

theorem c_else (op : Int) (h5 : ¬ op = 5) (h13 : ¬ op = 13) (h : RdC R TB DT c n s fv v w)
    (hf : s.pend = false → Calls Tryz.prog 63 #[.pointer (some ⟨R, 0, none⟩), .agg (stepA op)] w (GG R TB DT c n s fv w k s' T KT SZ ID N S)) :
    Calls Tryz.prog 63 #[.pointer (some ⟨R, 0, none⟩), .agg (stepA op)] w (GG R TB DT c n s fv w k s' T KT SZ ID N S) := by
  cases hp : s.pend with
  | false => exact hf hp
  | true => exact (c_open op h5 h13 hp h).mono (fun e w' hg => hg.gg h)
end

/-- The reader over the tube in block TB, whose bytes lie in block DT. -/
def Cmp.rdr (R TB DT : Nat) (K : Cmp.Ctx) (n : Int) : Rdr Cmp.St where
  R := R
  pr := Cmp.pr K
  M := fun w i => RTD R TB DT i ∨ ∃ fv, w.cell? ⟨R, 10, none⟩ = some fv ∧ fv.ownBlock = some i
  Inv := fun s w => ∃ fv v, RdC R TB DT K.c n s fv v w

section
variable {R TB DT : Nat} {K : Cmp.Ctx} {n : Int} {s s2 s' : Cmp.St} {fv fv2 : Value} {v v2 : Int} {w wA w1 w' : World} {k T KT SZ ID N : Int} {S : List UInt8}

theorem Cmp.rM_at (h : RdC R TB DT K.c n s fv v w) (i : Nat) : (Cmp.rdr R TB DT K n).M w i ↔ RTD R TB DT i ∨ fv.ownBlock = some i := by
  obtain ⟨_, c10, _, _⟩ := h.ccells
  constructor
  · rintro (e | ⟨fv', e1, e2⟩)
    · exact .inl e
    · rw [c10] at e1
      cases e1
      exact .inr e2
  · rintro (e | e)
    · exact .inl e
    · exact .inr ⟨fv, c10, e⟩

theorem Cmp.rM_lt (h : RdC R TB DT K.c n s fv v w) (i : Nat) (hi : (Cmp.rdr R TB DT K n).M w i) : i < w.heap.size := by
  rcases (Cmp.rM_at h i).1 hi with (e | e | e) | e
  · rw [e]; exact h.ltR
  · rw [e]; exact h.ltT
  · rw [e]; exact h.dlt
  · exact (h.row.lt i e).2

theorem Cmp.gp {e : Ending} (h : RdC R TB DT K.c n s fv v w) (hg : GG R TB DT K.c n s fv w k s' T KT SZ ID N S e w') : (Cmp.rdr R TB DT K n).GP w k s' T KT SZ ID N S e w' := by
  obtain ⟨x, t, kt, size, id, N', S', rfl, hs, hx, hk, s2, fv2, v2, h1, hs2, ho, hv⟩ := hg
  refine ⟨x, t, kt, size, id, N', S', rfl, hs, hx, ⟨s2, ⟨fv2, v2, h1⟩, hs2⟩, ⟨hk.weak (fun i _ y => ?_), fun i hi y => ?_⟩, fun hz => ?_⟩
  · refine (Cmp.rM_at h i).2 ?_
    rcases y with (y | y) | y
    · exact .inl (.inl y.symm)
    · exact .inl (.inr (.inl y.symm))
    · exact .inr y
  · refine (Cmp.rM_at h i).2 ?_
    rcases (Cmp.rM_at h1 i).1 y with y | y
    · exact .inl y
    · rcases ho i y with z | z
      · exact .inr z
      · omega
  · obtain ⟨q1, q2, q3, q4, q5, q6⟩ := hv hz
    refine ⟨q1, q2, q3, q4, q5, q6.weak (fun i _ hi => ⟨hi.1, fun y => ?_⟩)⟩
    rcases (Cmp.rM_at h1 i).1 y with z | z
    · have := Cmp.rM_lt h i ((Cmp.rM_at h i).2 (.inl z)); have := hi.1; omega
    · exact hi.2 z

theorem Cmp.rstep (op : Int) (h0 : 0 ≤ op) (h22 : op < 22) (h6 : ¬ op = 6) (h : RdC R TB DT K.c n s fv v w)
    (hcmp : ∀ w, RdC R TB DT K.c n s fv v w → Calls Tryz.prog 63 #[.pointer (some ⟨R, 0, none⟩), .agg (stepA op)] w (GG R TB DT K.c n s fv w k s' T KT SZ ID N S)) : (Cmp.rdr R TB DT K n).Step op w ((Cmp.rdr R TB DT K n).GP w k s' T KT SZ ID N S) :=
  (rd_stepc op h0 h22 h6 h hcmp).mono (fun e w' hg => Cmp.gp h hg)

theorem Cmp.rscalar (t : Int) (ht : isSc t = true) (h : RdC R TB DT K.c n s fv v w) : (Cmp.rdr R TB DT K n).Step (opOf t) w ((Cmp.rdr R TB DT K n).GP w (Cmp.scK K.c t s) (Cmp.scS t s) 0 0 0 0 (Cmp.scN t s) (Cmp.scB t s)) := by
  have ht : t = 2 ∨ t = 3 ∨ t = 6 ∨ t = 8 ∨ t = 10 ∨ t = 4 ∨ t = 11 ∨ t = 16 := by simpa [isSc, or_assoc] using ht
  rcases ht with rfl | rfl | rfl | rfl | rfl | rfl | rfl | rfl
  · exact Cmp.rstep 13 (by omega) (by omega) (by omega) h (fun w h => c_plain_any 13 2 (by omega) h (fun w h => c_op13 h))
  · exact Cmp.rstep 14 (by omega) (by omega) (by omega) h (fun w h => c_plain_any 14 3 (by omega) h (fun w h => c_op14 h))
  · exact Cmp.rstep 15 (by omega) (by omega) (by omega) h (fun w h => c_plain_any 15 6 (by omega) h (fun w h => c_op15 h))
  · exact Cmp.rstep 16 (by omega) (by omega) (by omega) h (fun w h => c_plain_any 16 8 (by omega) h (fun w h => c_op16 h))
  · exact Cmp.rstep 17 (by omega) (by omega) (by omega) h (fun w h => c_plain_any 17 10 (by omega) h (fun w h => c_op17 h))
  · exact Cmp.rstep 18 (by omega) (by omega) (by omega) h (fun w h => c_plain_any 18 4 (by omega) h (fun w h => c_op18 h))
  · exact Cmp.rstep 19 (by omega) (by omega) (by omega) h (fun w h => c_plain_any 19 11 (by omega) h (fun w h => c_op19 h))
  · exact Cmp.rstep 21 (by omega) (by omega) (by omega) h (fun w h => c_plain_any 21 16 (by omega) h (fun w h => c_op21 h))

theorem Cmp.rdr_ok : (Cmp.rdr R TB DT K n).Ok where
  pr := Cmp.ok K
  lt := by
    rintro s w ⟨fv, v, h⟩ i hi
    exact Cmp.rM_lt h i hi
  turn := by
    rintro s w w' N ⟨fv, v, h⟩ hk hN
    have hN' : ∀ i, N i → ¬ (RTD R TB DT i ∨ fv.ownBlock = some i) := fun i x y => hN i x ((Cmp.rM_at h i).2 y)
    have h1 := h.keep hk (fun x => hN' _ x (.inl (.inl rfl))) (fun x => hN' _ x (.inl (.inr (.inl rfl)))) (fun x => hN' _ x (.inl (.inr (.inr rfl)))) (fun i e x => hN' i x (.inr e))
    exact ⟨⟨fv, v, h1⟩, fun i x => (Cmp.rM_at h i).2 ((Cmp.rM_at h1 i).1 x)⟩
  sc := by
    rintro s w t ht ⟨fv, v, h⟩
    exact Cmp.rscalar t ht h
  sb := by
    rintro s w ⟨fv, v, h⟩ hd
    exact Cmp.rstep 2 (by omega) (by omega) (by omega) h (fun w h => c_else 2 (by omega) (by omega) h (fun hp => c_d2_false hp hd h))
  se := by
    rintro s w ⟨fv, v, h⟩ hd
    exact Cmp.rstep 3 (by omega) (by omega) (by omega) h (fun w h => c_else 3 (by omega) (by omega) h (fun hp => c_d3_false hp hd h))
  f := by
    rintro s w ⟨fv, v, h⟩
    exact Cmp.rstep 4 (by omega) (by omega) (by omega) h (fun w h => c_else 4 (by omega) (by omega) h (fun hp => (c_d4_false hp h).mono (fun e w' hg => hg.gg h)))
  fe := by
    rintro s w ⟨fv, v, h⟩
    refine Cmp.rstep 5 (by omega) (by omega) (by omega) h (fun w h => ?_)
    cases hp : s.pend with
    | false => exact (c_d5_false hp h).mono (fun e w' hg => hg.gg h)
    | true => exact (c_d5_true hp h).mono (fun e w' hg => hg.gg h)
  m := by
    rintro s w ⟨fv, v, h⟩
    exact Cmp.rstep 7 (by omega) (by omega) (by omega) h (fun w h => c_else 7 (by omega) (by omega) h (fun hp => (c_d7_false hp h).mono (fun e w' hg => hg.gg h)))
  me := by
    rintro s w ⟨fv, v, h⟩
    exact Cmp.rstep 8 (by omega) (by omega) (by omega) h (fun w h => c_else 8 (by omega) (by omega) h (fun hp => (c_d8_false hp h).mono (fun e w' hg => hg.gg h)))
  l := by
    rintro s w ⟨fv, v, h⟩
    exact Cmp.rstep 9 (by omega) (by omega) (by omega) h (fun w h => c_else 9 (by omega) (by omega) h (fun hp => (c_d9_false hp h).mono (fun e w' hg => hg.gg h)))
  le := by
    rintro s w ⟨fv, v, h⟩
    exact Cmp.rstep 10 (by omega) (by omega) (by omega) h (fun w h => c_else 10 (by omega) (by omega) h (fun hp => (c_d10_false hp h).mono (fun e w' hg => hg.gg h)))
  t := by
    rintro s w ⟨fv, v, h⟩
    exact Cmp.rstep 11 (by omega) (by omega) (by omega) h (fun w h => c_else 11 (by omega) (by omega) h (fun hp => (c_d11_false hp h).mono (fun e w' hg => hg.gg h)))
  te := by
    rintro s w ⟨fv, v, h⟩
    exact Cmp.rstep 12 (by omega) (by omega) (by omega) h (fun w h => c_else 12 (by omega) (by omega) h (fun hp => (c_d12_false hp h).mono (fun e w' hg => hg.gg h)))
end

end Go.Proofs.YtnccjcbelcbgoaaGreatDoor

/- thrift.Skip over a protocol: how a value is passed over, by induction on the depth. -/
namespace Go.Proofs.YtnccjcbelcbgoaaGreatDoor
open Go Go.RowKit

/-- What a call of Skip brings about. -/
abbrev Cmp.Skips (K : Cmp.Ctx) (d : Nat) : Prop := ∀ (deep t : Int) (s : Cmp.St) (w : World), deep.toNat = d → -9223372036854775808 ≤ deep → deep ≤ 9223372036854775807 → Cmp.Inv K s w → (Cmp.pr K).Room s →
  Calls Tryz.prog 150 #[ctxV, .iface 106 (.pointer (some ⟨K.P, 0, none⟩)), .int .u8 t, .int .i64 deep] w fun e w' => ∃ ev, e = .returned ev ∧ Cmp.Post K w w' (skp (Cmp.pr K) d t s).1 ev (skp (Cmp.pr K) d t s).2

set_option maxRecDepth 100000 in
set_option maxHeartbeats 2000000 in
theorem Cmp.skip_zero (K : Cmp.Ctx) : Cmp.Skips K 0 := by
  intro deep t s w hd hlo hhi h _
  have hle : deep ≤ 0 := by omega
  go_enter Tryz.func150, Tryz.ntmps150
  go_wp2_with fail
  refine (errNew _ _).mono ?_
  rintro e w8 ⟨b, rfl, hb, _, hk8⟩
  go_wp2_with fail
  refine (newPExcT' (E := K.E) (n0 := w.heap.size) 6 (by omega) b 0 _ _ hb hk8.size).mono ?_
  rintro e w9 ⟨v, rfl, hv, hk9⟩
  go_wp2_with fail
  go_ret
  exact ⟨_, rfl, .bad h (hk8.then hk9) hv (by simp [skp])⟩

set_option maxRecDepth 100000 in
set_option maxHeartbeats 4000000 in
theorem Cmp.skip_scalar (K : Cmp.Ctx) (d : Nat) (deep t : Int) (s : Cmp.St) (w : World) (hd : 0 < deep) (hhi : deep ≤ 9223372036854775807) (h : Cmp.Inv K s w) (ht : isSc t = true) :
    Calls Tryz.prog 150 #[ctxV, .iface 106 (.pointer (some ⟨K.P, 0, none⟩)), .int .u8 t, .int .i64 deep] w fun e w' => ∃ ev, e = .returned ev ∧ Cmp.Post K w w' ((Cmp.pr K).scK t s) ev ((Cmp.pr K).scS t s) := by
  have ht : t = 2 ∨ t = 3 ∨ t = 6 ∨ t = 8 ∨ t = 10 ∨ t = 4 ∨ t = 11 ∨ t = 16 := by simpa [isSc, or_assoc] using ht
  rcases ht with rfl | rfl | rfl | rfl | rfl | rfl | rfl | rfl
  · go_enter Tryz.func150, Tryz.ntmps150
    go_wp2_with fail
    refine (Cmp.readBool h).mono ?_
    rintro e w1 ⟨v, ev, rfl, hp, _⟩
    go_wp2_with fail
    go_ret
    exact ⟨_, rfl, hp⟩
  · go_enter Tryz.func150, Tryz.ntmps150
    go_wp2_with fail
    refine (Cmp.readByte h).mono ?_
    rintro e w1 ⟨v, ev, rfl, hp, _⟩
    go_wp2_with fail
    go_ret
    exact ⟨_, rfl, hp⟩
  · go_enter Tryz.func150, Tryz.ntmps150
    go_wp2_with fail
    refine (Cmp.readI16 h).mono ?_
    rintro e w1 ⟨v, ev, rfl, hp, _⟩
    go_wp2_with fail
    go_ret
    exact ⟨_, rfl, hp⟩
  · go_enter Tryz.func150, Tryz.ntmps150
    go_wp2_with fail
    refine (Cmp.readI32 h).mono ?_
    rintro e w1 ⟨v, ev, rfl, hp, _⟩
    go_wp2_with fail
    go_ret
    exact ⟨_, rfl, hp⟩
  · go_enter Tryz.func150, Tryz.ntmps150
    go_wp2_with fail
    refine (Cmp.readI64 h).mono ?_
    rintro e w1 ⟨v, ev, rfl, hp, _⟩
    go_wp2_with fail
    go_ret
    exact ⟨_, rfl, hp⟩
  · go_enter Tryz.func150, Tryz.ntmps150
    go_wp2_with fail
    refine (Cmp.readDouble h).mono ?_
    rintro e w1 ⟨v, ev, rfl, hp, _⟩
    go_wp2_with fail
    go_ret
    exact ⟨_, rfl, hp⟩
  · go_enter Tryz.func150, Tryz.ntmps150
    go_wp2_with fail
    refine (Cmp.readString h).mono ?_
    rintro e w1 ⟨v, ev, rfl, hp, _⟩
    go_wp2_with fail
    go_ret
    exact ⟨_, rfl, hp⟩
  · go_enter Tryz.func150, Tryz.ntmps150
    go_wp2_with fail
    refine (Cmp.readUUID h).mono ?_
    rintro e w1 ⟨v, ev, rfl, hp, _⟩
    go_wp2_with fail
    go_ret
    exact ⟨_, rfl, hp⟩

set_option maxRecDepth 100000 in
set_option maxHeartbeats 4000000 in
theorem Cmp.skip_other (K : Cmp.Ctx) (deep t : Int) (s : Cmp.St) (w : World) (hd : 0 < deep) (hhi : deep ≤ 9223372036854775807) (h : Cmp.Inv K s w) (ht : isSc t = false) (h12 : ¬ t = 12) (h13 : ¬ t = 13) (h14 : ¬ t = 14) (h15 : ¬ t = 15) :
    Calls Tryz.prog 150 #[ctxV, .iface 106 (.pointer (some ⟨K.P, 0, none⟩)), .int .u8 t, .int .i64 deep] w fun e w' => ∃ ev, e = .returned ev ∧ Cmp.Post K w w' 11 ev s := by
  obtain ⟨n2, n3, n6, n8, n10, n4, n11, n16⟩ : (¬ t = 2) ∧ (¬ t = 3) ∧ (¬ t = 6) ∧ (¬ t = 8) ∧ (¬ t = 10) ∧ (¬ t = 4) ∧ (¬ t = 11) ∧ (¬ t = 16) := by simpa [isSc, and_assoc] using ht
  go_enter Tryz.func150, Tryz.ntmps150
  go_wp2_with fail
  refine (errNew _ _).mono ?_
  rintro e w8 ⟨b, rfl, hb, _, hk8⟩
  go_wp2_with fail
  refine (newPExcT' (E := K.E) (n0 := w.heap.size) 1 (by omega) b 0 _ _ hb hk8.size).mono ?_
  rintro e w9 ⟨v, rfl, hv, hk9⟩
  go_wp2_with fail
  go_ret
  exact ⟨_, rfl, .bad h (hk8.then hk9) hv (by decide)⟩

end Go.Proofs.YtnccjcbelcbgoaaGreatDoor

/- thrift.Skip over a protocol: structs. -/
namespace Go.Proofs.YtnccjcbelcbgoaaGreatDoor
open Go Go.RowKit

/-- What holds ahead of each field: tot is what the whole fields make. -/
def Cmp.FldRel (K : Cmp.Ctx) (w : World) (f : Int → Cmp.St → Int × Cmp.St) (tot : Int × Cmp.St) (b k : Nat) (wr : World) : Prop :=
  ∃ s, Cmp.Inv K s wr ∧ Kpt (Cmp.M K) w wr ∧ (Cmp.pr K).len s < k ∧ flds (Cmp.pr K) f k s = tot ∧ (Cmp.pr K).one ≤ (Cmp.pr K).dep s ∧ (Cmp.pr K).len s + (Cmp.pr K).dep s ≤ b

set_option maxRecDepth 100000 in
set_option maxHeartbeats 8000000 in
theorem Cmp.skip_struct (K : Cmp.Ctx) (d : Nat) (ih : Cmp.Skips K d) (deep : Int) (s : Cmp.St) (w : World) (hdd : deep.toNat = d + 1) (hd : 0 < deep) (hhi : deep ≤ 9223372036854775807) (h : Cmp.Inv K s w) (hroom : (Cmp.pr K).Room s) :
    Calls Tryz.prog 150 #[ctxV, .iface 106 (.pointer (some ⟨K.P, 0, none⟩)), .int .u8 12, .int .i64 deep] w fun e w' => ∃ ev, e = .returned ev ∧ Cmp.Post K w w' (flds (Cmp.pr K) (skp (Cmp.pr K) d) ((Cmp.pr K).len ((Cmp.pr K).sbS s) + 1) ((Cmp.pr K).sbS s)).1 ev (flds (Cmp.pr K) (skp (Cmp.pr K) d) ((Cmp.pr K).len ((Cmp.pr K).sbS s) + 1) ((Cmp.pr K).sbS s)).2 := by
  obtain ⟨tot, htot⟩ : ∃ tot, flds (Cmp.pr K) (skp (Cmp.pr K) d) ((Cmp.pr K).len ((Cmp.pr K).sbS s) + 1) ((Cmp.pr K).sbS s) = tot := ⟨_, rfl⟩
  rw [htot]
  have HT := Lib.hid htot
  clear htot
  have hd1 : (deep - 1).toNat = d := by omega
  have HD := Lib.hid hd1
  have hR : (Cmp.pr K).len s + (Cmp.pr K).dep s < 1099511627776 := hroom
  have HRM := Lib.hid hR
  clear hroom hR
  have HDD := Lib.hid hdd
  clear hd1 hdd
  go_enter Tryz.func150, Tryz.ntmps150
  go_wp2_with fail
  refine (Cmp.readStructBegin h (by have := HRM.out; omega)).mono ?_
  rintro e w1 ⟨l, rfl, hp1⟩
  go_wp2_with fail
  go_loopg [] ((Cmp.pr K).len ((Cmp.pr K).sbS s) + 1) (fun k wr => Cmp.FldRel K w (skp (Cmp.pr K) d) tot ((Cmp.pr K).len s + (Cmp.pr K).dep s + (Cmp.pr K).one) k wr)
  case atStart => exact ⟨_, hp1.inv rfl, hp1.keep, Nat.lt_succ_self _, HT.out, by rw [(Cmp.ok K).dsb]; omega, by rw [(Cmp.ok K).dsb]; have := (Cmp.ok K).sb s; omega⟩
  case round =>
    obtain ⟨s1, hi1, hk1, hlt, hfl, hdp⟩ := hrel
    have HDP := Lib.hid hdp
    clear hdp
    cases gk with
    | zero => exact absurd hlt (Nat.not_lt_zero _)
    | succ k =>
    have HF := Lib.hid hfl
    have HLT := Lib.hid hlt
    clear hfl hlt
    go_wp2_with fail
    refine (Cmp.readFieldBegin hi1).mono ?_
    rintro e w2 ⟨l2, t, id, ev, rfl, hp2, hv2⟩
    by_cases hz : (Cmp.pr K).fK s1 = 0
    · have hev : ev = .nilIface := by have := hp2.err; rw [hz] at this; exact this.isNil
      subst hev
      obtain ⟨ht, hid2⟩ := hv2 hz
      have HZ := Lib.hid hz
      clear hv2 hz hid2
      by_cases ht0 : t = 0
      · subst ht0
        have HT0 := Lib.hid ht
        clear ht
        go_wp2_with fail
        refine (Cmp.readStructEnd (hp2.inv HZ.out) (by rw [(Cmp.ok K).df s1 HZ.out]; exact HDP.out.1)).mono ?_
        rintro e w3 ⟨rfl, hp3⟩
        go_wp2_with fail
        go_ret
        have e1 : tot = (0, (Cmp.pr K).seS ((Cmp.pr K).fS s1)) := by
          rw [← HF.out]; simp only [flds]; rw [if_pos HZ.out, if_pos HT0.out.symm]
        rw [e1]
        exact ⟨_, rfl, (Cmp.Post.onto hk1 hp2).then hp3⟩
      · have HT0 := Lib.hid ht
        clear ht
        go_wp2_with fail
        refine (ih (deep - 1) t _ w2 HD.out (by omega) (by omega) (hp2.inv HZ.out) (by have a1 := (Cmp.ok K).df s1 HZ.out; have a2 := (Cmp.ok K).f s1 HZ.out; have a3 := HDP.out.2; have a4 := (Cmp.ok K).one1; have a5 := HRM.out; show _ + _ < _; omega)).mono ?_
        rintro e w3 ⟨ev, rfl, hp3⟩
        rw [HT0.out] at hp3
        have hne : ¬ (Cmp.pr K).fT s1 = 0 := fun hh => ht0 (HT0.out.trans hh)
        by_cases hz3 : (skp (Cmp.pr K) d ((Cmp.pr K).fT s1) ((Cmp.pr K).fS s1)).1 = 0
        · have hev : ev = .nilIface := by have := hp3.err; rw [hz3] at this; exact this.isNil
          subst hev
          have HZ3 := Lib.hid hz3
          have HNE := Lib.hid hne
          clear hz3 hne
          go_wp2_with fail
          refine (Cmp.readFieldEnd (hp3.inv HZ3.out)).mono ?_
          rintro e w4 ⟨rfl, hp4⟩
          go_wp2_with fail
          go_roundg k
          case measure => exact Nat.lt_succ_self _
          case rel =>
            refine ⟨_, hp4.inv rfl, ((hk1.then hp2.keep).then hp3.keep).then hp4.keep, ?_, ?_, ?_⟩
            · have ok := Cmp.ok K
              have a1 := ok.fe (skp (Cmp.pr K) d ((Cmp.pr K).fT s1) ((Cmp.pr K).fS s1)).2
              have a2 := skp_len ok d _ _ HZ3.out
              have a3 := ok.f s1 HZ.out
              have a4 := HLT.out
              omega
            · rw [← HF.out]; simp only [flds]; rw [if_pos HZ.out, if_neg HNE.out, if_pos HZ3.out]
            · have ok := Cmp.ok K
              have a1 := ok.fe (skp (Cmp.pr K) d ((Cmp.pr K).fT s1) ((Cmp.pr K).fS s1)).2
              have a2 := skp_len ok d _ _ HZ3.out
              have a3 := ok.f s1 HZ.out
              have a4 := HDP.out
              have a5 := ok.dfe (skp (Cmp.pr K) d ((Cmp.pr K).fT s1) ((Cmp.pr K).fS s1)).2
              have a6 := skp_dep ok d _ _ HZ3.out
              have a7 := ok.df s1 HZ.out
              exact ⟨by omega, by omega⟩
        · obtain ⟨tt, x, rfl⟩ := hp3.err.held hz3
          have HZ3 := Lib.hid hz3
          have HNE := Lib.hid hne
          clear hz3 hne
          go_wp2_with fail
          go_ret
          have e1 : tot = skp (Cmp.pr K) d ((Cmp.pr K).fT s1) ((Cmp.pr K).fS s1) := by
            rw [← HF.out]; simp only [flds]; rw [if_pos HZ.out, if_neg HNE.out, if_neg HZ3.out]
          rw [e1]
          exact ⟨_, rfl, Cmp.Post.onto (hk1.then hp2.keep) hp3⟩
    · obtain ⟨tt, x, rfl⟩ := hp2.err.held hz
      have HZ := Lib.hid hz
      clear hv2 hz
      go_wp2_with fail
      go_ret
      have e1 : tot = ((Cmp.pr K).fK s1, (Cmp.pr K).fS s1) := by
        rw [← HF.out]; simp only [flds]; rw [if_neg HZ.out]
      rw [e1]
      exact ⟨_, rfl, Cmp.Post.onto hk1 hp2⟩

end Go.Proofs.YtnccjcbelcbgoaaGreatDoor

/- thrift.Skip over a protocol: maps, lists, sets; every value. -/
namespace Go.Proofs.YtnccjcbelcbgoaaGreatDoor
open Go Go.RowKit

/-- What holds ahead of each element: k are still to come, tot is what all of them make. -/
def Cmp.RepRel (K : Cmp.Ctx) (w : World) (f : Cmp.St → Int × Cmp.St) (n : Int) (tot : Int × Cmp.St) (k : Nat) (v : Value) (wr : World) : Prop :=
  ∃ i s, v = .int .i64 i ∧ 0 ≤ i ∧ k = (n - i).toNat ∧ Cmp.Inv K s wr ∧ Kpt (Cmp.M K) w wr ∧ rep f k s = tot ∧ (Cmp.pr K).Room s

theorem Cmp.Post.tot {K : Cmp.Ctx} {w w' : World} {ev : Value} {r : Int × Cmp.St} {k : Int} {s : Cmp.St} (e : r = (k, s)) (h : Cmp.Post K w w' k ev s) : Cmp.Post K w w' r.1 ev r.2 := by rw [e]; exact h

set_option maxRecDepth 100000 in
set_option maxHeartbeats 8000000 in
theorem Cmp.skip_list (K : Cmp.Ctx) (d : Nat) (ih : Cmp.Skips K d) (deep : Int) (s : Cmp.St) (w : World) (hdd : deep.toNat = d + 1) (hd : 0 < deep) (hhi : deep ≤ 9223372036854775807) (h : Cmp.Inv K s w) (hroom : (Cmp.pr K).Room s) :
    Calls Tryz.prog 150 #[ctxV, .iface 106 (.pointer (some ⟨K.P, 0, none⟩)), .int .u8 15, .int .i64 deep] w fun e w' => ∃ ev, e = .returned ev ∧ Cmp.Post K w w' (skp (Cmp.pr K) (d + 1) 15 s).1 ev (skp (Cmp.pr K) (d + 1) 15 s).2 := by
  by_cases hz : (Cmp.pr K).lK s = 0
  · obtain ⟨tot, htot⟩ : ∃ tot, rep (skp (Cmp.pr K) d ((Cmp.pr K).lT s)) ((Cmp.pr K).lN s).toNat ((Cmp.pr K).lS s) = tot := ⟨_, rfl⟩
    have e0 : skp (Cmp.pr K) (d + 1) 15 s = endby (Cmp.pr K).leS tot := by rw [← htot]; simp [skp, isSc, hz]
    rw [e0]
    have HT := Lib.hid htot
    clear htot e0
    have hd1 : (deep - 1).toNat = d := by omega
    have HD := Lib.hid hd1
    have HRM := Lib.hid hroom
    clear hroom
    have HDD := Lib.hid hdd
    have HZ := Lib.hid hz
    clear hd1 hdd hz
    go_enter Tryz.func150, Tryz.ntmps150
    go_wp2_with fail
    refine (Cmp.readListBegin h).mono ?_
    rintro e w1 ⟨t, n, ev, rfl, hp1, hv1⟩
    have hev : ev = .nilIface := by have := hp1.err; rw [HZ.out] at this; exact this.isNil
    subst hev
    obtain ⟨ht, hn⟩ := hv1 HZ.out
    have hnb : n ≤ 2147483647 := by rw [hn]; exact (Cmp.ok K).lb s
    have HTT := Lib.hid ht
    have HN := Lib.hid hn
    clear hv1 ht hn
    go_wp2_with fail
    go_loopg [215] n.toNat (fun k v wr => Cmp.RepRel K w (skp (Cmp.pr K) d ((Cmp.pr K).lT s)) n tot k v wr)
    case atStart => exact ⟨0, _, rfl, by omega, by rw [Int.sub_zero], hp1.inv HZ.out, hp1.keep, by rw [HN.out]; exact HT.out, by have a1 := (Cmp.ok K).l s HZ.out; have a2 := (Cmp.ok K).dl s HZ.out; have a3 : _ + _ < _ := HRM.out; show _ + _ < _; omega⟩
    case round =>
      obtain ⟨i, s1, rfl, hi0, hk, hi1, hk1, hr, hrm⟩ := hrel
      have HRM1 := Lib.hid hrm
      clear hrm
      by_cases hin : i < n
      · cases gk with
        | zero => omega
        | succ k =>
        have HK := Lib.hid hk
        have HR := Lib.hid hr
        clear hr hk
        go_wp2_with fail
        refine (ih (deep - 1) t _ wr HD.out (by omega) (by omega) hi1 HRM1.out).mono ?_
        rintro e w3 ⟨ev, rfl, hp3⟩
        rw [HTT.out] at hp3
        by_cases hz3 : (skp (Cmp.pr K) d ((Cmp.pr K).lT s) s1).1 = 0
        · have hev : ev = .nilIface := by have := hp3.err; rw [hz3] at this; exact this.isNil
          subst hev
          have HZ3 := Lib.hid hz3
          clear hz3
          go_wp2_with fail
          go_roundg k
          case measure => exact Nat.lt_succ_self _
          case rel =>
            refine ⟨i + 1, _, rfl, by omega, by have := HK.out; omega, hp3.inv HZ3.out, hk1.then hp3.keep, ?_, ?_⟩
            · rw [← HR.out, rep_ok HZ3.out]
            · have a1 := skp_len (Cmp.ok K) d _ _ HZ3.out
              have a2 := skp_dep (Cmp.ok K) d _ _ HZ3.out
              have a3 : _ + _ < _ := HRM1.out
              show _ + _ < _
              omega
        · obtain ⟨tt, x, rfl⟩ := hp3.err.held hz3
          have HZ3 := Lib.hid hz3
          clear hz3
          go_wp2_with fail
          go_ret
          have e2 : tot = skp (Cmp.pr K) d ((Cmp.pr K).lT s) s1 := by
            rw [← HR.out, rep_bad HZ3.out]
          have e1 : endby (Cmp.pr K).leS tot = skp (Cmp.pr K) d ((Cmp.pr K).lT s) s1 := by rw [e2]; exact endby_bad HZ3.out
          rw [e1]
          exact ⟨_, rfl, Cmp.Post.onto hk1 hp3⟩
      · have hk0 : gk = 0 := by omega
        subst hk0
        have HR := Lib.hid hr
        clear hr hk
        go_wp2_with fail
        refine (Cmp.readListEnd hi1).mono ?_
        rintro e w4 ⟨rfl, hp4⟩
        go_wp2_with fail
        go_ret
        exact ⟨_, rfl, .tot (by rw [← HR.out]; rfl) (Cmp.Post.onto hk1 hp4)⟩
  · have e0 : skp (Cmp.pr K) (d + 1) 15 s = ((Cmp.pr K).lK s, (Cmp.pr K).lS s) := by simp [skp, isSc, hz]
    rw [e0]
    have HZ := Lib.hid hz
    clear hz e0
    go_enter Tryz.func150, Tryz.ntmps150
    go_wp2_with fail
    refine (Cmp.readListBegin h).mono ?_
    rintro e w1 ⟨t, n, ev, rfl, hp1, hv1⟩
    obtain ⟨tt, x, rfl⟩ := hp1.err.held HZ.out
    clear hv1
    go_wp2_with fail
    go_ret
    exact ⟨_, rfl, hp1⟩

set_option maxRecDepth 100000 in
set_option maxHeartbeats 8000000 in
theorem Cmp.skip_set (K : Cmp.Ctx) (d : Nat) (ih : Cmp.Skips K d) (deep : Int) (s : Cmp.St) (w : World) (hdd : deep.toNat = d + 1) (hd : 0 < deep) (hhi : deep ≤ 9223372036854775807) (h : Cmp.Inv K s w) (hroom : (Cmp.pr K).Room s) :
    Calls Tryz.prog 150 #[ctxV, .iface 106 (.pointer (some ⟨K.P, 0, none⟩)), .int .u8 14, .int .i64 deep] w fun e w' => ∃ ev, e = .returned ev ∧ Cmp.Post K w w' (skp (Cmp.pr K) (d + 1) 14 s).1 ev (skp (Cmp.pr K) (d + 1) 14 s).2 := by
  by_cases hz : (Cmp.pr K).lK s = 0
  · obtain ⟨tot, htot⟩ : ∃ tot, rep (skp (Cmp.pr K) d ((Cmp.pr K).lT s)) ((Cmp.pr K).lN s).toNat ((Cmp.pr K).lS s) = tot := ⟨_, rfl⟩
    have e0 : skp (Cmp.pr K) (d + 1) 14 s = endby (Cmp.pr K).leS tot := by rw [← htot]; simp [skp, isSc, hz]
    rw [e0]
    have HT := Lib.hid htot
    clear htot e0
    have hd1 : (deep - 1).toNat = d := by omega
    have HD := Lib.hid hd1
    have HRM := Lib.hid hroom
    clear hroom
    have HDD := Lib.hid hdd
    have HZ := Lib.hid hz
    clear hd1 hdd hz
    go_enter Tryz.func150, Tryz.ntmps150
    go_wp2_with fail
    refine (Cmp.readSetBegin h).mono ?_
    rintro e w1 ⟨t, n, ev, rfl, hp1, hv1⟩
    have hev : ev = .nilIface := by have := hp1.err; rw [HZ.out] at this; exact this.isNil
    subst hev
    obtain ⟨ht, hn⟩ := hv1 HZ.out
    have hnb : n ≤ 2147483647 := by rw [hn]; exact (Cmp.ok K).lb s
    have HTT := Lib.hid ht
    have HN := Lib.hid hn
    clear hv1 ht hn
    go_wp2_with fail
    go_loopg [187] n.toNat (fun k v wr => Cmp.RepRel K w (skp (Cmp.pr K) d ((Cmp.pr K).lT s)) n tot k v wr)
    case atStart => exact ⟨0, _, rfl, by omega, by rw [Int.sub_zero], hp1.inv HZ.out, hp1.keep, by rw [HN.out]; exact HT.out, by have a1 := (Cmp.ok K).l s HZ.out; have a2 := (Cmp.ok K).dl s HZ.out; have a3 : _ + _ < _ := HRM.out; show _ + _ < _; omega⟩
    case round =>
      obtain ⟨i, s1, rfl, hi0, hk, hi1, hk1, hr, hrm⟩ := hrel
      have HRM1 := Lib.hid hrm
      clear hrm
      by_cases hin : i < n
      · cases gk with
        | zero => omega
        | succ k =>
        have HK := Lib.hid hk
        have HR := Lib.hid hr
        clear hr hk
        go_wp2_with fail
        refine (ih (deep - 1) t _ wr HD.out (by omega) (by omega) hi1 HRM1.out).mono ?_
        rintro e w3 ⟨ev, rfl, hp3⟩
        rw [HTT.out] at hp3
        by_cases hz3 : (skp (Cmp.pr K) d ((Cmp.pr K).lT s) s1).1 = 0
        · have hev : ev = .nilIface := by have := hp3.err; rw [hz3] at this; exact this.isNil
          subst hev
          have HZ3 := Lib.hid hz3
          clear hz3
          go_wp2_with fail
          go_roundg k
          case measure => exact Nat.lt_succ_self _
          case rel =>
            refine ⟨i + 1, _, rfl, by omega, by have := HK.out; omega, hp3.inv HZ3.out, hk1.then hp3.keep, ?_, ?_⟩
            · rw [← HR.out, rep_ok HZ3.out]
            · have a1 := skp_len (Cmp.ok K) d _ _ HZ3.out
              have a2 := skp_dep (Cmp.ok K) d _ _ HZ3.out
              have a3 : _ + _ < _ := HRM1.out
              show _ + _ < _
              omega
        · obtain ⟨tt, x, rfl⟩ := hp3.err.held hz3
          have HZ3 := Lib.hid hz3
          clear hz3
          go_wp2_with fail
          go_ret
          have e2 : tot = skp (Cmp.pr K) d ((Cmp.pr K).lT s) s1 := by
            rw [← HR.out, rep_bad HZ3.out]
          have e1 : endby (Cmp.pr K).leS tot = skp (Cmp.pr K) d ((Cmp.pr K).lT s) s1 := by rw [e2]; exact endby_bad HZ3.out
          rw [e1]
          exact ⟨_, rfl, Cmp.Post.onto hk1 hp3⟩
      · have hk0 : gk = 0 := by omega
        subst hk0
        have HR := Lib.hid hr
        clear hr hk
        go_wp2_with fail
        refine (Cmp.readSetEnd hi1).mono ?_
        rintro e w4 ⟨rfl, hp4⟩
        go_wp2_with fail
        go_ret
        exact ⟨_, rfl, .tot (by rw [← HR.out]; rfl) (Cmp.Post.onto hk1 hp4)⟩
  · have e0 : skp (Cmp.pr K) (d + 1) 14 s = ((Cmp.pr K).lK s, (Cmp.pr K).lS s) := by simp [skp, isSc, hz]
    rw [e0]
    have HZ := Lib.hid hz
    clear hz e0
    go_enter Tryz.func150, Tryz.ntmps150
    go_wp2_with fail
    refine (Cmp.readSetBegin h).mono ?_
    rintro e w1 ⟨t, n, ev, rfl, hp1, hv1⟩
    obtain ⟨tt, x, rfl⟩ := hp1.err.held HZ.out
    clear hv1
    go_wp2_with fail
    go_ret
    exact ⟨_, rfl, hp1⟩

set_option maxRecDepth 100000 in
set_option maxHeartbeats 8000000 in
theorem Cmp.skip_map (K : Cmp.Ctx) (d : Nat) (ih : Cmp.Skips K d) (deep : Int) (s : Cmp.St) (w : World) (hdd : deep.toNat = d + 1) (hd : 0 < deep) (hhi : deep ≤ 9223372036854775807) (h : Cmp.Inv K s w) (hroom : (Cmp.pr K).Room s) :
    Calls Tryz.prog 150 #[ctxV, .iface 106 (.pointer (some ⟨K.P, 0, none⟩)), .int .u8 13, .int .i64 deep] w fun e w' => ∃ ev, e = .returned ev ∧ Cmp.Post K w w' (skp (Cmp.pr K) (d + 1) 13 s).1 ev (skp (Cmp.pr K) (d + 1) 13 s).2 := by
  by_cases hz : (Cmp.pr K).mK s = 0
  · obtain ⟨tot, htot⟩ : ∃ tot, rep (twice (skp (Cmp.pr K) d ((Cmp.pr K).mKT s)) (skp (Cmp.pr K) d ((Cmp.pr K).mT s))) ((Cmp.pr K).mN s).toNat ((Cmp.pr K).mS s) = tot := ⟨_, rfl⟩
    have e0 : skp (Cmp.pr K) (d + 1) 13 s = endby (Cmp.pr K).meS tot := by rw [← htot]; simp [skp, isSc, hz]
    rw [e0]
    have HT := Lib.hid htot
    clear htot e0
    have hd1 : (deep - 1).toNat = d := by omega
    have HD := Lib.hid hd1
    have HRM := Lib.hid hroom
    clear hroom
    have HDD := Lib.hid hdd
    have HZ := Lib.hid hz
    clear hd1 hdd hz
    go_enter Tryz.func150, Tryz.ntmps150
    go_wp2_with fail
    refine (Cmp.readMapBegin h).mono ?_
    rintro e w1 ⟨kt, t, n, ev, rfl, hp1, hv1⟩
    have hev : ev = .nilIface := by have := hp1.err; rw [HZ.out] at this; exact this.isNil
    subst hev
    obtain ⟨hkt, ht, hn⟩ := hv1 HZ.out
    have hnb : n ≤ 2147483647 := by rw [hn]; exact (Cmp.ok K).mb s
    have HKT := Lib.hid hkt
    have HTT := Lib.hid ht
    have HN := Lib.hid hn
    clear hv1 ht hn hkt
    go_wp2_with fail
    go_loopg [150] n.toNat (fun k v wr => Cmp.RepRel K w (twice (skp (Cmp.pr K) d ((Cmp.pr K).mKT s)) (skp (Cmp.pr K) d ((Cmp.pr K).mT s))) n tot k v wr)
    case atStart => exact ⟨0, _, rfl, by omega, by rw [Int.sub_zero], hp1.inv HZ.out, hp1.keep, by rw [HN.out]; exact HT.out, by have a1 := (Cmp.ok K).m s HZ.out; have a2 := (Cmp.ok K).dm s HZ.out; have a3 : _ + _ < _ := HRM.out; show _ + _ < _; omega⟩
    case round =>
      obtain ⟨i, s1, rfl, hi0, hk, hi1, hk1, hr, hrm⟩ := hrel
      have HRM1 := Lib.hid hrm
      clear hrm
      by_cases hin : i < n
      · cases gk with
        | zero => omega
        | succ k =>
        have HK := Lib.hid hk
        have HR := Lib.hid hr
        clear hr hk
        go_wp2_with fail
        refine (ih (deep - 1) kt _ wr HD.out (by omega) (by omega) hi1 HRM1.out).mono ?_
        rintro e w3 ⟨ev, rfl, hp3⟩
        rw [HKT.out] at hp3
        by_cases hz3 : (skp (Cmp.pr K) d ((Cmp.pr K).mKT s) s1).1 = 0
        · have hev : ev = .nilIface := by have := hp3.err; rw [hz3] at this; exact this.isNil
          subst hev
          have HZ3 := Lib.hid hz3
          clear hz3
          go_wp2_with fail
          refine (ih (deep - 1) t _ w3 HD.out (by omega) (by omega) (hp3.inv HZ3.out) (by have a1 := skp_len (Cmp.ok K) d _ _ HZ3.out; have a2 := skp_dep (Cmp.ok K) d _ _ HZ3.out; have a3 : _ + _ < _ := HRM1.out; show _ + _ < _; omega)).mono ?_
          rintro e w4 ⟨ev, rfl, hp4⟩
          rw [HTT.out] at hp4
          by_cases hz4 : (skp (Cmp.pr K) d ((Cmp.pr K).mT s) (skp (Cmp.pr K) d ((Cmp.pr K).mKT s) s1).2).1 = 0
          · have hev : ev = .nilIface := by have := hp4.err; rw [hz4] at this; exact this.isNil
            subst hev
            have HZ4 := Lib.hid hz4
            clear hz4
            go_wp2_with fail
            go_roundg k
            case measure => exact Nat.lt_succ_self _
            case rel =>
              refine ⟨i + 1, _, rfl, by omega, by have := HK.out; omega, hp4.inv HZ4.out, (hk1.then hp3.keep).then hp4.keep, ?_, ?_⟩
              · rw [← HR.out, rep_ok (by rw [twice_ok HZ3.out]; exact HZ4.out), twice_ok HZ3.out]
              · have a1 := skp_len (Cmp.ok K) d _ _ HZ3.out
                have a2 := skp_dep (Cmp.ok K) d _ _ HZ3.out
                have a4 := skp_len (Cmp.ok K) d _ _ HZ4.out
                have a5 := skp_dep (Cmp.ok K) d _ _ HZ4.out
                have a3 : _ + _ < _ := HRM1.out
                show _ + _ < _
                omega
          · obtain ⟨tt, x, rfl⟩ := hp4.err.held hz4
            have HZ4 := Lib.hid hz4
            clear hz4
            go_wp2_with fail
            go_ret
            have e2 : tot = skp (Cmp.pr K) d ((Cmp.pr K).mT s) (skp (Cmp.pr K) d ((Cmp.pr K).mKT s) s1).2 := by
              rw [← HR.out, rep_bad (by rw [twice_ok HZ3.out]; exact HZ4.out), twice_ok HZ3.out]
            have e1 : endby (Cmp.pr K).meS tot = skp (Cmp.pr K) d ((Cmp.pr K).mT s) (skp (Cmp.pr K) d ((Cmp.pr K).mKT s) s1).2 := by rw [e2]; exact endby_bad HZ4.out
            rw [e1]
            exact ⟨_, rfl, Cmp.Post.onto (hk1.then hp3.keep) hp4⟩
        · obtain ⟨tt, x, rfl⟩ := hp3.err.held hz3
          have HZ3 := Lib.hid hz3
          clear hz3
          go_wp2_with fail
          go_ret
          have e2 : tot = skp (Cmp.pr K) d ((Cmp.pr K).mKT s) s1 := by
            rw [← HR.out, rep_bad (by rw [twice_bad HZ3.out]; exact HZ3.out), twice_bad HZ3.out]
          have e1 : endby (Cmp.pr K).meS tot = skp (Cmp.pr K) d ((Cmp.pr K).mKT s) s1 := by rw [e2]; exact endby_bad HZ3.out
          rw [e1]
          exact ⟨_, rfl, Cmp.Post.onto hk1 hp3⟩
      · have hk0 : gk = 0 := by omega
        subst hk0
        have HR := Lib.hid hr
        clear hr hk
        go_wp2_with fail
        refine (Cmp.readMapEnd hi1).mono ?_
        rintro e w4 ⟨rfl, hp4⟩
        go_wp2_with fail
        go_ret
        exact ⟨_, rfl, .tot (by rw [← HR.out]; rfl) (Cmp.Post.onto hk1 hp4)⟩
  · have e0 : skp (Cmp.pr K) (d + 1) 13 s = ((Cmp.pr K).mK s, (Cmp.pr K).mS s) := by simp [skp, isSc, hz]
    rw [e0]
    have HZ := Lib.hid hz
    clear hz e0
    go_enter Tryz.func150, Tryz.ntmps150
    go_wp2_with fail
    refine (Cmp.readMapBegin h).mono ?_
    rintro e w1 ⟨kt, t, n, ev, rfl, hp1, hv1⟩
    obtain ⟨tt, x, rfl⟩ := hp1.err.held HZ.out
    clear hv1
    go_wp2_with fail
    go_ret
    exact ⟨_, rfl, hp1⟩

theorem Cmp.skips (K : Cmp.Ctx) (d : Nat) : Cmp.Skips K d := by
  induction d with
  | zero => exact Cmp.skip_zero K
  | succ d ih =>
    intro deep t s w hd hlo hhi h hroom
    have hd0 : 0 < deep := by omega
    by_cases hsc : isSc t = true
    · have e : skp (Cmp.pr K) (d + 1) t s = ((Cmp.pr K).scK t s, (Cmp.pr K).scS t s) := by simp only [skp]; rw [if_pos hsc]
      rw [e]
      exact Cmp.skip_scalar K d deep t s w hd0 hhi h hsc
    · by_cases h12 : t = 12
      · subst h12
        have e : skp (Cmp.pr K) (d + 1) 12 s = flds (Cmp.pr K) (skp (Cmp.pr K) d) ((Cmp.pr K).len ((Cmp.pr K).sbS s) + 1) ((Cmp.pr K).sbS s) := by simp [skp, isSc]
        rw [e]
        exact Cmp.skip_struct K d ih deep s w hd hd0 hhi h hroom
      · by_cases h13 : t = 13
        · subst h13; exact Cmp.skip_map K d ih deep s w hd hd0 hhi h hroom
        · by_cases h14 : t = 14
          · subst h14; exact Cmp.skip_set K d ih deep s w hd hd0 hhi h hroom
          · by_cases h15 : t = 15
            · subst h15; exact Cmp.skip_list K d ih deep s w hd hd0 hhi h hroom
            · have e : skp (Cmp.pr K) (d + 1) t s = (11, s) := by
                simp only [skp]; rw [if_neg hsc, if_neg h12, if_neg h13, if_neg (by omega)]
              rw [e]
              exact Cmp.skip_other K deep t s w hd0 hhi h (by simpa using hsc) h12 h13 h14 h15

end Go.Proofs.YtnccjcbelcbgoaaGreatDoor

/- Reading an application exception over a protocol. -/
namespace Go.Proofs.YtnccjcbelcbgoaaGreatDoor
open Go Go.RowKit

set_option maxHeartbeats 1000000 in
theorem Cmp.skip_default (K : Cmp.Ctx) (t : Int) (s : Cmp.St) (w : World) (h : Cmp.Inv K s w) (hroom : (Cmp.pr K).Room s) :
    Calls Tryz.prog 149 #[ctxV, Cmp.V K, .int .u8 t] w fun e w' => ∃ ev, e = .returned ev ∧ Cmp.Post K w w' (skp (Cmp.pr K) 64 t s).1 ev (skp (Cmp.pr K) 64 t s).2 := by
  go_enter Tryz.func149, Tryz.ntmps149
  go_wp2_with fail
  refine (Cmp.skips K 64 64 t s w (by decide) (by decide) (by decide) h hroom).mono ?_
  rintro e w1 ⟨ev, rfl, hp⟩
  go_wp2_with fail
  go_ret
  exact ⟨_, rfl, hp⟩

/-- What holds ahead of each field: tot is what the whole fields make. -/
def Cmp.FltRel (K : Cmp.Ctx) (w : World) (tot : Int × Cmp.St × (List UInt8 × Int)) (b k : Nat) (v9 v10 : Value) (wr : World) : Prop :=
  ∃ s a, v9 = .string ⟨a.1.toArray⟩ ∧ v10 = .int .i32 a.2 ∧ ((-2147483648 ≤ a.2 ∧ a.2 ≤ 2147483647) ∧ a.1.length ≤ 140737488355328) ∧ Cmp.Inv K s wr ∧ Kpt (Cmp.M K) w wr ∧ (Cmp.pr K).len s < k ∧ flt (Cmp.pr K) k s a = tot ∧ (Cmp.pr K).one ≤ (Cmp.pr K).dep s ∧ (Cmp.pr K).len s + (Cmp.pr K).dep s ≤ b

def Cmp.FltP (K : Cmp.Ctx) (PX : Nat) (ex : Value) (r : Int × Cmp.St × (List UInt8 × Int)) (w : World) (e : Ending) (w' : World) : Prop :=
  ∃ ev w1 mm qq, e = .returned ev ∧ Cmp.Post K w w1 r.1 ev r.2.1 ∧ Keep (fun i => PX = i) w1 w' ∧ w'.heap[PX]? = some (.cells (excC mm qq ex) 103 (0, 0)) ∧ ((-2147483648 ≤ qq ∧ qq ≤ 2147483647) ∧ mm.size ≤ 140737488355328) ∧ (r.1 = 0 → mm = ⟨r.2.2.1.toArray⟩ ∧ qq = r.2.2.2)

set_option maxRecDepth 100000 in
set_option maxHeartbeats 8000000 in
theorem Cmp.fault_read (K : Cmp.Ctx) (PX : Nat) (m0 : ByteArray) (q0 : Int) (ex : Value) (hq0 : (-2147483648 ≤ q0 ∧ q0 ≤ 2147483647) ∧ m0.size ≤ 140737488355328) (s : Cmp.St) (w : World) (h : Cmp.Inv K s w) (hroom : (Cmp.pr K).Room s) (hP : w.heap[PX]? = some (.cells (excC m0 q0 ex) 103 (0, 0))) (hnP : ¬ Cmp.M K w PX)
    (tot : Int × Cmp.St × (List UInt8 × Int)) (htot : flt (Cmp.pr K) ((Cmp.pr K).len ((Cmp.pr K).sbS s) + 1) ((Cmp.pr K).sbS s) ([], 0) = tot) :
    Calls Tryz.prog 144 #[.pointer (some ⟨PX, 0, none⟩), ctxV, Cmp.V K] w (Cmp.FltP K PX ex tot w) := by
  have HT := Lib.hid htot
  clear htot
  have hR : (Cmp.pr K).len s + (Cmp.pr K).dep s < 1099511627776 := hroom
  have HRM := Lib.hid hR
  have HP := Lib.hid hP
  have HNP := Lib.hid hnP
  have HQ0 := Lib.hid hq0
  clear hroom hR hP hnP hq0
  go_enter Tryz.func144, Tryz.ntmps144
  go_wp2_with fail
  refine (Cmp.readStructBegin h (by have := HRM.out; omega)).mono ?_
  rintro e w1 ⟨l, rfl, hp1⟩
  go_wp2_with fail
  go_loopg [9, 10] ((Cmp.pr K).len ((Cmp.pr K).sbS s) + 1) (fun k v9 v10 wr => Cmp.FltRel K w tot ((Cmp.pr K).len s + (Cmp.pr K).dep s + (Cmp.pr K).one) k v9 v10 wr)
  case atStart => exact ⟨_, ([], 0), rfl, rfl, by simp, hp1.inv rfl, hp1.keep, Nat.lt_succ_self _, HT.out, by rw [(Cmp.ok K).dsb]; omega, by rw [(Cmp.ok K).dsb]; have := (Cmp.ok K).sb s; omega⟩
  case round =>
    obtain ⟨s1, a, rfl, rfl, ha, hi1, hk1, hlt, hfl, hdp⟩ := hrel
    have HDP := Lib.hid hdp
    obtain ⟨⟨ha1, ha2⟩, ha3⟩ := ha
    clear hdp
    cases gk with
    | zero => exact absurd hlt (Nat.not_lt_zero _)
    | succ k =>
    have HF := Lib.hid hfl
    have HLT := Lib.hid hlt
    clear hfl hlt
    go_wp2_with fail
    refine (Cmp.readFieldBegin hi1).mono ?_
    rintro e w2 ⟨l2, t, id, ev, rfl, hp2, hv2⟩
    by_cases hz : (Cmp.pr K).fK s1 = 0
    · have hev : ev = .nilIface := by have := hp2.err; rw [hz] at this; exact this.isNil
      subst hev
      obtain ⟨ht, hid2⟩ := hv2 hz
      have HZ := Lib.hid hz
      have HID := Lib.hid hid2
      clear hv2 hz hid2
      by_cases ht0 : t = 0
      · subst ht0
        have HT0 := Lib.hid ht
        clear ht
        go_wp2_with fail
        refine (Cmp.readStructEnd (hp2.inv HZ.out) (by rw [(Cmp.ok K).df s1 HZ.out]; exact HDP.out.1)).mono ?_
        rintro e w3 ⟨rfl, hp3⟩
        have hpo := (Cmp.Post.onto hk1 hp2).then hp3
        have hP3 := (hpo.keep.block PX (lt_of_heap HP.out) HNP.out).trans HP.out
        have c0 := cellAt hP3 0
        have c1 := cellAt hP3 1
        have f0 := freeAt hP3 0
        have f1 := freeAt hP3 1
        simp at c0 c1
        have HPO := Lib.hid hpo
        have HP3 := Lib.hid hP3
        clear hpo hP3
        go_wp2_with fail
        go_ret
        have e1 : tot = (0, (Cmp.pr K).seS ((Cmp.pr K).fS s1), a) := by
          rw [← HF.out]; simp only [flt]; rw [if_pos HZ.out, if_pos HT0.out.symm]
        rw [e1]
        have h1 := heap_set_same (i := 0) HP3.out (.string ⟨a.1.toArray⟩)
        have h2 := heap_set_same (i := 1) h1 (.int .i32 a.2)
        exact ⟨_, w3, _, _, rfl, HPO.out, ((Keep.refl (fun i => PX = i) w3).set PX 0 (fun _ => rfl) _).set PX 1 (fun _ => rfl) _, by simpa using h2, ⟨⟨ha1, ha2⟩, by show a.1.toArray.size ≤ _; simpa using ha3⟩, fun _ => ⟨rfl, rfl⟩⟩
      · have HT0 := Lib.hid ht
        have hne : ¬ (Cmp.pr K).fT s1 = 0 := fun hh => ht0 (HT0.out.trans hh)
        have HNE := Lib.hid hne
        have HRM2 : Hid ((Cmp.pr K).Room ((Cmp.pr K).fS s1)) := Lib.hid (by have a1 := (Cmp.ok K).df s1 HZ.out; have a2 := (Cmp.ok K).f s1 HZ.out; have a3 := HDP.out.2; have a4 := (Cmp.ok K).one1; have a5 := HRM.out; show _ + _ < _; omega)
        have HK2 := Lib.hid (hk1.then hp2.keep)
        have hnt0 : (t == 0) = false := by simpa using ht0
        clear ht hne
        by_cases hA : id = 1 ∧ t = 11
        · obtain ⟨rfl, rfl⟩ := hA
          have HA : Hid ((Cmp.pr K).fI s1 = 1 ∧ (Cmp.pr K).fT s1 = 11) := Lib.hid ⟨HID.out.symm, HT0.out.symm⟩
          go_wp2_with fail
          refine (Cmp.readString (hp2.inv HZ.out)).mono ?_
          rintro e w3 ⟨l3, ev, rfl, hp3, hv3⟩
          by_cases hz3 : (Cmp.pr K).scK 11 ((Cmp.pr K).fS s1) = 0
          · have hev : ev = .nilIface := by have := hp3.err; rw [hz3] at this; exact this.isNil
            subst hev
            obtain rfl := hv3 hz3
            have HZ3 := Lib.hid hz3
            clear hz3 hv3
            go_wp2_with fail
            refine (Cmp.readFieldEnd (hp3.inv HZ3.out)).mono ?_
            rintro e w4 ⟨rfl, hp4⟩
            go_wp2_with fail
            go_roundg k
            case measure => exact Nat.lt_succ_self _
            case rel =>
              refine ⟨_, ((Cmp.pr K).scB 11 ((Cmp.pr K).fS s1), a.2), rfl, rfl, ⟨⟨ha1, ha2⟩, Cmp.b_le (hp2.inv HZ.out) 11⟩, hp4.inv rfl, (HK2.out.then hp3.keep).then hp4.keep, ?_, ?_, ?_⟩
              · have ok := Cmp.ok K
                have a1 := ok.fe ((Cmp.pr K).scS 11 ((Cmp.pr K).fS s1))
                have a2 := ok.sc 11 ((Cmp.pr K).fS s1)
                have a3 := ok.f s1 HZ.out
                have a4 := HLT.out
                omega
              · rw [← HF.out]; simp only [flt]; rw [if_pos HZ.out, if_neg HNE.out, if_pos HA.out, if_pos HZ3.out]
              · have ok := Cmp.ok K
                have a1 := ok.fe ((Cmp.pr K).scS 11 ((Cmp.pr K).fS s1))
                have a2 := ok.sc 11 ((Cmp.pr K).fS s1)
                have a3 := ok.f s1 HZ.out
                have a4 := HDP.out
                have a5 := ok.dfe ((Cmp.pr K).scS 11 ((Cmp.pr K).fS s1))
                have a6 := ok.dsc 11 _ HZ3.out
                have a7 := ok.df s1 HZ.out
                exact ⟨by omega, by omega⟩
          · obtain ⟨tt, x, rfl⟩ := hp3.err.held hz3
            have HZ3 := Lib.hid hz3
            have HPO := Lib.hid (Cmp.Post.onto HK2.out hp3)
            clear hz3 hv3
            go_wp2_with fail
            go_ret
            have e1 : tot = ((Cmp.pr K).scK 11 ((Cmp.pr K).fS s1), (Cmp.pr K).scS 11 ((Cmp.pr K).fS s1), a) := by
              rw [← HF.out]; simp only [flt]; rw [if_pos HZ.out, if_neg HNE.out, if_pos HA.out, if_neg HZ3.out]
            rw [e1]
            exact ⟨_, w3, m0, q0, rfl, HPO.out, Keep.refl _ _, (HPO.out.keep.block PX (lt_of_heap HP.out) HNP.out).trans HP.out, HQ0.out, fun hh => absurd hh HZ3.out⟩
        · by_cases hB : id = 2 ∧ t = 8
          · obtain ⟨rfl, rfl⟩ := hB
            have HB : Hid ((Cmp.pr K).fI s1 = 2 ∧ (Cmp.pr K).fT s1 = 8) := Lib.hid ⟨HID.out.symm, HT0.out.symm⟩
            have HNA : Hid (¬ ((Cmp.pr K).fI s1 = 1 ∧ (Cmp.pr K).fT s1 = 11)) := Lib.hid (by rw [HB.out.1]; rintro ⟨e, _⟩; exact absurd e (by decide))
            go_wp2_with fail
            refine (Cmp.readI32 (hp2.inv HZ.out)).mono ?_
            rintro e w3 ⟨n3, ev, rfl, hp3, hv3, hn1, hn2⟩
            by_cases hz3 : (Cmp.pr K).scK 8 ((Cmp.pr K).fS s1) = 0
            · have hev : ev = .nilIface := by have := hp3.err; rw [hz3] at this; exact this.isNil
              subst hev
              have HN3 : Hid (n3 = wrap32 ((Cmp.pr K).scN 8 ((Cmp.pr K).fS s1))) := Lib.hid (by rw [← hv3 hz3]; simp only [wrap32]; omega)
              have HZ3 := Lib.hid hz3
              clear hz3 hv3
              go_wp2_with fail
              refine (Cmp.readFieldEnd (hp3.inv HZ3.out)).mono ?_
              rintro e w4 ⟨rfl, hp4⟩
              go_wp2_with fail
              go_roundg k
              case measure => exact Nat.lt_succ_self _
              case rel =>
                refine ⟨_, (a.1, wrap32 ((Cmp.pr K).scN 8 ((Cmp.pr K).fS s1))), rfl, by rw [HN3.out], by rw [← HN3.out]; exact ⟨⟨hn1, hn2⟩, ha3⟩, hp4.inv rfl, (HK2.out.then hp3.keep).then hp4.keep, ?_, ?_, ?_⟩
                · have ok := Cmp.ok K
                  have a1 := ok.fe ((Cmp.pr K).scS 8 ((Cmp.pr K).fS s1))
                  have a2 := ok.sc 8 ((Cmp.pr K).fS s1)
                  have a3 := ok.f s1 HZ.out
                  have a4 := HLT.out
                  omega
                · rw [← HF.out]; simp only [flt]; rw [if_pos HZ.out, if_neg HNE.out, if_neg HNA.out, if_pos HB.out, if_pos HZ3.out]
                · have ok := Cmp.ok K
                  have a1 := ok.fe ((Cmp.pr K).scS 8 ((Cmp.pr K).fS s1))
                  have a2 := ok.sc 8 ((Cmp.pr K).fS s1)
                  have a3 := ok.f s1 HZ.out
                  have a4 := HDP.out
                  have a5 := ok.dfe ((Cmp.pr K).scS 8 ((Cmp.pr K).fS s1))
                  have a6 := ok.dsc 8 _ HZ3.out
                  have a7 := ok.df s1 HZ.out
                  exact ⟨by omega, by omega⟩
            · obtain ⟨tt, x, rfl⟩ := hp3.err.held hz3
              have HZ3 := Lib.hid hz3
              have HPO := Lib.hid (Cmp.Post.onto HK2.out hp3)
              clear hz3 hv3
              go_wp2_with fail
              go_ret
              have e1 : tot = ((Cmp.pr K).scK 8 ((Cmp.pr K).fS s1), (Cmp.pr K).scS 8 ((Cmp.pr K).fS s1), a) := by
                rw [← HF.out]; simp only [flt]; rw [if_pos HZ.out, if_neg HNE.out, if_neg HNA.out, if_pos HB.out, if_neg HZ3.out]
              rw [e1]
              exact ⟨_, w3, m0, q0, rfl, HPO.out, Keep.refl _ _, (HPO.out.keep.block PX (lt_of_heap HP.out) HNP.out).trans HP.out, HQ0.out, fun hh => absurd hh HZ3.out⟩
          · have HNA : Hid (¬ ((Cmp.pr K).fI s1 = 1 ∧ (Cmp.pr K).fT s1 = 11)) := Lib.hid (fun hh => hA ⟨HID.out.trans hh.1, HT0.out.trans hh.2⟩)
            have HNB : Hid (¬ ((Cmp.pr K).fI s1 = 2 ∧ (Cmp.pr K).fT s1 = 8)) := Lib.hid (fun hh => hB ⟨HID.out.trans hh.1, HT0.out.trans hh.2⟩)
            have hcs : (id = 1 ∧ ¬ t = 11) ∨ (id = 2 ∧ ¬ t = 8) ∨ (¬ id = 1 ∧ ¬ id = 2) := by
              by_cases h1 : id = 1
              · exact .inl ⟨h1, fun h => hA ⟨h1, h⟩⟩
              · by_cases h2 : id = 2
                · exact .inr (.inl ⟨h2, fun h => hB ⟨h2, h⟩⟩)
                · exact .inr (.inr ⟨h1, h2⟩)
            clear hA hB
            have hsk := fun (_ : World) => Cmp.skip_default K t ((Cmp.pr K).fS s1) w2 (hp2.inv HZ.out) HRM2.out
            have HSK := Lib.hid hsk
            clear hsk
            rcases hcs with ⟨rfl, hu⟩ | ⟨rfl, hu⟩ | ⟨hu1, hu2⟩
            · have hub : (t == 11) = false := by simpa using hu
              go_wp2_with fail
              refine (HSK.out w2).mono ?_
              rintro e w3 ⟨ev, rfl, hp3⟩
              rw [HT0.out] at hp3
              by_cases hz3 : (skp (Cmp.pr K) 64 ((Cmp.pr K).fT s1) ((Cmp.pr K).fS s1)).1 = 0
              · have hev : ev = .nilIface := by have := hp3.err; rw [hz3] at this; exact this.isNil
                subst hev
                have HZ3 := Lib.hid hz3
                clear hz3
                go_wp2_with fail
                refine (Cmp.readFieldEnd (hp3.inv HZ3.out)).mono ?_
                rintro e w4 ⟨rfl, hp4⟩
                go_wp2_with fail
                go_roundg k
                case measure => exact Nat.lt_succ_self _
                case rel =>
                  refine ⟨_, a, rfl, rfl, ⟨⟨ha1, ha2⟩, ha3⟩, hp4.inv rfl, (HK2.out.then hp3.keep).then hp4.keep, ?_, ?_, ?_⟩
                  · have ok := Cmp.ok K
                    have a1 := ok.fe (skp (Cmp.pr K) 64 ((Cmp.pr K).fT s1) ((Cmp.pr K).fS s1)).2
                    have a2 := skp_len ok 64 _ _ HZ3.out
                    have a3 := ok.f s1 HZ.out
                    have a4 := HLT.out
                    omega
                  · rw [← HF.out]; simp only [flt]; rw [if_pos HZ.out, if_neg HNE.out, if_neg HNA.out, if_neg HNB.out, if_pos HZ3.out]
                  · have ok := Cmp.ok K
                    have a1 := ok.fe (skp (Cmp.pr K) 64 ((Cmp.pr K).fT s1) ((Cmp.pr K).fS s1)).2
                    have a2 := skp_len ok 64 _ _ HZ3.out
                    have a3 := ok.f s1 HZ.out
                    have a4 := HDP.out
                    have a5 := ok.dfe (skp (Cmp.pr K) 64 ((Cmp.pr K).fT s1) ((Cmp.pr K).fS s1)).2
                    have a6 := skp_dep ok 64 _ _ HZ3.out
                    have a7 := ok.df s1 HZ.out
                    exact ⟨by omega, by omega⟩
              · obtain ⟨tt, x, rfl⟩ := hp3.err.held hz3
                have HZ3 := Lib.hid hz3
                have HPO := Lib.hid (Cmp.Post.onto HK2.out hp3)
                clear hz3
                go_wp2_with fail
                go_ret
                have e1 : tot = ((skp (Cmp.pr K) 64 ((Cmp.pr K).fT s1) ((Cmp.pr K).fS s1)).1, (skp (Cmp.pr K) 64 ((Cmp.pr K).fT s1) ((Cmp.pr K).fS s1)).2, a) := by
                  rw [← HF.out]; simp only [flt]; rw [if_pos HZ.out, if_neg HNE.out, if_neg HNA.out, if_neg HNB.out, if_neg HZ3.out]
                rw [e1]
                exact ⟨_, w3, m0, q0, rfl, HPO.out, Keep.refl _ _, (HPO.out.keep.block PX (lt_of_heap HP.out) HNP.out).trans HP.out, HQ0.out, fun hh => absurd hh HZ3.out⟩
            · have hub : (t == 8) = false := by simpa using hu
              go_wp2_with fail
              refine (HSK.out w2).mono ?_
              rintro e w3 ⟨ev, rfl, hp3⟩
              rw [HT0.out] at hp3
              by_cases hz3 : (skp (Cmp.pr K) 64 ((Cmp.pr K).fT s1) ((Cmp.pr K).fS s1)).1 = 0
              · have hev : ev = .nilIface := by have := hp3.err; rw [hz3] at this; exact this.isNil
                subst hev
                have HZ3 := Lib.hid hz3
                clear hz3
                go_wp2_with fail
                refine (Cmp.readFieldEnd (hp3.inv HZ3.out)).mono ?_
                rintro e w4 ⟨rfl, hp4⟩
                go_wp2_with fail
                go_roundg k
                case measure => exact Nat.lt_succ_self _
                case rel =>
                  refine ⟨_, a, rfl, rfl, ⟨⟨ha1, ha2⟩, ha3⟩, hp4.inv rfl, (HK2.out.then hp3.keep).then hp4.keep, ?_, ?_, ?_⟩
                  · have ok := Cmp.ok K
                    have a1 := ok.fe (skp (Cmp.pr K) 64 ((Cmp.pr K).fT s1) ((Cmp.pr K).fS s1)).2
                    have a2 := skp_len ok 64 _ _ HZ3.out
                    have a3 := ok.f s1 HZ.out
                    have a4 := HLT.out
                    omega
                  · rw [← HF.out]; simp only [flt]; rw [if_pos HZ.out, if_neg HNE.out, if_neg HNA.out, if_neg HNB.out, if_pos HZ3.out]
                  · have ok := Cmp.ok K
                    have a1 := ok.fe (skp (Cmp.pr K) 64 ((Cmp.pr K).fT s1) ((Cmp.pr K).fS s1)).2
                    have a2 := skp_len ok 64 _ _ HZ3.out
                    have a3 := ok.f s1 HZ.out
                    have a4 := HDP.out
                    have a5 := ok.dfe (skp (Cmp.pr K) 64 ((Cmp.pr K).fT s1) ((Cmp.pr K).fS s1)).2
                    have a6 := skp_dep ok 64 _ _ HZ3.out
                    have a7 := ok.df s1 HZ.out
                    exact ⟨by omega, by omega⟩
              · obtain ⟨tt, x, rfl⟩ := hp3.err.held hz3
                have HZ3 := Lib.hid hz3
                have HPO := Lib.hid (Cmp.Post.onto HK2.out hp3)
                clear hz3
                go_wp2_with fail
                go_ret
                have e1 : tot = ((skp (Cmp.pr K) 64 ((Cmp.pr K).fT s1) ((Cmp.pr K).fS s1)).1, (skp (Cmp.pr K) 64 ((Cmp.pr K).fT s1) ((Cmp.pr K).fS s1)).2, a) := by
                  rw [← HF.out]; simp only [flt]; rw [if_pos HZ.out, if_neg HNE.out, if_neg HNA.out, if_neg HNB.out, if_neg HZ3.out]
                rw [e1]
                exact ⟨_, w3, m0, q0, rfl, HPO.out, Keep.refl _ _, (HPO.out.keep.block PX (lt_of_heap HP.out) HNP.out).trans HP.out, HQ0.out, fun hh => absurd hh HZ3.out⟩
            · have hub1 : (id == 1) = false := by simpa using hu1
              have hub2 : (id == 2) = false := by simpa using hu2
              go_wp2_with fail
              refine (HSK.out w2).mono ?_
              rintro e w3 ⟨ev, rfl, hp3⟩
              rw [HT0.out] at hp3
              by_cases hz3 : (skp (Cmp.pr K) 64 ((Cmp.pr K).fT s1) ((Cmp.pr K).fS s1)).1 = 0
              · have hev : ev = .nilIface := by have := hp3.err; rw [hz3] at this; exact this.isNil
                subst hev
                have HZ3 := Lib.hid hz3
                clear hz3
                go_wp2_with fail
                refine (Cmp.readFieldEnd (hp3.inv HZ3.out)).mono ?_
                rintro e w4 ⟨rfl, hp4⟩
                go_wp2_with fail
                go_roundg k
                case measure => exact Nat.lt_succ_self _
                case rel =>
                  refine ⟨_, a, rfl, rfl, ⟨⟨ha1, ha2⟩, ha3⟩, hp4.inv rfl, (HK2.out.then hp3.keep).then hp4.keep, ?_, ?_, ?_⟩
                  · have ok := Cmp.ok K
                    have a1 := ok.fe (skp (Cmp.pr K) 64 ((Cmp.pr K).fT s1) ((Cmp.pr K).fS s1)).2
                    have a2 := skp_len ok 64 _ _ HZ3.out
                    have a3 := ok.f s1 HZ.out
                    have a4 := HLT.out
                    omega
                  · rw [← HF.out]; simp only [flt]; rw [if_pos HZ.out, if_neg HNE.out, if_neg HNA.out, if_neg HNB.out, if_pos HZ3.out]
                  · have ok := Cmp.ok K
                    have a1 := ok.fe (skp (Cmp.pr K) 64 ((Cmp.pr K).fT s1) ((Cmp.pr K).fS s1)).2
                    have a2 := skp_len ok 64 _ _ HZ3.out
                    have a3 := ok.f s1 HZ.out
                    have a4 := HDP.out
                    have a5 := ok.dfe (skp (Cmp.pr K) 64 ((Cmp.pr K).fT s1) ((Cmp.pr K).fS s1)).2
                    have a6 := skp_dep ok 64 _ _ HZ3.out
                    have a7 := ok.df s1 HZ.out
                    exact ⟨by omega, by omega⟩
              · obtain ⟨tt, x, rfl⟩ := hp3.err.held hz3
                have HZ3 := Lib.hid hz3
                have HPO := Lib.hid (Cmp.Post.onto HK2.out hp3)
                clear hz3
                go_wp2_with fail
                go_ret
                have e1 : tot = ((skp (Cmp.pr K) 64 ((Cmp.pr K).fT s1) ((Cmp.pr K).fS s1)).1, (skp (Cmp.pr K) 64 ((Cmp.pr K).fT s1) ((Cmp.pr K).fS s1)).2, a) := by
                  rw [← HF.out]; simp only [flt]; rw [if_pos HZ.out, if_neg HNE.out, if_neg HNA.out, if_neg HNB.out, if_neg HZ3.out]
                rw [e1]
                exact ⟨_, w3, m0, q0, rfl, HPO.out, Keep.refl _ _, (HPO.out.keep.block PX (lt_of_heap HP.out) HNP.out).trans HP.out, HQ0.out, fun hh => absurd hh HZ3.out⟩
    · obtain ⟨tt, x, rfl⟩ := hp2.err.held hz
      have HZ := Lib.hid hz
      have HPO := Lib.hid (Cmp.Post.onto hk1 hp2)
      clear hv2 hz
      go_wp2_with fail
      go_ret
      have e1 : tot = ((Cmp.pr K).fK s1, (Cmp.pr K).fS s1, a) := by
        rw [← HF.out]; simp only [flt]; rw [if_neg HZ.out]
      rw [e1]
      exact ⟨_, w2, m0, q0, rfl, HPO.out, Keep.refl _ _, (HPO.out.keep.block PX (lt_of_heap HP.out) HNP.out).trans HP.out, HQ0.out, fun hh => absurd hh HZ.out⟩

end Go.Proofs.YtnccjcbelcbgoaaGreatDoor
