/- Part 34 of the proof: Sg2. -/
import Derived.Test.YtjekbomlpcdojaaGreatDoorK32
import Derived.Test.YtjekbomlpcdojaaGreatDoorK33
set_option linter.unusedVariables false
set_option linter.unusedSimpArgs false
set_option linter.unusedSectionVars false
set_option maxHeartbeats 16000000
namespace Go.Proofs.YtjekbomlpcdojaaGreatDoor
open Go Go.RowKit
def GotsAt (A : Nat → Prop) (w : World) (v : Value) (l : List Sg) : Prop :=
 ∃ a c, v = .slice a l.length c ∧ l.length ≤ 140737488355328 ∧ (l.length ≠ 0 → l.length ≤ c ∧ c ≤ 9223372036854775807) ∧ ∀ j x, l[j]? = some x → ∃ D o sa sm sc, a = some ⟨D, o, none⟩ ∧ A D ∧ Row7 w D (o + j * 7) (.int .i64 x.op) (.int .i64 x.t) (.int .i64 x.k) (.int .i64 x.z) (.int .i64 x.i) (.int .i64 x.n) (.slice sa sm sc) ∧ (x.op = 0 → BytesAt A w (.slice sa sm sc) x.s)
theorem GotsAt.keep {A M : Nat → Prop} {w w' : World} {v : Value} {l : List Sg} (h : GotsAt A w v l) (k : Keep M w w') (hM : ∀ i, A i → ¬ M i) : GotsAt A w' v l := by
 obtain ⟨a, c, rfl, h1, h2, h3⟩ := h
 refine ⟨a, c, rfl, h1, h2, fun j x hj => ?_⟩
 obtain ⟨D, o, sa, sm, sc, e1, e2, e3, e4⟩ := h3 j x hj
 exact ⟨D, o, sa, sm, sc, e1, e2, e3.keep k (hM D e2), fun hz => (e4 hz).keep k hM⟩
theorem GotsAt.weak {A A' : Nat → Prop} {w : World} {v : Value} {l : List Sg} (h : GotsAt A w v l) (hA : ∀ i, i < w.heap.size → A i → A' i) : GotsAt A' w v l := by
 obtain ⟨a, c, rfl, h1, h2, h3⟩ := h
 refine ⟨a, c, rfl, h1, h2, fun j x hj => ?_⟩
 obtain ⟨D, o, sa, sm, sc, e1, e2, e3, e4⟩ := h3 j x hj
 exact ⟨D, o, sa, sm, sc, e1, hA D (lt_of_cell e3.1) e2, e3, fun hz => (e4 hz).weak hA⟩
theorem sameGot_kind (k x t1 k1 z1 i1 n1 t2 k2 z2 i2 n2 : Int) (s1 s2 : Value) (h : Sk k x) (hx : x ≠ 0) (w : World) :
  Calls Tryz.prog 64 #[.agg (stepG k t1 k1 z1 i1 n1 s1), .agg (stepG x t2 k2 z2 i2 n2 s2)] w (BoolP (fun b => b = true) w) := by
 have hxb : (x != 0) = true := by simpa using hx
 have H := hdd h
 clear h
 go_enter Tryz.func64, Tryz.ntmps64
 go_wp2_with fail
 refine (sameKind_at k x H.out _).mono ?_
 rintro e w1 ⟨rfl, rfl⟩
 go_wp2_with fail
 go_ret
 exact ⟨true, rfl, rfl, ((Keep.refl _ w).alloc _).alloc _⟩
set_option maxRecDepth 100000 in
theorem sameGot_eq {A A' : Nat → Prop} {w : World} {v1 v2 : Value} {l : List UInt8} (h1 : BytesAt A w v1 l) (h2 : BytesAt A' w v2 l) (t k z i n : Int) :
  Calls Tryz.prog 64 #[.agg (stepG 0 t k z i n v1), .agg (stepG 0 t k z i n v2)] w (BoolP (fun b => b = true) w) := by
 obtain ⟨a1, c1, rfl, hl, hc1, g1⟩ := h1.cellAt'
 obtain ⟨a2, c2, rfl, _, hc2, g2⟩ := h2.cellAt'
 obtain ⟨L, hL⟩ : ∃ L, l.length = L := ⟨_, rfl⟩
 rw [hL] at hl hc1 hc2 ⊢
 have hk0 : Keep (fun _ => False) w ((w.alloc (.cells (stepG 0 t k z i n (.slice a1 L c1)) 75 (0, 0))).alloc (.cells (stepG 0 t k z i n (.slice a2 L c2)) 75 (0, 0))) := ((Keep.refl _ w).alloc _).alloc _
 have hU0 : ((w.alloc (.cells (stepG 0 t k z i n (.slice a1 L c1)) 75 (0, 0))).alloc (.cells (stepG 0 t k z i n (.slice a2 L c2)) 75 (0, 0))).heap[w.heap.size]? = some (.cells (stepG 0 t k z i n (.slice a1 L c1)) 75 (0, 0)) := (Below.heap_alloc _ _ _ (by simp)).trans (heap_alloc_new w _)
 have hV0 : ((w.alloc (.cells (stepG 0 t k z i n (.slice a1 L c1)) 75 (0, 0))).alloc (.cells (stepG 0 t k z i n (.slice a2 L c2)) 75 (0, 0))).heap[w.heap.size + 1]? = some (.cells (stepG 0 t k z i n (.slice a2 L c2)) 75 (0, 0)) := heap_alloc_at (by simp) _
 have HL := hdd hL
 have G1 := hdd g1
 have G2 := hdd g2
 have HC1 := hdd hc1
 have HC2 := hdd hc2
 clear hL g1 g2 hc1 hc2
 go_enter Tryz.func64, Tryz.ntmps64
 go_wp2_with fail
 obtain ⟨U, hU⟩ : ∃ U, w.heap.size = U := ⟨_, rfl⟩
 rw [hU] at hU0 hV0 ⊢
 generalize (w.alloc (.cells (stepG 0 t k z i n (.slice a1 L c1)) 75 (0, 0))).alloc (.cells (stepG 0 t k z i n (.slice a2 L c2)) 75 (0, 0)) = w1 at *
 have HK0 := hdd hk0
 clear hk0 hU
 obtain ⟨x0, x1, x2, x3, x4, x5, x6⟩ := got_cells hU0
 obtain ⟨y0, y1, y2, y3, y4, y5, y6⟩ := got_cells hV0
 clear hU0 hV0
 go_loopg [5] L (fun k v5 wr => ∃ i m : Nat, v5 = .int .i64 i ∧ i + k = L ∧ w1.drewN m = wr)
 case atStart => exact ⟨0, 0, rfl, by omega, rfl⟩
 case round =>
  obtain ⟨j, m, rfl, hjk, rfl⟩ := hrel
  by_cases hlt : j < L
  ·cases gk with
   | zero => omega
   | succ kk =>
   have hj : l[j]? = some (l[j]'(by have := HL.out; omega)) := List.getElem?_eq_getElem _
   obtain ⟨D1, o1, ha1, e1⟩ := G1.out j _ hj
   obtain ⟨D2, o2, ha2, e2⟩ := G2.out j _ hj
   generalize (l[j]'(by have := HL.out; omega)) = b at *
   subst ha1 ha2
   have e1 := (HK0.out.cell (p := ⟨D1, o1 + j, none⟩) (lt_of_cell e1) id).trans e1
   have e2 := (HK0.out.cell (p := ⟨D2, o2 + j, none⟩) (lt_of_cell e2) id).trans e2
   have hw : IntKind.i64.wrap ((j : Int) + 1) = (j : Int) + 1 := IntWalk.i64_in _ (by omega)
   have hlt' : (j : Int) < (L : Int) := by omega
   have hlc1 : L ≤ c1 := HC1.out (by omega)
   have hlc2 : L ≤ c2 := HC2.out (by omega)
   clear hj
   go_wp2_with fail
   go_quiet (fail)
   go_wp2_with fail
   go_roundg kk
   case measure => exact Nat.lt_succ_self _
   case rel => exact ⟨j + 1, _, by go_num, by omega, rfl⟩
  ·have hge : ¬ (j : Int) < (L : Int) := by omega
   go_wp2_with fail
   go_ret
   exact ⟨true, rfl, rfl, HK0.out.drewN m⟩
def GotRel (gi hs : List Sg) : Prop :=
 (∀ (j : Nat) (y : Sg), hs[j]? = some y → y.op = -2 ∨ ∃ x : Sg, gi[j]? = some x ∧ ((y.op ≠ 0 ∧ Sk x.op y.op) ∨ (y.op = 0 ∧ x = y))) ∧ (gi.length = hs.length ∨ ∃ (j : Nat) (y : Sg), hs[j]? = some y ∧ y.op = -2)
end Go.Proofs.YtjekbomlpcdojaaGreatDoor
