/- Part 22 of the proof: IsV. -/
import Derived.Test.YthehmlbolajljaaGreatDoorQ17
import Derived.Test.YthehmlbolajljaaGreatDoorQ20
import Derived.Deep.RegionHeld3
import Derived.Deep.Cut
import Derived.Deep.CutBlock
set_option linter.unusedVariables false
set_option linter.unusedSimpArgs false
set_option linter.unusedSectionVars false
set_option maxHeartbeats 16000000
namespace Go.Proofs.YthehmlbolajljaaGreatDoor
open Go Go.RowKit
theorem IntsAt.cellAt' {A : Nat → Prop} {w : World} {v : Value} {l : List Int} (h : IntsAt A w v l) : ∃ a c, v = .slice a l.length c ∧ l.length ≤ 140737488355328 ∧ (l.length ≠ 0 → l.length ≤ c) ∧ ∀ j b, l[j]? = some b → ∃ D o, a = some ⟨D, o, none⟩ ∧ w.cell? ⟨D, o + j, none⟩ = some (.int .i64 b) := by
 rcases h with ⟨rfl, a, c, rfl⟩ | ⟨hne, D, o, c, rfl, h1, h2, h3, h4⟩
 ·exact ⟨a, c, rfl, by simp, fun h => absurd rfl h, fun j b hj => by simp at hj⟩
 ·exact ⟨_, c, rfl, h2, fun _ => h1, fun j b hj => ⟨D, o, rfl, h4 j b hj⟩⟩
theorem equalInts_same {A A' : Nat → Prop} {w : World} {v1 v2 : Value} {l : List Int} (h1 : IntsAt A w v1 l) (h2 : IntsAt A' w v2 l) :
  Calls Tryz.prog 35 #[v1, v2] w fun e w' => e = .returned (.bool true) ∧ ∃ n, w.drewN n = w' := by
 obtain ⟨a1, c1, rfl, hl, hc1, g1⟩ := h1.cellAt'
 obtain ⟨a2, c2, rfl, _, hc2, g2⟩ := h2.cellAt'
 obtain ⟨L, hL⟩ : ∃ L, l.length = L := ⟨_, rfl⟩
 rw [hL] at hl hc1 hc2 ⊢
 have HL := hdd hL
 have G1 := hdd g1
 have G2 := hdd g2
 have HC1 := hdd hc1
 have HC2 := hdd hc2
 clear hL g1 g2 hc1 hc2
 go_enter Tryz.func35, Tryz.ntmps35
 go_wp2_with fail
 go_loopw [5] (fun i wr => ∃ k n : Nat, k ≤ L ∧ i = .int .i64 k ∧ w.drewN n = wr) (fun i _ => L - (intOf i).toNat)
 case atStart => exact ⟨0, 0, Nat.zero_le _, rfl, rfl⟩
 case round =>
  obtain ⟨k, n, hk, rfl, rfl⟩ := hrel
  by_cases hlt : k < L
  ·have hj : l[k]? = some (l[k]'(by have := HL.out; omega)) := List.getElem?_eq_getElem _
   obtain ⟨D1, o1, ha1, e1⟩ := G1.out k _ hj
   obtain ⟨D2, o2, ha2, e2⟩ := G2.out k _ hj
   generalize (l[k]'(by have := HL.out; omega)) = b at *
   subst ha1 ha2
   have hw : IntKind.i64.wrap ((k : Int) + 1) = (k : Int) + 1 := IntWalk.i64_in _ (by omega)
   have hlt' : (k : Int) < (L : Int) := by omega
   have hlc1 : L ≤ c1 := HC1.out (by omega)
   have hlc2 : L ≤ c2 := HC2.out (by omega)
   clear hj
   go_wp2_with fail
   go_quiet (fail)
   go_wp2_with fail
   go_roundw
   case rel => exact ⟨k + 1, _, by omega, by go_num, rfl⟩
   case measure => simp [intOf]; omega
  ·have hge : ¬ (k : Int) < (L : Int) := by omega
   go_wp2
   go_ret
   exact ⟨rfl, _, rfl⟩
theorem list7 (l : List Value) (h : l.length = 7) : ∃ v0 v1 v2 v3 v4 v5 v6, l = [v0, v1, v2, v3, v4, v5, v6] := by
 match l, h with
 | [v0, v1, v2, v3, v4, v5, v6], _ => exact ⟨v0, v1, v2, v3, v4, v5, v6, rfl⟩
theorem parts_at {d : Nat} {A : Nat → Prop} {w : World} {L : List V} {lv : Value}
  (h : (L = [] ∧ ∃ a c, lv = .slice a 0 c) ∨ (L ≠ [] ∧ ∃ D o c, lv = .slice (some ⟨D, o, none⟩) L.length c ∧ (L.length ≤ c ∧ c ≤ 9223372036854775807) ∧ A D ∧ ∀ j x, L[j]? = some x → ∃ cs', ValAt d A w cs' x ∧ ∀ i v, cs'[i]? = some v → w.cell? ⟨D, o + (j * 7 + i), none⟩ = some v)) :
  ∃ a c, lv = .slice a L.length c ∧ (L.length = 0 ∨ (L.length ≤ c ∧ c ≤ 9223372036854775807)) ∧ ∀ j x, L[j]? = some x → ∃ D o cs', a = some ⟨D, o, none⟩ ∧ ValAt d A w cs' x ∧ ∀ i v, cs'[i]? = some v → w.cell? ⟨D, o + (j * 7 + i), none⟩ = some v := by
 rcases h with ⟨rfl, a, c, rfl⟩ | ⟨hne, D, o, c, rfl, h1, h2, h3⟩
 ·exact ⟨a, c, rfl, .inl rfl, fun j x hj => by simp at hj⟩
 ·exact ⟨_, c, rfl, .inr h1, fun j x hj => let ⟨cs', e1, e2⟩ := h3 j x hj; ⟨D, o, cs', rfl, e1, e2⟩⟩
abbrev IsVals (d : Nat) : Prop := ∀ (A A' : Nat → Prop) (cs1 cs2 : List Value) (x : V) (w : World), ValAt d A w cs1 x → ValAt d A' w cs2 x →
 Calls Tryz.prog 13 #[.agg cs1.toArray, .agg cs2.toArray] w fun e w' => e = .returned (.bool true) ∧ Keep (fun _ => False) w w'
set_option maxRecDepth 100000 in
theorem isVal_same (d : Nat) : IsVals d := by
 induction d with
 | zero => intro A A' cs1 cs2 x w h1; exact h1.elim
 | succ d ih =>
  intro A A' cs1 cs2 x w h1 h2
  cases x with
  | mk T N S K E IDs L =>
  obtain ⟨sv1, iv1, lv1, rfl, hs1, hi1, hl1⟩ := h1
  obtain ⟨sv2, iv2, lv2, rfl, hs2, hi2, hl2⟩ := h2
  obtain ⟨n, hn⟩ : ∃ n, L.length = n := ⟨_, rfl⟩
  obtain ⟨a1, c1, rfl, hn1, g1⟩ := parts_at hl1
  obtain ⟨a2, c2, rfl, hn2, g2⟩ := parts_at hl2
  rw [hn] at hn1 hn2
  have HN := hdd hn
  have G1 := hdd g1
  have G2 := hdd g2
  have HS1 := hdd hs1
  have HS2 := hdd hs2
  have HI1 := hdd hi1
  have HI2 := hdd hi2
  rw [hn]
  clear hn g1 g2 hs1 hs2 hi1 hi2 hl1 hl2
  have hk0 : Keep (fun _ => False) w ((w.alloc (.cells (valC T N sv1 K E iv1 (.slice a1 n c1)) 29 (0, 0))).alloc (.cells (valC T N sv2 K E iv2 (.slice a2 n c2)) 34 (0, 0))) := ((Keep.refl _ w).alloc _).alloc _
  have hU0 : ((w.alloc (.cells (valC T N sv1 K E iv1 (.slice a1 n c1)) 29 (0, 0))).alloc (.cells (valC T N sv2 K E iv2 (.slice a2 n c2)) 34 (0, 0))).heap[w.heap.size]? = some (.cells (valC T N sv1 K E iv1 (.slice a1 n c1)) 29 (0, 0)) := (Below.heap_alloc _ _ _ (by simp)).trans (heap_alloc_new w _)
  have hV0 : ((w.alloc (.cells (valC T N sv1 K E iv1 (.slice a1 n c1)) 29 (0, 0))).alloc (.cells (valC T N sv2 K E iv2 (.slice a2 n c2)) 34 (0, 0))).heap[w.heap.size + 1]? = some (.cells (valC T N sv2 K E iv2 (.slice a2 n c2)) 34 (0, 0)) := heap_alloc_at (by simp) _
  go_enter Tryz.func13, Tryz.ntmps13
  go_wp2_with fail
  obtain ⟨U, hU⟩ : ∃ U, w.heap.size = U := ⟨_, rfl⟩
  rw [hU] at hU0 hV0 ⊢
  generalize (w.alloc (.cells (valC T N sv1 K E iv1 (.slice a1 n c1)) 29 (0, 0))).alloc (.cells (valC T N sv2 K E iv2 (.slice a2 n c2)) 34 (0, 0)) = w1 at *
  have HU0 := hdd hU0
  have HV0 := hdd hV0
  have HK0 := hdd hk0
  clear hU0 hV0 hk0 hU
  refine (equal_same (HS1.out.keep HK0.out (fun _ _ => id)) (HS2.out.keep HK0.out (fun _ _ => id))).mono ?_
  rintro e w2 ⟨rfl, n2, hw2⟩
  have hk2 : Keep (fun _ => False) w1 w2 := hw2 ▸ (Keep.refl _ w1).drewN n2
  have hU2 := (hk2.block U (lt_of_heap HU0.out) id).trans HU0.out
  have hV2 := (hk2.block (U + 1) (lt_of_heap HV0.out) id).trans HV0.out
  have HU2 := hdd hU2
  have HV2 := hdd hV2
  have HK2 := hdd (HK0.out.then hk2)
  obtain ⟨x0, x1, x2, x3, x4, x5, x6⟩ := got_cells hU2
  obtain ⟨y0, y1, y2, y3, y4, y5, y6⟩ := got_cells hV2
  clear hw2 hk2 hU2 hV2
  go_wp2_with fail
  refine (equalInts_same (HI1.out.keep HK2.out (fun _ _ => id)) (HI2.out.keep HK2.out (fun _ _ => id))).mono ?_
  rintro e w3 ⟨rfl, n3, hw3⟩
  have hk3 : Keep (fun _ => False) w2 w3 := hw3 ▸ (Keep.refl _ w2).drewN n3
  have hU3 := (hk3.block U (lt_of_heap HU2.out) id).trans HU2.out
  have hV3 := (hk3.block (U + 1) (lt_of_heap HV2.out) id).trans HV2.out
  have HU3 := hdd hU3
  have HV3 := hdd hV3
  have HK3 := hdd (HK2.out.then hk3)
  clear x0 x1 x2 x3 x4 x5 x6 y0 y1 y2 y3 y4 y5 y6 hw3 hk3
  obtain ⟨x0, x1, x2, x3, x4, x5, x6⟩ := got_cells hU3
  obtain ⟨y0, y1, y2, y3, y4, y5, y6⟩ := got_cells hV3
  clear hU3 hV3
  go_wp2_with fail
  go_loopg [5] n (fun k v wr => ∃ i : Nat, v = .int .i64 i ∧ i + k = n ∧ Keep (fun _ => False) w3 wr)
  case atStart => exact ⟨0, rfl, by omega, Keep.refl _ _⟩
  case round =>
   obtain ⟨i, rfl, hik, hkr⟩ := hrel
   have hU4 := (hkr.block U (lt_of_heap HU3.out) id).trans HU3.out
   have hV4 := (hkr.block (U + 1) (lt_of_heap HV3.out) id).trans HV3.out
   have HU4 := hdd hU4
   have HV4 := hdd hV4
   have HKR := hdd hkr
   obtain ⟨p0, p1, p2, p3, p4, p5, p6⟩ := got_cells hU4
   obtain ⟨q0, q1, q2, q3, q4, q5, q6⟩ := got_cells hV4
   clear hU4 hV4 hkr
   by_cases hlt : i < n
   ·cases gk with
    | zero => omega
    | succ k =>
    have hlt' : (i : Int) < (n : Int) := by omega
    have hj : L[i]? = some (L[i]'(by have := HN.out; omega)) := List.getElem?_eq_getElem _
    obtain ⟨D1, o1, cs1, ha1, hv1, e1⟩ := G1.out i _ hj
    obtain ⟨D2, o2, cs2, ha2, hv2, e2⟩ := G2.out i _ hj
    generalize (L[i]'(by have := HN.out; omega)) = xi at *
    subst ha1 ha2
    obtain ⟨v0, v1, v2, v3, v4, v5, v6, rfl⟩ := list7 cs1 hv1.len
    obtain ⟨z0, z1, z2, z3, z4, z5, z6, rfl⟩ := list7 cs2 hv2.len
    have hkw := HK3.out.then HKR.out
    have hc1 : ∀ k v, [v0, v1, v2, v3, v4, v5, v6][k]? = some v → wr.cell? ⟨D1, o1 + (i * 7 + k), none⟩ = some v := fun k v hk => (hkw.cell (p := ⟨D1, o1 + (i * 7 + k), none⟩) (lt_of_cell (e1 k v hk)) id).trans (e1 k v hk)
    have hc2 : ∀ k v, [z0, z1, z2, z3, z4, z5, z6][k]? = some v → wr.cell? ⟨D2, o2 + (i * 7 + k), none⟩ = some v := fun k v hk => (hkw.cell (p := ⟨D2, o2 + (i * 7 + k), none⟩) (lt_of_cell (e2 k v hk)) id).trans (e2 k v hk)
    have b0 : wr.cell? ⟨D1, o1 + i * 7, none⟩ = some v0 := hc1 0 v0 rfl
    have b1 : wr.cell? ⟨D1, o1 + i * 7 + 1, none⟩ = some v1 := hc1 1 v1 rfl
    have b2 : wr.cell? ⟨D1, o1 + i * 7 + 2, none⟩ = some v2 := hc1 2 v2 rfl
    have b3 : wr.cell? ⟨D1, o1 + i * 7 + 3, none⟩ = some v3 := hc1 3 v3 rfl
    have b4 : wr.cell? ⟨D1, o1 + i * 7 + 4, none⟩ = some v4 := hc1 4 v4 rfl
    have b5 : wr.cell? ⟨D1, o1 + i * 7 + 5, none⟩ = some v5 := hc1 5 v5 rfl
    have b6 : wr.cell? ⟨D1, o1 + i * 7 + 6, none⟩ = some v6 := hc1 6 v6 rfl
    have d0 : wr.cell? ⟨D2, o2 + i * 7, none⟩ = some z0 := hc2 0 z0 rfl
    have d1 : wr.cell? ⟨D2, o2 + i * 7 + 1, none⟩ = some z1 := hc2 1 z1 rfl
    have d2 : wr.cell? ⟨D2, o2 + i * 7 + 2, none⟩ = some z2 := hc2 2 z2 rfl
    have d3 : wr.cell? ⟨D2, o2 + i * 7 + 3, none⟩ = some z3 := hc2 3 z3 rfl
    have d4 : wr.cell? ⟨D2, o2 + i * 7 + 4, none⟩ = some z4 := hc2 4 z4 rfl
    have d5 : wr.cell? ⟨D2, o2 + i * 7 + 5, none⟩ = some z5 := hc2 5 z5 rfl
    have d6 : wr.cell? ⟨D2, o2 + i * 7 + 6, none⟩ = some z6 := hc2 6 z6 rfl
    have HW1 := hdd (hv1.keep hkw (fun _ _ => id))
    have HW2 := hdd (hv2.keep hkw (fun _ _ => id))
    have hnc1 : n ≤ c1 := by omega
    have hnc2 : n ≤ c2 := by omega
    have hw : IntKind.i64.wrap ((i : Int) + 1) = (i : Int) + 1 := IntWalk.i64_in _ (by omega)
    clear hc1 hc2 hv1 hv2 e1 e2 hj hkw x0 x1 x2 x3 x4 x5 x6 y0 y1 y2 y3 y4 y5 y6
    go_wp2_with fail
    go_region_held3 (fun w' => w'.cell? ⟨U, 6, none⟩ = some (.slice (some ⟨D1, o1, none⟩) n c1) ∧ w'.cell? ⟨U + 1, 6, none⟩ = some (.slice (some ⟨D2, o2, none⟩) n c2) ∧ w'.cell? ⟨D1, o1 + i * 7, none⟩ = some v0 ∧ w'.cell? ⟨D1, o1 + i * 7 + 1, none⟩ = some v1 ∧ w'.cell? ⟨D1, o1 + i * 7 + 2, none⟩ = some v2 ∧ w'.cell? ⟨D1, o1 + i * 7 + 3, none⟩ = some v3 ∧ w'.cell? ⟨D1, o1 + i * 7 + 4, none⟩ = some v4 ∧ w'.cell? ⟨D1, o1 + i * 7 + 5, none⟩ = some v5 ∧ w'.cell? ⟨D1, o1 + i * 7 + 6, none⟩ = some v6 ∧ w'.cell? ⟨D2, o2 + i * 7, none⟩ = some z0 ∧ w'.cell? ⟨D2, o2 + i * 7 + 1, none⟩ = some z1 ∧ w'.cell? ⟨D2, o2 + i * 7 + 2, none⟩ = some z2 ∧ w'.cell? ⟨D2, o2 + i * 7 + 3, none⟩ = some z3 ∧ w'.cell? ⟨D2, o2 + i * 7 + 4, none⟩ = some z4 ∧ w'.cell? ⟨D2, o2 + i * 7 + 5, none⟩ = some z5 ∧ w'.cell? ⟨D2, o2 + i * 7 + 6, none⟩ = some z6) (go_keep) (first | (go_at_call 13; refine (ih _ _ _ _ xi _ (HW1.out.keep ((Keep.refl (fun _ => False) wr).drew) (fun _ _ => id)) (HW2.out.keep ((Keep.refl (fun _ => False) wr).drew) (fun _ _ => id))).mono ?_; rintro e w5 ⟨rfl, hk5⟩; have HK5 := hdd hk5; have B90 : w5.cell? ⟨U, 6, none⟩ = some (.slice (some ⟨D1, o1, none⟩) n c1) := (hk5.cell (p := ⟨U, 6, none⟩) (lt_of_cell p6) id).trans p6; have B91 : w5.cell? ⟨U + 1, 6, none⟩ = some (.slice (some ⟨D2, o2, none⟩) n c2) := (hk5.cell (p := ⟨U + 1, 6, none⟩) (lt_of_cell q6) id).trans q6; have B0 : w5.cell? ⟨D1, o1 + i * 7, none⟩ = some v0 := (hk5.cell (p := ⟨D1, o1 + i * 7, none⟩) (lt_of_cell b0) id).trans b0; have B1 : w5.cell? ⟨D1, o1 + i * 7 + 1, none⟩ = some v1 := (hk5.cell (p := ⟨D1, o1 + i * 7 + 1, none⟩) (lt_of_cell b1) id).trans b1; have B2 : w5.cell? ⟨D1, o1 + i * 7 + 2, none⟩ = some v2 := (hk5.cell (p := ⟨D1, o1 + i * 7 + 2, none⟩) (lt_of_cell b2) id).trans b2; have B3 : w5.cell? ⟨D1, o1 + i * 7 + 3, none⟩ = some v3 := (hk5.cell (p := ⟨D1, o1 + i * 7 + 3, none⟩) (lt_of_cell b3) id).trans b3; have B4 : w5.cell? ⟨D1, o1 + i * 7 + 4, none⟩ = some v4 := (hk5.cell (p := ⟨D1, o1 + i * 7 + 4, none⟩) (lt_of_cell b4) id).trans b4; have B5 : w5.cell? ⟨D1, o1 + i * 7 + 5, none⟩ = some v5 := (hk5.cell (p := ⟨D1, o1 + i * 7 + 5, none⟩) (lt_of_cell b5) id).trans b5; have B6 : w5.cell? ⟨D1, o1 + i * 7 + 6, none⟩ = some v6 := (hk5.cell (p := ⟨D1, o1 + i * 7 + 6, none⟩) (lt_of_cell b6) id).trans b6; have C0 : w5.cell? ⟨D2, o2 + i * 7, none⟩ = some z0 := (hk5.cell (p := ⟨D2, o2 + i * 7, none⟩) (lt_of_cell d0) id).trans d0; have C1 : w5.cell? ⟨D2, o2 + i * 7 + 1, none⟩ = some z1 := (hk5.cell (p := ⟨D2, o2 + i * 7 + 1, none⟩) (lt_of_cell d1) id).trans d1; have C2 : w5.cell? ⟨D2, o2 + i * 7 + 2, none⟩ = some z2 := (hk5.cell (p := ⟨D2, o2 + i * 7 + 2, none⟩) (lt_of_cell d2) id).trans d2; have C3 : w5.cell? ⟨D2, o2 + i * 7 + 3, none⟩ = some z3 := (hk5.cell (p := ⟨D2, o2 + i * 7 + 3, none⟩) (lt_of_cell d3) id).trans d3; have C4 : w5.cell? ⟨D2, o2 + i * 7 + 4, none⟩ = some z4 := (hk5.cell (p := ⟨D2, o2 + i * 7 + 4, none⟩) (lt_of_cell d4) id).trans d4; have C5 : w5.cell? ⟨D2, o2 + i * 7 + 5, none⟩ = some z5 := (hk5.cell (p := ⟨D2, o2 + i * 7 + 5, none⟩) (lt_of_cell d5) id).trans d5; have C6 : w5.cell? ⟨D2, o2 + i * 7 + 6, none⟩ = some z6 := (hk5.cell (p := ⟨D2, o2 + i * 7 + 6, none⟩) (lt_of_cell d6) id).trans d6))
    all_goals
     go_wp2_with fail
     go_roundg k
     case measure => exact Nat.lt_succ_self _
     case rel => exact ⟨i + 1, by go_num, by omega, HKR.out.then (((Keep.refl (fun _ => False) wr).drew).then HK5.out)⟩
   ·have hge : ¬ (i : Int) < (n : Int) := by omega
    go_wp2_with fail
    go_ret
    exact ⟨rfl, HK3.out.then HKR.out⟩
end Go.Proofs.YthehmlbolajljaaGreatDoor
