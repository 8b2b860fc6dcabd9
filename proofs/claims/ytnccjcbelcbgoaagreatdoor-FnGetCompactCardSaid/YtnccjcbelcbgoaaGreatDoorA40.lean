/- Part 40 of the proof: GetZCmp, Rg6. -/
import Derived.Test.YtnccjcbelcbgoaaGreatDoorA36
import Derived.Test.YtnccjcbelcbgoaaGreatDoorA35
import Derived.Test.YtnccjcbelcbgoaaGreatDoorA37
import Derived.Test.YtnccjcbelcbgoaaGreatDoorA38
import Derived.Test.YtnccjcbelcbgoaaGreatDoorA39
set_option linter.unusedVariables false
set_option linter.unusedSimpArgs false
set_option linter.unusedSectionVars false
/- The thin package: get for every depth. -/
namespace Go.Proofs.YtnccjcbelcbgoaaGreatDoor
open Go Go.RowKit

set_option maxRecDepth 100000 in
set_option maxHeartbeats 4000000 in
theorem Cmp.get_zero (K : Cmp.Ctx) : Cmp.Gets K 0 := by
  intro deep t s w hd hlo hhi h0 h1 h _
  have hle : deep ≤ 0 := by omega
  have htw : IntKind.i64.wrap t = t := IntWalk.i64_in _ (by omega)
  have hk0 : Keep (fun _ => False) w ((w.alloc (.cells (valC t 0 nilB 0 0 (.slice none 0 0) (.slice none 0 0)) 38 (0, 0))).alloc (.cells (valC t 0 nilB 0 0 (.slice none 0 0) (.slice none 0 0)) 38 (0, 0))) := ((Keep.refl _ w).alloc _).alloc _
  have hR0 : ((w.alloc (.cells (valC t 0 nilB 0 0 (.slice none 0 0) (.slice none 0 0)) 38 (0, 0))).alloc (.cells (valC t 0 nilB 0 0 (.slice none 0 0) (.slice none 0 0)) 38 (0, 0))).heap[w.heap.size]? = some (.cells (valC t 0 nilB 0 0 (.slice none 0 0) (.slice none 0 0)) 38 (0, 0)) := (Below.heap_alloc _ _ _ (by simp)).trans (heap_alloc_new w _)
  go_enter Tryz.func31, Tryz.ntmps31
  go_wp2_with fail
  generalize (w.alloc (.cells (valC t 0 nilB 0 0 (.slice none 0 0) (.slice none 0 0)) 38 (0, 0))).alloc (.cells (valC t 0 nilB 0 0 (.slice none 0 0) (.slice none 0 0)) 38 (0, 0)) = w1 at *
  refine ret_cell2 (U := w.heap.size) (T := 38) Tryz.results31 rfl rfl rfl hR0 Tryz.underlying38 ival_size ?_
  have hp : Cmp.Post K w1 w1 50 (.iface 112 (.int .i64 50)) s := ⟨.inr (.inr (.inr (.inr ⟨by decide, by decide, rfl⟩))), fun e => absurd e (by decide), (h.fresh hk0).some, Kpt.refl _ _⟩
  exact ⟨t, 0, none, 0, 0, 0, 0, none, 0, 0, none, 0, 0, _, rfl, Cmp.through h hk0 hp (Keep.refl (fun _ => False) w1) (fun i hi => hi.elim), fun hz => absurd hz (by show ¬ (50 : Int) = 0; decide)⟩

set_option maxRecDepth 100000 in
set_option maxHeartbeats 4000000 in
theorem Cmp.get12 (K : Cmp.Ctx) (d : Nat) (ih : Cmp.Gets K d) (deep : Int) (s : Cmp.St) (w : World) (hdd : deep.toNat = d + 1) (hd : 0 < deep) (hhi : deep ≤ 9223372036854775807) (h : Cmp.Inv K s w) (hroom : (Cmp.pr K).Room s) :
    Calls Tryz.prog 31 #[Cmp.V K, .int .u8 12, .int .i64 deep] w (Cmp.GetP K (d + 1) w (gflds (Cmp.pr K) (gt (Cmp.pr K) d) ((Cmp.pr K).len ((Cmp.pr K).sbS s) + 1) ((Cmp.pr K).sbS s) [] [])) := by
  go_enter Tryz.func31, Tryz.ntmps31
  go_wp2_with fail
  obtain ⟨hk0, hR, hV, hG, hs⟩ := getW_facts w 12
  obtain ⟨n0, hn⟩ : ∃ n0, w.heap.size = n0 := ⟨_, rfl⟩
  rw [hn] at hR hV hG hs ⊢
  unfold getW at hk0 hR hV hG hs
  generalize ((w.alloc (.cells zVal 38 (0, 0))).alloc (.cells (valC 12 0 nilB 0 0 (.slice none 0 0) (.slice none 0 0)) 38 (0, 0))).alloc (.cells zGot 148 (0, 0)) = w1 at *
  have HN := Lib.hid hn
  have HR := Lib.hid hR
  have HS := Lib.hid hs
  have HM := Lib.hid (Cmp.M_new h hk0)
  obtain ⟨x0, x1, x2, x3, x4, x5, x6⟩ := got_cells hV
  clear hn hR hV hG hs
  refine (Cmp.getStruct K d ih deep s w1 hdd hd hhi (h.fresh hk0) hroom).mono ?_
  rintro e w3 ⟨T', N', Sa, Sm, Sc, KT', E', Ia, Im, Ic, La, Lm, Lc, ev, rfl, hp, hval⟩
  have hR3 := (hp.keep.block n0 (lt_of_heap HR.out) (fun x => by have := HM.out n0 x; have := HN.out; omega)).trans HR.out
  have HP := Lib.hid hp
  have HVAL := Lib.hid hval
  have HR3 := Lib.hid hR3
  clear x0 x1 x2 x3 x4 x5 x6
  obtain ⟨r0, r1, r2, r3, r4, r5, r6⟩ := got_cells hR3
  obtain ⟨z0, z1, z2, z3, z4, z5, z6⟩ := got_free hR3
  clear hp hval hR3
  go_wp2_with fail
  have hn0 := HN.out
  have hs1 := HS.out
  have hk9 := val_keep (M := fun i => n0 ≤ i ∧ i < n0 + 3) (Keep.refl _ w3) (R := n0) (fun _ => by omega) (.int .i64 T') (.int .i64 N') (.slice Sa Sm Sc) (.int .i64 KT') (.int .i64 E') (.slice Ia Im Ic) (.slice La Lm Lc)
  refine ret_cell2 (U := n0) (T := 38) Tryz.results31 rfl rfl rfl (val_set HR3.out (.int .i64 T') (.int .i64 N') (.slice Sa Sm Sc) (.int .i64 KT') (.int .i64 E') (.slice Ia Im Ic) (.slice La Lm Lc)) Tryz.underlying38 ival_size ?_
  refine ⟨T', N', Sa, Sm, Sc, KT', E', Ia, Im, Ic, La, Lm, Lc, ev, rfl, Cmp.through h hk0 HP.out hk9 (fun i hi => by omega), fun hz => ?_⟩
  exact ((HVAL.out hz).keep hk9 (fun i hi e => by have := hi.1; omega)).weak (fun i _ hi => ⟨by have := hi.1; omega, fun x => hi.2 (Cmp.through_M h hk0 HP.out hk9 (fun i hi => by omega) i x)⟩)

set_option maxRecDepth 100000 in
set_option maxHeartbeats 4000000 in
theorem Cmp.get13 (K : Cmp.Ctx) (d : Nat) (ih : Cmp.Gets K d) (deep : Int) (s : Cmp.St) (w : World) (hdd : deep.toNat = d + 1) (hd : 0 < deep) (hhi : deep ≤ 9223372036854775807) (h : Cmp.Inv K s w) (hroom : (Cmp.pr K).Room s) :
    Calls Tryz.prog 31 #[Cmp.V K, .int .u8 13, .int .i64 deep] w (Cmp.GetP K (d + 1) w (gt (Cmp.pr K) (d + 1) 13 s)) := by
  go_enter Tryz.func31, Tryz.ntmps31
  go_wp2_with fail
  obtain ⟨hk0, hR, hV, hG, hs⟩ := getW_facts w 13
  obtain ⟨n0, hn⟩ : ∃ n0, w.heap.size = n0 := ⟨_, rfl⟩
  rw [hn] at hR hV hG hs ⊢
  unfold getW at hk0 hR hV hG hs
  generalize ((w.alloc (.cells zVal 38 (0, 0))).alloc (.cells (valC 13 0 nilB 0 0 (.slice none 0 0) (.slice none 0 0)) 38 (0, 0))).alloc (.cells zGot 148 (0, 0)) = w1 at *
  have HN := Lib.hid hn
  have HR := Lib.hid hR
  have HS := Lib.hid hs
  have HM := Lib.hid (Cmp.M_new h hk0)
  obtain ⟨x0, x1, x2, x3, x4, x5, x6⟩ := got_cells hV
  clear hn hR hV hG hs
  refine (Cmp.getMap K d ih deep s w1 hdd hd hhi (h.fresh hk0) hroom).mono ?_
  rintro e w3 ⟨T', N', Sa, Sm, Sc, KT', E', Ia, Im, Ic, La, Lm, Lc, ev, rfl, hp, hval⟩
  have hR3 := (hp.keep.block n0 (lt_of_heap HR.out) (fun x => by have := HM.out n0 x; have := HN.out; omega)).trans HR.out
  have HP := Lib.hid hp
  have HVAL := Lib.hid hval
  have HR3 := Lib.hid hR3
  clear x0 x1 x2 x3 x4 x5 x6
  obtain ⟨r0, r1, r2, r3, r4, r5, r6⟩ := got_cells hR3
  obtain ⟨z0, z1, z2, z3, z4, z5, z6⟩ := got_free hR3
  clear hp hval hR3
  go_wp2_with fail
  have hn0 := HN.out
  have hs1 := HS.out
  have hk9 := val_keep (M := fun i => n0 ≤ i ∧ i < n0 + 3) (Keep.refl _ w3) (R := n0) (fun _ => by omega) (.int .i64 T') (.int .i64 N') (.slice Sa Sm Sc) (.int .i64 KT') (.int .i64 E') (.slice Ia Im Ic) (.slice La Lm Lc)
  refine ret_cell2 (U := n0) (T := 38) Tryz.results31 rfl rfl rfl (val_set HR3.out (.int .i64 T') (.int .i64 N') (.slice Sa Sm Sc) (.int .i64 KT') (.int .i64 E') (.slice Ia Im Ic) (.slice La Lm Lc)) Tryz.underlying38 ival_size ?_
  refine ⟨T', N', Sa, Sm, Sc, KT', E', Ia, Im, Ic, La, Lm, Lc, ev, rfl, Cmp.through h hk0 HP.out hk9 (fun i hi => by omega), fun hz => ?_⟩
  exact ((HVAL.out hz).keep hk9 (fun i hi e => by have := hi.1; omega)).weak (fun i _ hi => ⟨by have := hi.1; omega, fun x => hi.2 (Cmp.through_M h hk0 HP.out hk9 (fun i hi => by omega) i x)⟩)

set_option maxRecDepth 100000 in
set_option maxHeartbeats 4000000 in
theorem Cmp.get14 (K : Cmp.Ctx) (d : Nat) (ih : Cmp.Gets K d) (deep : Int) (s : Cmp.St) (w : World) (hdd : deep.toNat = d + 1) (hd : 0 < deep) (hhi : deep ≤ 9223372036854775807) (h : Cmp.Inv K s w) (hroom : (Cmp.pr K).Room s) :
    Calls Tryz.prog 31 #[Cmp.V K, .int .u8 14, .int .i64 deep] w (Cmp.GetP K (d + 1) w (gt (Cmp.pr K) (d + 1) 14 s)) := by
  go_enter Tryz.func31, Tryz.ntmps31
  go_wp2_with fail
  obtain ⟨hk0, hR, hV, hG, hs⟩ := getW_facts w 14
  obtain ⟨n0, hn⟩ : ∃ n0, w.heap.size = n0 := ⟨_, rfl⟩
  rw [hn] at hR hV hG hs ⊢
  unfold getW at hk0 hR hV hG hs
  generalize ((w.alloc (.cells zVal 38 (0, 0))).alloc (.cells (valC 14 0 nilB 0 0 (.slice none 0 0) (.slice none 0 0)) 38 (0, 0))).alloc (.cells zGot 148 (0, 0)) = w1 at *
  have HN := Lib.hid hn
  have HR := Lib.hid hR
  have HS := Lib.hid hs
  have HM := Lib.hid (Cmp.M_new h hk0)
  obtain ⟨x0, x1, x2, x3, x4, x5, x6⟩ := got_cells hV
  clear hn hR hV hG hs
  refine (Cmp.getList11 K d ih deep s w1 hdd hd hhi (h.fresh hk0) hroom).mono ?_
  rintro e w3 ⟨T', N', Sa, Sm, Sc, KT', E', Ia, Im, Ic, La, Lm, Lc, ev, rfl, hp, hval⟩
  have hR3 := (hp.keep.block n0 (lt_of_heap HR.out) (fun x => by have := HM.out n0 x; have := HN.out; omega)).trans HR.out
  have HP := Lib.hid hp
  have HVAL := Lib.hid hval
  have HR3 := Lib.hid hR3
  clear x0 x1 x2 x3 x4 x5 x6
  obtain ⟨r0, r1, r2, r3, r4, r5, r6⟩ := got_cells hR3
  obtain ⟨z0, z1, z2, z3, z4, z5, z6⟩ := got_free hR3
  clear hp hval hR3
  go_wp2_with fail
  have hn0 := HN.out
  have hs1 := HS.out
  have hk9 := val_keep (M := fun i => n0 ≤ i ∧ i < n0 + 3) (Keep.refl _ w3) (R := n0) (fun _ => by omega) (.int .i64 T') (.int .i64 N') (.slice Sa Sm Sc) (.int .i64 KT') (.int .i64 E') (.slice Ia Im Ic) (.slice La Lm Lc)
  refine ret_cell2 (U := n0) (T := 38) Tryz.results31 rfl rfl rfl (val_set HR3.out (.int .i64 T') (.int .i64 N') (.slice Sa Sm Sc) (.int .i64 KT') (.int .i64 E') (.slice Ia Im Ic) (.slice La Lm Lc)) Tryz.underlying38 ival_size ?_
  refine ⟨T', N', Sa, Sm, Sc, KT', E', Ia, Im, Ic, La, Lm, Lc, ev, rfl, Cmp.through h hk0 HP.out hk9 (fun i hi => by omega), fun hz => ?_⟩
  exact ((HVAL.out hz).keep hk9 (fun i hi e => by have := hi.1; omega)).weak (fun i _ hi => ⟨by have := hi.1; omega, fun x => hi.2 (Cmp.through_M h hk0 HP.out hk9 (fun i hi => by omega) i x)⟩)

set_option maxRecDepth 100000 in
set_option maxHeartbeats 4000000 in
theorem Cmp.get15 (K : Cmp.Ctx) (d : Nat) (ih : Cmp.Gets K d) (deep : Int) (s : Cmp.St) (w : World) (hdd : deep.toNat = d + 1) (hd : 0 < deep) (hhi : deep ≤ 9223372036854775807) (h : Cmp.Inv K s w) (hroom : (Cmp.pr K).Room s) :
    Calls Tryz.prog 31 #[Cmp.V K, .int .u8 15, .int .i64 deep] w (Cmp.GetP K (d + 1) w (gt (Cmp.pr K) (d + 1) 15 s)) := by
  go_enter Tryz.func31, Tryz.ntmps31
  go_wp2_with fail
  obtain ⟨hk0, hR, hV, hG, hs⟩ := getW_facts w 15
  obtain ⟨n0, hn⟩ : ∃ n0, w.heap.size = n0 := ⟨_, rfl⟩
  rw [hn] at hR hV hG hs ⊢
  unfold getW at hk0 hR hV hG hs
  generalize ((w.alloc (.cells zVal 38 (0, 0))).alloc (.cells (valC 15 0 nilB 0 0 (.slice none 0 0) (.slice none 0 0)) 38 (0, 0))).alloc (.cells zGot 148 (0, 0)) = w1 at *
  have HN := Lib.hid hn
  have HR := Lib.hid hR
  have HS := Lib.hid hs
  have HM := Lib.hid (Cmp.M_new h hk0)
  obtain ⟨x0, x1, x2, x3, x4, x5, x6⟩ := got_cells hV
  clear hn hR hV hG hs
  refine (Cmp.getList9 K d ih deep s w1 hdd hd hhi (h.fresh hk0) hroom).mono ?_
  rintro e w3 ⟨T', N', Sa, Sm, Sc, KT', E', Ia, Im, Ic, La, Lm, Lc, ev, rfl, hp, hval⟩
  have hR3 := (hp.keep.block n0 (lt_of_heap HR.out) (fun x => by have := HM.out n0 x; have := HN.out; omega)).trans HR.out
  have HP := Lib.hid hp
  have HVAL := Lib.hid hval
  have HR3 := Lib.hid hR3
  clear x0 x1 x2 x3 x4 x5 x6
  obtain ⟨r0, r1, r2, r3, r4, r5, r6⟩ := got_cells hR3
  obtain ⟨z0, z1, z2, z3, z4, z5, z6⟩ := got_free hR3
  clear hp hval hR3
  go_wp2_with fail
  have hn0 := HN.out
  have hs1 := HS.out
  have hk9 := val_keep (M := fun i => n0 ≤ i ∧ i < n0 + 3) (Keep.refl _ w3) (R := n0) (fun _ => by omega) (.int .i64 T') (.int .i64 N') (.slice Sa Sm Sc) (.int .i64 KT') (.int .i64 E') (.slice Ia Im Ic) (.slice La Lm Lc)
  refine ret_cell2 (U := n0) (T := 38) Tryz.results31 rfl rfl rfl (val_set HR3.out (.int .i64 T') (.int .i64 N') (.slice Sa Sm Sc) (.int .i64 KT') (.int .i64 E') (.slice Ia Im Ic) (.slice La Lm Lc)) Tryz.underlying38 ival_size ?_
  refine ⟨T', N', Sa, Sm, Sc, KT', E', Ia, Im, Ic, La, Lm, Lc, ev, rfl, Cmp.through h hk0 HP.out hk9 (fun i hi => by omega), fun hz => ?_⟩
  exact ((HVAL.out hz).keep hk9 (fun i hi e => by have := hi.1; omega)).weak (fun i _ hi => ⟨by have := hi.1; omega, fun x => hi.2 (Cmp.through_M h hk0 HP.out hk9 (fun i hi => by omega) i x)⟩)

set_option maxRecDepth 100000 in
set_option maxHeartbeats 4000000 in
theorem Cmp.get_other (K : Cmp.Ctx) (d : Nat) (deep t : Int) (s : Cmp.St) (w : World) (hd : 0 < deep) (h0 : 0 ≤ t) (h1 : t ≤ 255) (h : Cmp.Inv K s w) (hsc : isSc t = false) (h12 : ¬ t = 12) (h13 : ¬ t = 13) (h14 : ¬ t = 14) (h15 : ¬ t = 15) :
    Calls Tryz.prog 31 #[Cmp.V K, .int .u8 t, .int .i64 deep] w (Cmp.GetP K (d + 1) w (51, s, V.zero)) := by
  have hle : ¬ deep ≤ 0 := by omega
  have htw : IntKind.i64.wrap t = t := IntWalk.i64_in _ (by omega)
  obtain ⟨g2, g3, g6, g8, g10, g4, g11, g16⟩ : ¬ t = 2 ∧ ¬ t = 3 ∧ ¬ t = 6 ∧ ¬ t = 8 ∧ ¬ t = 10 ∧ ¬ t = 4 ∧ ¬ t = 11 ∧ ¬ t = 16 := by
    simp [isSc] at hsc; omega
  go_enter Tryz.func31, Tryz.ntmps31
  go_wp2_with fail
  obtain ⟨hk0, hR, hV, hG, hs⟩ := getW_facts w t
  obtain ⟨n0, hn⟩ : ∃ n0, w.heap.size = n0 := ⟨_, rfl⟩
  rw [hn] at hR hV hG hs ⊢
  unfold getW at hk0 hR hV hG hs
  generalize ((w.alloc (.cells zVal 38 (0, 0))).alloc (.cells (valC t 0 nilB 0 0 (.slice none 0 0) (.slice none 0 0)) 38 (0, 0))).alloc (.cells zGot 148 (0, 0)) = w1 at *
  have HN := Lib.hid hn
  have HR := Lib.hid hR
  have HS := Lib.hid hs
  have HM := Lib.hid (Cmp.M_new h hk0)
  obtain ⟨u0, u1, u2, u3, u4, u5, u6⟩ := got_cells hG
  obtain ⟨x0, x1, x2, x3, x4, x5, x6⟩ := got_cells hV
  obtain ⟨y0, y1, y2, y3, y4, y5, y6⟩ := got_free hV
  obtain ⟨r0, r1, r2, r3, r4, r5, r6⟩ := got_cells hR
  obtain ⟨z0, z1, z2, z3, z4, z5, z6⟩ := got_free hR
  have HV := Lib.hid hV
  clear hn hR hV hG hs
  go_region
  all_goals
    go_wp2_with fail
    have hn0 := HN.out
    have hs1 := HS.out
    have hR4 : ((w1.setCell ⟨n0 + 1, 1, none⟩ (.int .i64 0)).setCell ⟨n0 + 1, 2, none⟩ (.slice none 0 0)).heap[n0]? = some (.cells zVal 38 (0, 0)) := (heap_set_other (p := ⟨n0 + 1, 2, none⟩) _ (by simp)).trans ((heap_set_other (p := ⟨n0 + 1, 1, none⟩) _ (by simp)).trans HR.out)
    have hkN : Keep (fun i => n0 ≤ i ∧ i < n0 + 3) w1 w1 := Keep.refl _ _
    have hkW := (((((((((hkN.set (n0 + 1) 1 (fun _ => by omega) (.int .i64 0)).set (n0 + 1) 2 (fun _ => by omega) (.slice none 0 0)).set n0 0 (fun _ => by omega) (.int .i64 t)).set n0 1 (fun _ => by omega) (.int .i64 0)).set n0 2 (fun _ => by omega) (.slice none 0 0)).set n0 3 (fun _ => by omega) (.int .i64 0)).set n0 4 (fun _ => by omega) (.int .i64 0)).set n0 5 (fun _ => by omega) (.slice none 0 0)).set n0 6 (fun _ => by omega) (.slice none 0 0)).drew
    have hR5 := val_set hR4 (.int .i64 t) (.int .i64 0) (.slice none 0 0) (.int .i64 0) (.int .i64 0) (.slice none 0 0) (.slice none 0 0)
    generalize ((((((((w1.setCell ⟨n0 + 1, 1, none⟩ (.int .i64 0)).setCell ⟨n0 + 1, 2, none⟩ (.slice none 0 0)).setCell ⟨n0, 0, none⟩ (.int .i64 t)).setCell ⟨n0, 1, none⟩ (.int .i64 0)).setCell ⟨n0, 2, none⟩ (.slice none 0 0)).setCell ⟨n0, 3, none⟩ (.int .i64 0)).setCell ⟨n0, 4, none⟩ (.int .i64 0)).setCell ⟨n0, 5, none⟩ (.slice none 0 0)).setCell ⟨n0, 6, none⟩ (.slice none 0 0) = w4 at *
    have hR6 : w4.drew.heap[n0]? = some (.cells #[.int .i64 t, .int .i64 0, .slice none 0 0, .int .i64 0, .int .i64 0, .slice none 0 0, .slice none 0 0] 38 (0, 0)) := hR5
    refine ret_cell2 (U := n0) (T := 38) Tryz.results31 rfl rfl rfl hR6 Tryz.underlying38 ival_size ?_
    have hp : Cmp.Post K w1 w1 51 (.iface 112 (.int .i64 51)) s := ⟨.inr (.inr (.inr (.inr ⟨by decide, by decide, rfl⟩))), fun e => absurd e (by decide), (h.fresh hk0).some, Kpt.refl _ _⟩
    exact ⟨t, 0, none, 0, 0, 0, 0, none, 0, 0, none, 0, 0, _, rfl, Cmp.through h hk0 hp hkW (fun i hi => by omega), fun hz => absurd hz (by show ¬ (51 : Int) = 0; decide)⟩

theorem Cmp.GetP.leaf {K : Cmp.Ctx} {d : Nat} {w w' : World} {e : Ending} {k : Int} {s : Cmp.St} {T N KT E : Int} {S : List UInt8} {IDs : List Int} (h : Cmp.GetP K 1 w (k, s, .mk T N S KT E IDs []) e w') : Cmp.GetP K (d + 1) w (k, s, .mk T N S KT E IDs []) e w' := by
  obtain ⟨T1, N1, a1, a2, a3, a4, a5, b1, b2, b3, c1, c2, c3, ev, h1, h2, h3⟩ := h
  refine ⟨T1, N1, a1, a2, a3, a4, a5, b1, b2, b3, c1, c2, c3, ev, h1, h2, fun hz => ?_⟩
  obtain ⟨sv, iv, lv, q1, q2, q3, q4⟩ := h3 hz
  exact ⟨sv, iv, lv, q1, q2, q3, .inl (q4.elim (fun x => x) (fun x => absurd rfl x.1))⟩

theorem Cmp.gets (K : Cmp.Ctx) (d : Nat) : Cmp.Gets K d := by
  induction d with
  | zero => exact Cmp.get_zero K
  | succ d ih =>
    intro deep t s w hd hlo hhi h0 h1 h hroom
    have hd0 : 0 < deep := by omega
    by_cases hsc : isSc t = true
    · have e : gt (Cmp.pr K) (d + 1) t s = ((Cmp.pr K).scK t s, (Cmp.pr K).scS t s, .mk t ((Cmp.pr K).scN t s) ((Cmp.pr K).scB t s) 0 0 [] []) := by simp only [gt]; rw [if_pos hsc]
      rw [e]
      have ht : t = 2 ∨ t = 3 ∨ t = 6 ∨ t = 8 ∨ t = 10 ∨ t = 4 ∨ t = 11 ∨ t = 16 := by simpa [isSc, or_assoc] using hsc
      rcases ht with rfl | rfl | rfl | rfl | rfl | rfl | rfl | rfl
      · exact (Cmp.gets2 K deep hd0 s w h).mono (fun e w' q => q.leaf)
      · exact (Cmp.gets3 K deep hd0 s w h).mono (fun e w' q => q.leaf)
      · exact (Cmp.gets6 K deep hd0 s w h).mono (fun e w' q => q.leaf)
      · exact (Cmp.gets8 K deep hd0 s w h).mono (fun e w' q => q.leaf)
      · exact (Cmp.gets10 K deep hd0 s w h).mono (fun e w' q => q.leaf)
      · exact (Cmp.gets4 K deep hd0 s w h).mono (fun e w' q => q.leaf)
      · exact (Cmp.gets11 K deep hd0 s w h).mono (fun e w' q => q.leaf)
      · exact (Cmp.gets16 K deep hd0 s w h).mono (fun e w' q => q.leaf)
    · by_cases h12 : t = 12
      · subst h12
        have e : gt (Cmp.pr K) (d + 1) 12 s = gflds (Cmp.pr K) (gt (Cmp.pr K) d) ((Cmp.pr K).len ((Cmp.pr K).sbS s) + 1) ((Cmp.pr K).sbS s) [] [] := by simp [gt, isSc]
        rw [e]
        exact Cmp.get12 K d ih deep s w hd hd0 hhi h hroom
      · by_cases h13 : t = 13
        · subst h13; exact Cmp.get13 K d ih deep s w hd hd0 hhi h hroom
        · by_cases h14 : t = 14
          · subst h14; exact Cmp.get14 K d ih deep s w hd hd0 hhi h hroom
          · by_cases h15 : t = 15
            · subst h15; exact Cmp.get15 K d ih deep s w hd hd0 hhi h hroom
            · have e : gt (Cmp.pr K) (d + 1) t s = (51, s, V.zero) := by
                simp only [gt]; rw [if_neg hsc, if_neg h12, if_neg h13, if_neg (by omega)]
              rw [e]
              exact Cmp.get_other K d deep t s w hd0 h0 h1 h (by simpa using hsc) h12 h13 h14 h15

end Go.Proofs.YtnccjcbelcbgoaaGreatDoor

/- The reference: get for every depth. -/
namespace Go.Proofs.YtnccjcbelcbgoaaGreatDoor
open Go Go.RowKit

section
variable {σ : Type} {r : Rdr σ} {s : σ} {w : World}

set_option maxRecDepth 100000 in
set_option maxHeartbeats 4000000 in
theorem Rdr.get12 (ok : r.Ok) (d : Nat) (ih : r.Gets d) (deep : Int) (hdd : deep.toNat = d + 1) (hd : 0 < deep) (hhi : deep ≤ 9223372036854775807) (hR : r.Inv s w) (hroom : r.pr.Room s) :
    Calls Tryz.prog 26 #[.pointer (some ⟨r.R, 0, none⟩), .int .i64 12, .int .i64 deep] w (r.GetP (d + 1) w (gflds r.pr (gt r.pr d) (r.pr.len (r.pr.sbS s) + 1) (r.pr.sbS s) [] [])) := by
  have hk0 : Keep (fun _ => False) w ((w.alloc (.cells sVal 43 (0, 0))).alloc (.cells (valC 12 0 nilB 0 0 (.slice none 0 0) (.slice none 0 0)) 43 (0, 0))) := ((Keep.refl _ w).alloc _).alloc _
  have hR0 : ((w.alloc (.cells sVal 43 (0, 0))).alloc (.cells (valC 12 0 nilB 0 0 (.slice none 0 0) (.slice none 0 0)) 43 (0, 0))).heap[w.heap.size]? = some (.cells sVal 43 (0, 0)) := (Below.heap_alloc _ _ _ (by simp)).trans (heap_alloc_new w _)
  have hU0 : ((w.alloc (.cells sVal 43 (0, 0))).alloc (.cells (valC 12 0 nilB 0 0 (.slice none 0 0) (.slice none 0 0)) 43 (0, 0))).heap[w.heap.size + 1]? = some (.cells (valC 12 0 nilB 0 0 (.slice none 0 0) (.slice none 0 0)) 43 (0, 0)) := heap_alloc_at (by simp) _
  have hs0 : ((w.alloc (.cells sVal 43 (0, 0))).alloc (.cells (valC 12 0 nilB 0 0 (.slice none 0 0) (.slice none 0 0)) 43 (0, 0))).heap.size = w.heap.size + 2 := by simp
  go_enter Tryz.func26, Tryz.ntmps26
  go_wp2_with fail
  refine (spec_op 12 _).mono ?_
  rintro e w1 ⟨rfl, hw1⟩
  rw [show opOf 12 = -1 by decide]
  rw [hw1] at hk0 hR0 hU0 hs0
  clear hw1
  obtain ⟨n0, hn⟩ : ∃ n0, w.heap.size = n0 := ⟨_, rfl⟩
  rw [hn] at hR0 hU0 hs0
  have HN := Lib.hid hn
  have HR0 := Lib.hid hR0
  have HS0 := Lib.hid hs0
  clear hR0 hU0 hs0
  go_wp2_with fail
  clear hn
  refine (Rdr.get_struct ok d ih deep hdd hd hhi (ok.fresh hR hk0) hroom).mono ?_
  rintro e w3 ⟨T', N', Sa, Sm, Sc, KT', E', Ia, Im, Ic, La, Lm, Lc, x, rfl, hx, ⟨s2, h2, hr2⟩, hk, hval⟩
  have hmn := ok.new hR hk0
  have hn0 := HN.out
  have hs1 := HS0.out
  have hR3 := (hk.block n0 (lt_of_heap HR0.out) (hmn _ (by omega))).trans HR0.out
  have hnR := hk.not (i := n0) (lt_of_heap HR0.out) (hmn _ (by omega))
  have HX := Lib.hid hx
  have HVAL := Lib.hid hval
  have HR3 := Lib.hid hR3
  have HNR := Lib.hid hnR
  have H2 := Lib.hid hr2
  have HK := Lib.hid hk
  obtain ⟨r0, r1, r2, r3, r4, r5, r6⟩ := got_cells hR3
  obtain ⟨z0, z1, z2, z3, z4, z5, z6⟩ := got_free hR3
  clear hmn hn0 hs1 hR3 hnR hx hval hr2 hk
  go_wp2_with fail
  have hk9 := sval_keep (M := fun i => n0 = i) (Keep.refl _ w3) (R := n0) (fun _ => rfl) (.int .i64 T') (.int .i64 N') (.slice Sa Sm Sc) (.int .i64 KT') (.int .i64 E') (.slice Ia Im Ic) (.slice La Lm Lc)
  refine ret_cell2 (U := n0) (T := 43) Tryz.results26 rfl rfl rfl (sval_set HR3.out (.int .i64 T') (.int .i64 N') (.slice Sa Sm Sc) (.int .i64 KT') (.int .i64 E') (.slice Ia Im Ic) (.slice La Lm Lc)) Tryz.underlying43 sval_size ?_
  have hn0 := HN.out
  have hs1 := HS0.out
  obtain ⟨j1, j2⟩ := ok.turn h2 hk9 (fun i e => by subst e; exact HNR.out)
  refine ⟨T', N', Sa, Sm, Sc, KT', E', Ia, Im, Ic, La, Lm, Lc, x, rfl, HX.out, ⟨s2, j1, H2.out⟩, Kpt.turned ((ok.kept hR hk0).then HK.out) hk9 (fun i e => by omega) j2, fun hz => ?_⟩
  exact ((HVAL.out hz).keep hk9 (fun i hi e => by have := hi.1; omega)).weak (fun i _ hi => ⟨by have := hi.1; omega, fun q => hi.2 (j2 i q)⟩)

set_option maxRecDepth 100000 in
set_option maxHeartbeats 4000000 in
theorem Rdr.get13 (ok : r.Ok) (d : Nat) (ih : r.Gets d) (deep : Int) (hdd : deep.toNat = d + 1) (hd : 0 < deep) (hhi : deep ≤ 9223372036854775807) (hR : r.Inv s w) (hroom : r.pr.Room s) :
    Calls Tryz.prog 26 #[.pointer (some ⟨r.R, 0, none⟩), .int .i64 13, .int .i64 deep] w (r.GetP (d + 1) w (gt r.pr (d + 1) 13 s)) := by
  have hk0 : Keep (fun _ => False) w ((w.alloc (.cells sVal 43 (0, 0))).alloc (.cells (valC 13 0 nilB 0 0 (.slice none 0 0) (.slice none 0 0)) 43 (0, 0))) := ((Keep.refl _ w).alloc _).alloc _
  have hR0 : ((w.alloc (.cells sVal 43 (0, 0))).alloc (.cells (valC 13 0 nilB 0 0 (.slice none 0 0) (.slice none 0 0)) 43 (0, 0))).heap[w.heap.size]? = some (.cells sVal 43 (0, 0)) := (Below.heap_alloc _ _ _ (by simp)).trans (heap_alloc_new w _)
  have hU0 : ((w.alloc (.cells sVal 43 (0, 0))).alloc (.cells (valC 13 0 nilB 0 0 (.slice none 0 0) (.slice none 0 0)) 43 (0, 0))).heap[w.heap.size + 1]? = some (.cells (valC 13 0 nilB 0 0 (.slice none 0 0) (.slice none 0 0)) 43 (0, 0)) := heap_alloc_at (by simp) _
  have hs0 : ((w.alloc (.cells sVal 43 (0, 0))).alloc (.cells (valC 13 0 nilB 0 0 (.slice none 0 0) (.slice none 0 0)) 43 (0, 0))).heap.size = w.heap.size + 2 := by simp
  go_enter Tryz.func26, Tryz.ntmps26
  go_wp2_with fail
  refine (spec_op 13 _).mono ?_
  rintro e w1 ⟨rfl, hw1⟩
  rw [show opOf 13 = -1 by decide]
  rw [hw1] at hk0 hR0 hU0 hs0
  clear hw1
  obtain ⟨n0, hn⟩ : ∃ n0, w.heap.size = n0 := ⟨_, rfl⟩
  rw [hn] at hR0 hU0 hs0
  have HN := Lib.hid hn
  have HR0 := Lib.hid hR0
  have HS0 := Lib.hid hs0
  clear hR0 hU0 hs0
  go_wp2_with fail
  clear hn
  refine (Rdr.get_map ok d ih deep hdd hd hhi (ok.fresh hR hk0) hroom).mono ?_
  rintro e w3 ⟨T', N', Sa, Sm, Sc, KT', E', Ia, Im, Ic, La, Lm, Lc, x, rfl, hx, ⟨s2, h2, hr2⟩, hk, hval⟩
  have hmn := ok.new hR hk0
  have hn0 := HN.out
  have hs1 := HS0.out
  have hR3 := (hk.block n0 (lt_of_heap HR0.out) (hmn _ (by omega))).trans HR0.out
  have hnR := hk.not (i := n0) (lt_of_heap HR0.out) (hmn _ (by omega))
  have HX := Lib.hid hx
  have HVAL := Lib.hid hval
  have HR3 := Lib.hid hR3
  have HNR := Lib.hid hnR
  have H2 := Lib.hid hr2
  have HK := Lib.hid hk
  obtain ⟨r0, r1, r2, r3, r4, r5, r6⟩ := got_cells hR3
  obtain ⟨z0, z1, z2, z3, z4, z5, z6⟩ := got_free hR3
  clear hmn hn0 hs1 hR3 hnR hx hval hr2 hk
  go_wp2_with fail
  have hk9 := sval_keep (M := fun i => n0 = i) (Keep.refl _ w3) (R := n0) (fun _ => rfl) (.int .i64 T') (.int .i64 N') (.slice Sa Sm Sc) (.int .i64 KT') (.int .i64 E') (.slice Ia Im Ic) (.slice La Lm Lc)
  refine ret_cell2 (U := n0) (T := 43) Tryz.results26 rfl rfl rfl (sval_set HR3.out (.int .i64 T') (.int .i64 N') (.slice Sa Sm Sc) (.int .i64 KT') (.int .i64 E') (.slice Ia Im Ic) (.slice La Lm Lc)) Tryz.underlying43 sval_size ?_
  have hn0 := HN.out
  have hs1 := HS0.out
  obtain ⟨j1, j2⟩ := ok.turn h2 hk9 (fun i e => by subst e; exact HNR.out)
  refine ⟨T', N', Sa, Sm, Sc, KT', E', Ia, Im, Ic, La, Lm, Lc, x, rfl, HX.out, ⟨s2, j1, H2.out⟩, Kpt.turned ((ok.kept hR hk0).then HK.out) hk9 (fun i e => by omega) j2, fun hz => ?_⟩
  exact ((HVAL.out hz).keep hk9 (fun i hi e => by have := hi.1; omega)).weak (fun i _ hi => ⟨by have := hi.1; omega, fun q => hi.2 (j2 i q)⟩)

set_option maxRecDepth 100000 in
set_option maxHeartbeats 4000000 in
theorem Rdr.get14 (ok : r.Ok) (d : Nat) (ih : r.Gets d) (deep : Int) (hdd : deep.toNat = d + 1) (hd : 0 < deep) (hhi : deep ≤ 9223372036854775807) (hR : r.Inv s w) (hroom : r.pr.Room s) :
    Calls Tryz.prog 26 #[.pointer (some ⟨r.R, 0, none⟩), .int .i64 14, .int .i64 deep] w (r.GetP (d + 1) w (gt r.pr (d + 1) 14 s)) := by
  have hk0 : Keep (fun _ => False) w ((w.alloc (.cells sVal 43 (0, 0))).alloc (.cells (valC 14 0 nilB 0 0 (.slice none 0 0) (.slice none 0 0)) 43 (0, 0))) := ((Keep.refl _ w).alloc _).alloc _
  have hR0 : ((w.alloc (.cells sVal 43 (0, 0))).alloc (.cells (valC 14 0 nilB 0 0 (.slice none 0 0) (.slice none 0 0)) 43 (0, 0))).heap[w.heap.size]? = some (.cells sVal 43 (0, 0)) := (Below.heap_alloc _ _ _ (by simp)).trans (heap_alloc_new w _)
  have hU0 : ((w.alloc (.cells sVal 43 (0, 0))).alloc (.cells (valC 14 0 nilB 0 0 (.slice none 0 0) (.slice none 0 0)) 43 (0, 0))).heap[w.heap.size + 1]? = some (.cells (valC 14 0 nilB 0 0 (.slice none 0 0) (.slice none 0 0)) 43 (0, 0)) := heap_alloc_at (by simp) _
  have hs0 : ((w.alloc (.cells sVal 43 (0, 0))).alloc (.cells (valC 14 0 nilB 0 0 (.slice none 0 0) (.slice none 0 0)) 43 (0, 0))).heap.size = w.heap.size + 2 := by simp
  go_enter Tryz.func26, Tryz.ntmps26
  go_wp2_with fail
  refine (spec_op 14 _).mono ?_
  rintro e w1 ⟨rfl, hw1⟩
  rw [show opOf 14 = -1 by decide]
  rw [hw1] at hk0 hR0 hU0 hs0
  clear hw1
  obtain ⟨n0, hn⟩ : ∃ n0, w.heap.size = n0 := ⟨_, rfl⟩
  rw [hn] at hR0 hU0 hs0
  have HN := Lib.hid hn
  have HR0 := Lib.hid hR0
  have HS0 := Lib.hid hs0
  clear hR0 hU0 hs0
  go_wp2_with fail
  clear hn
  refine (Rdr.get_set ok d ih deep hdd hd hhi (ok.fresh hR hk0) hroom).mono ?_
  rintro e w3 ⟨T', N', Sa, Sm, Sc, KT', E', Ia, Im, Ic, La, Lm, Lc, x, rfl, hx, ⟨s2, h2, hr2⟩, hk, hval⟩
  have hmn := ok.new hR hk0
  have hn0 := HN.out
  have hs1 := HS0.out
  have hR3 := (hk.block n0 (lt_of_heap HR0.out) (hmn _ (by omega))).trans HR0.out
  have hnR := hk.not (i := n0) (lt_of_heap HR0.out) (hmn _ (by omega))
  have HX := Lib.hid hx
  have HVAL := Lib.hid hval
  have HR3 := Lib.hid hR3
  have HNR := Lib.hid hnR
  have H2 := Lib.hid hr2
  have HK := Lib.hid hk
  obtain ⟨r0, r1, r2, r3, r4, r5, r6⟩ := got_cells hR3
  obtain ⟨z0, z1, z2, z3, z4, z5, z6⟩ := got_free hR3
  clear hmn hn0 hs1 hR3 hnR hx hval hr2 hk
  go_wp2_with fail
  have hk9 := sval_keep (M := fun i => n0 = i) (Keep.refl _ w3) (R := n0) (fun _ => rfl) (.int .i64 T') (.int .i64 N') (.slice Sa Sm Sc) (.int .i64 KT') (.int .i64 E') (.slice Ia Im Ic) (.slice La Lm Lc)
  refine ret_cell2 (U := n0) (T := 43) Tryz.results26 rfl rfl rfl (sval_set HR3.out (.int .i64 T') (.int .i64 N') (.slice Sa Sm Sc) (.int .i64 KT') (.int .i64 E') (.slice Ia Im Ic) (.slice La Lm Lc)) Tryz.underlying43 sval_size ?_
  have hn0 := HN.out
  have hs1 := HS0.out
  obtain ⟨j1, j2⟩ := ok.turn h2 hk9 (fun i e => by subst e; exact HNR.out)
  refine ⟨T', N', Sa, Sm, Sc, KT', E', Ia, Im, Ic, La, Lm, Lc, x, rfl, HX.out, ⟨s2, j1, H2.out⟩, Kpt.turned ((ok.kept hR hk0).then HK.out) hk9 (fun i e => by omega) j2, fun hz => ?_⟩
  exact ((HVAL.out hz).keep hk9 (fun i hi e => by have := hi.1; omega)).weak (fun i _ hi => ⟨by have := hi.1; omega, fun q => hi.2 (j2 i q)⟩)

set_option maxRecDepth 100000 in
set_option maxHeartbeats 4000000 in
theorem Rdr.get15 (ok : r.Ok) (d : Nat) (ih : r.Gets d) (deep : Int) (hdd : deep.toNat = d + 1) (hd : 0 < deep) (hhi : deep ≤ 9223372036854775807) (hR : r.Inv s w) (hroom : r.pr.Room s) :
    Calls Tryz.prog 26 #[.pointer (some ⟨r.R, 0, none⟩), .int .i64 15, .int .i64 deep] w (r.GetP (d + 1) w (gt r.pr (d + 1) 15 s)) := by
  have hk0 : Keep (fun _ => False) w ((w.alloc (.cells sVal 43 (0, 0))).alloc (.cells (valC 15 0 nilB 0 0 (.slice none 0 0) (.slice none 0 0)) 43 (0, 0))) := ((Keep.refl _ w).alloc _).alloc _
  have hR0 : ((w.alloc (.cells sVal 43 (0, 0))).alloc (.cells (valC 15 0 nilB 0 0 (.slice none 0 0) (.slice none 0 0)) 43 (0, 0))).heap[w.heap.size]? = some (.cells sVal 43 (0, 0)) := (Below.heap_alloc _ _ _ (by simp)).trans (heap_alloc_new w _)
  have hU0 : ((w.alloc (.cells sVal 43 (0, 0))).alloc (.cells (valC 15 0 nilB 0 0 (.slice none 0 0) (.slice none 0 0)) 43 (0, 0))).heap[w.heap.size + 1]? = some (.cells (valC 15 0 nilB 0 0 (.slice none 0 0) (.slice none 0 0)) 43 (0, 0)) := heap_alloc_at (by simp) _
  have hs0 : ((w.alloc (.cells sVal 43 (0, 0))).alloc (.cells (valC 15 0 nilB 0 0 (.slice none 0 0) (.slice none 0 0)) 43 (0, 0))).heap.size = w.heap.size + 2 := by simp
  go_enter Tryz.func26, Tryz.ntmps26
  go_wp2_with fail
  refine (spec_op 15 _).mono ?_
  rintro e w1 ⟨rfl, hw1⟩
  rw [show opOf 15 = -1 by decide]
  rw [hw1] at hk0 hR0 hU0 hs0
  clear hw1
  obtain ⟨n0, hn⟩ : ∃ n0, w.heap.size = n0 := ⟨_, rfl⟩
  rw [hn] at hR0 hU0 hs0
  have HN := Lib.hid hn
  have HR0 := Lib.hid hR0
  have HS0 := Lib.hid hs0
  clear hR0 hU0 hs0
  go_wp2_with fail
  clear hn
  refine (Rdr.get_list ok d ih deep hdd hd hhi (ok.fresh hR hk0) hroom).mono ?_
  rintro e w3 ⟨T', N', Sa, Sm, Sc, KT', E', Ia, Im, Ic, La, Lm, Lc, x, rfl, hx, ⟨s2, h2, hr2⟩, hk, hval⟩
  have hmn := ok.new hR hk0
  have hn0 := HN.out
  have hs1 := HS0.out
  have hR3 := (hk.block n0 (lt_of_heap HR0.out) (hmn _ (by omega))).trans HR0.out
  have hnR := hk.not (i := n0) (lt_of_heap HR0.out) (hmn _ (by omega))
  have HX := Lib.hid hx
  have HVAL := Lib.hid hval
  have HR3 := Lib.hid hR3
  have HNR := Lib.hid hnR
  have H2 := Lib.hid hr2
  have HK := Lib.hid hk
  obtain ⟨r0, r1, r2, r3, r4, r5, r6⟩ := got_cells hR3
  obtain ⟨z0, z1, z2, z3, z4, z5, z6⟩ := got_free hR3
  clear hmn hn0 hs1 hR3 hnR hx hval hr2 hk
  go_wp2_with fail
  have hk9 := sval_keep (M := fun i => n0 = i) (Keep.refl _ w3) (R := n0) (fun _ => rfl) (.int .i64 T') (.int .i64 N') (.slice Sa Sm Sc) (.int .i64 KT') (.int .i64 E') (.slice Ia Im Ic) (.slice La Lm Lc)
  refine ret_cell2 (U := n0) (T := 43) Tryz.results26 rfl rfl rfl (sval_set HR3.out (.int .i64 T') (.int .i64 N') (.slice Sa Sm Sc) (.int .i64 KT') (.int .i64 E') (.slice Ia Im Ic) (.slice La Lm Lc)) Tryz.underlying43 sval_size ?_
  have hn0 := HN.out
  have hs1 := HS0.out
  obtain ⟨j1, j2⟩ := ok.turn h2 hk9 (fun i e => by subst e; exact HNR.out)
  refine ⟨T', N', Sa, Sm, Sc, KT', E', Ia, Im, Ic, La, Lm, Lc, x, rfl, HX.out, ⟨s2, j1, H2.out⟩, Kpt.turned ((ok.kept hR hk0).then HK.out) hk9 (fun i e => by omega) j2, fun hz => ?_⟩
  exact ((HVAL.out hz).keep hk9 (fun i hi e => by have := hi.1; omega)).weak (fun i _ hi => ⟨by have := hi.1; omega, fun q => hi.2 (j2 i q)⟩)

set_option maxRecDepth 100000 in
set_option maxHeartbeats 4000000 in
theorem Rdr.get_other (ok : r.Ok) (d : Nat) (deep t : Int) (hd : 0 < deep) (hR : r.Inv s w) (hsc : isSc t = false) (h12 : ¬ t = 12) (h13 : ¬ t = 13) (h14 : ¬ t = 14) (h15 : ¬ t = 15) :
    Calls Tryz.prog 26 #[.pointer (some ⟨r.R, 0, none⟩), .int .i64 t, .int .i64 deep] w (r.GetP (d + 1) w (51, s, V.zero)) := by
  have ho : opOf t = -1 := by
    rcases opOf_sc t with h | h
    · rw [hsc] at h; exact absurd h.1 (by decide)
    · exact h.2
  have HO := Lib.hid ho
  have hk0 : Keep (fun _ => False) w ((w.alloc (.cells sVal 43 (0, 0))).alloc (.cells (valC t 0 nilB 0 0 (.slice none 0 0) (.slice none 0 0)) 43 (0, 0))) := ((Keep.refl _ w).alloc _).alloc _
  have hR0 : ((w.alloc (.cells sVal 43 (0, 0))).alloc (.cells (valC t 0 nilB 0 0 (.slice none 0 0) (.slice none 0 0)) 43 (0, 0))).heap[w.heap.size]? = some (.cells sVal 43 (0, 0)) := (Below.heap_alloc _ _ _ (by simp)).trans (heap_alloc_new w _)
  have hU0 : ((w.alloc (.cells sVal 43 (0, 0))).alloc (.cells (valC t 0 nilB 0 0 (.slice none 0 0) (.slice none 0 0)) 43 (0, 0))).heap[w.heap.size + 1]? = some (.cells (valC t 0 nilB 0 0 (.slice none 0 0) (.slice none 0 0)) 43 (0, 0)) := heap_alloc_at (by simp) _
  have hs0 : ((w.alloc (.cells sVal 43 (0, 0))).alloc (.cells (valC t 0 nilB 0 0 (.slice none 0 0) (.slice none 0 0)) 43 (0, 0))).heap.size = w.heap.size + 2 := by simp
  clear ho
  go_enter Tryz.func26, Tryz.ntmps26
  go_wp2_with fail
  refine (spec_op t _).mono ?_
  rintro e w1 ⟨rfl, hw1⟩
  rw [HO.out]
  rw [hw1] at hk0 hR0 hU0 hs0
  clear hw1
  obtain ⟨n0, hn⟩ : ∃ n0, w.heap.size = n0 := ⟨_, rfl⟩
  rw [hn] at hR0 hU0 hs0
  have HN := Lib.hid hn
  have HR0 := Lib.hid hR0
  have HS0 := Lib.hid hs0
  obtain ⟨x0, x1, x2, x3, x4, x5, x6⟩ := got_cells hU0
  obtain ⟨r0, r1, r2, r3, r4, r5, r6⟩ := got_cells hR0
  obtain ⟨z0, z1, z2, z3, z4, z5, z6⟩ := got_free hR0
  clear hR0 hU0 hs0
  go_wp2_with fail
  have hk9 := sval_keep (M := fun i => n0 = i) (Keep.refl _ w1) (R := n0) (fun _ => rfl) (.int .i64 t) (.int .i64 0) (.slice none 0 0) (.int .i64 0) (.int .i64 0) (.slice none 0 0) (.slice none 0 0)
  refine ret_cell2 (U := n0) (T := 43) Tryz.results26 rfl rfl rfl (sval_set HR0.out (.int .i64 t) (.int .i64 0) (.slice none 0 0) (.int .i64 0) (.int .i64 0) (.slice none 0 0) (.slice none 0 0)) Tryz.underlying43 sval_size ?_
  have hn0 := HN.out
  have hs1 := HS0.out
  have hmn := ok.new hR hk0
  obtain ⟨j1, j2⟩ := ok.turn (ok.fresh hR hk0) hk9 (fun i e => by subst e; exact hmn _ (by omega))
  exact ⟨t, 0, none, 0, 0, 0, 0, none, 0, 0, none, 0, 0, 51, rfl, .inr (.inr rfl), ⟨s, j1, fun hh => by cases hh⟩, Kpt.turned (ok.kept hR hk0) hk9 (fun i e => by omega) j2, fun hh => by cases hh⟩

theorem Rdr.GetP.leaf {d : Nat} {w w' : World} {e : Ending} {k : Int} {T N KT E : Int} {S : List UInt8} {IDs : List Int} (h : r.GetP 1 w (k, s, .mk T N S KT E IDs []) e w') : r.GetP (d + 1) w (k, s, .mk T N S KT E IDs []) e w' := by
  obtain ⟨T1, N1, a1, a2, a3, a4, a5, b1, b2, b3, c1, c2, c3, x, h1, h2, h3, h4, h5⟩ := h
  refine ⟨T1, N1, a1, a2, a3, a4, a5, b1, b2, b3, c1, c2, c3, x, h1, h2, h3, h4, fun hz => ?_⟩
  obtain ⟨sv, iv, lv, q1, q2, q3, q4⟩ := h5 hz
  exact ⟨sv, iv, lv, q1, q2, q3, .inl (q4.elim (fun x => x) (fun x => absurd rfl x.1))⟩
end

theorem Rdr.gets {σ : Type} {r : Rdr σ} (ok : r.Ok) (d : Nat) : r.Gets d := by
  induction d with
  | zero => exact Rdr.get_zero ok
  | succ d ih =>
    intro deep t s w hd hlo hhi hR hroom
    have hd0 : 0 < deep := by omega
    by_cases hsc : isSc t = true
    · have e : gt r.pr (d + 1) t s = (r.pr.scK t s, r.pr.scS t s, .mk t (r.pr.scN t s) (r.pr.scB t s) 0 0 [] []) := by simp only [gt]; rw [if_pos hsc]
      rw [e]
      exact (Rdr.get_scalar ok deep t hd0 hsc hR).mono (fun e w' q => q.leaf)
    · by_cases h12 : t = 12
      · subst h12
        have e : gt r.pr (d + 1) 12 s = gflds r.pr (gt r.pr d) (r.pr.len (r.pr.sbS s) + 1) (r.pr.sbS s) [] [] := by simp [gt, isSc]
        rw [e]
        exact Rdr.get12 ok d ih deep hd hd0 hhi hR hroom
      · by_cases h13 : t = 13
        · subst h13; exact Rdr.get13 ok d ih deep hd hd0 hhi hR hroom
        · by_cases h14 : t = 14
          · subst h14; exact Rdr.get14 ok d ih deep hd hd0 hhi hR hroom
          · by_cases h15 : t = 15
            · subst h15; exact Rdr.get15 ok d ih deep hd hd0 hhi hR hroom
            · have e : gt r.pr (d + 1) t s = (51, s, V.zero) := by
                simp only [gt]; rw [if_neg hsc, if_neg h12, if_neg h13, if_neg (by omega)]
              rw [e]
              exact Rdr.get_other ok d deep t hd0 hR (by simpa using hsc) h12 h13 h14 h15

end Go.Proofs.YtnccjcbelcbgoaaGreatDoor
