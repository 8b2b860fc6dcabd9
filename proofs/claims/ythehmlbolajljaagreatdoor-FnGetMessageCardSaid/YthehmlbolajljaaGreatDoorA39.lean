/- Part 39 of the proof: GetZR, Cmp9, Cmp10, Ci0, Ci1, Ci2. -/
import Derived.Test.YthehmlbolajljaaGreatDoorA37
import Derived.Test.YthehmlbolajljaaGreatDoorA24
import Derived.Test.YthehmlbolajljaaGreatDoorA31
import Derived.Test.YthehmlbolajljaaGreatDoorA32
import Derived.Test.YthehmlbolajljaaGreatDoorA35
import Derived.Test.YthehmlbolajljaaGreatDoorA10
import Derived.Deep.RegionWith
import Derived.Deep.Cut
import Derived.Deep.CutBlock
import Derived.Deep.RegionLaw
set_option linter.unusedVariables false
set_option linter.unusedSimpArgs false
set_option linter.unusedSectionVars false
namespace Go.Proofs.YthehmlbolajljaaGreatDoor
open Go Go.RowKit
set_option maxRecDepth 100000 in
set_option maxHeartbeats 4000000 in
theorem Rp.get_zero {St : Type} (K : Rp.Ctx St) : Rp.Gets K 0 := by
  intro deep t s w hd hlo hhi h0 h1 h _
  have hle : deep ≤ 0 := by omega
  have htw : IntKind.i64.wrap t = t := IntWalk.i64_in _ (by omega)
  have hk0 : Keep (fun _ => False) w ((w.alloc (.cells (valC t 0 nilB 0 0 (.slice none 0 0) (.slice none 0 0)) 29 (0, 0))).alloc (.cells (valC t 0 nilB 0 0 (.slice none 0 0) (.slice none 0 0)) 29 (0, 0))) := ((Keep.refl _ w).alloc _).alloc _
  have hR0 : ((w.alloc (.cells (valC t 0 nilB 0 0 (.slice none 0 0) (.slice none 0 0)) 29 (0, 0))).alloc (.cells (valC t 0 nilB 0 0 (.slice none 0 0) (.slice none 0 0)) 29 (0, 0))).heap[w.heap.size]? = some (.cells (valC t 0 nilB 0 0 (.slice none 0 0) (.slice none 0 0)) 29 (0, 0)) := (Below.heap_alloc _ _ _ (by simp)).trans (heap_alloc_new w _)
  go_enter Tryz.func29, Tryz.ntmps29
  go_wp2_with fail
  generalize (w.alloc (.cells (valC t 0 nilB 0 0 (.slice none 0 0) (.slice none 0 0)) 29 (0, 0))).alloc (.cells (valC t 0 nilB 0 0 (.slice none 0 0) (.slice none 0 0)) 29 (0, 0)) = w1 at *
  refine ret_cell2 (U := w.heap.size) (T := 29) Tryz.results29 rfl rfl rfl hR0 Tryz.underlying29 ival_size ?_
  have hp : Rp.Post K w1 w1 50 (.iface 138 (.int .i64 50)) s := ⟨.inr (.inr (.inr (.inr ⟨by decide, by decide, rfl⟩))), fun e => absurd e (by decide), K.isSome (h.fresh hk0), Kpt.refl _ _⟩
  exact ⟨t, 0, none, 0, 0, 0, 0, none, 0, 0, none, 0, 0, _, rfl, Rp.through h hk0 hp (Keep.refl (fun _ => False) w1) (fun i hi => hi.elim), fun hz => absurd hz (by show ¬ (50 : Int) = 0; decide)⟩
set_option maxRecDepth 100000 in
set_option maxHeartbeats 4000000 in
theorem Rp.get12 {St : Type} (K : Rp.Ctx St) (d : Nat) (ih : Rp.Gets K d) (deep : Int) (s : St) (w : World) (hdd : deep.toNat = d + 1) (hd : 0 < deep) (hhi : deep ≤ 9223372036854775807) (h : K.Inv s w) (hroom : K.pr.Room s) :
    Calls Tryz.prog 29 #[K.V, .int .u8 12, .int .i64 deep] w (Rp.GetP K (d + 1) w (gflds K.pr (gt K.pr d) (K.pr.len (K.pr.sbS s) + 1) (K.pr.sbS s) [] [])) := by
  go_enter Tryz.func29, Tryz.ntmps29
  go_wp2_with fail
  obtain ⟨hk0, hR, hV, hG, hs⟩ := getW_facts w 12
  obtain ⟨n0, hn⟩ : ∃ n0, w.heap.size = n0 := ⟨_, rfl⟩
  rw [hn] at hR hV hG hs ⊢
  unfold getW at hk0 hR hV hG hs
  generalize ((w.alloc (.cells zVal 29 (0, 0))).alloc (.cells (valC 12 0 nilB 0 0 (.slice none 0 0) (.slice none 0 0)) 29 (0, 0))).alloc (.cells zGot 139 (0, 0)) = w1 at *
  have HN := Lib.hid hn
  have HR := Lib.hid hR
  have HS := Lib.hid hs
  have HM := Lib.hid (Rp.M_new h hk0)
  obtain ⟨x0, x1, x2, x3, x4, x5, x6⟩ := got_cells hV
  clear hn hR hV hG hs
  refine (Rp.getStruct K d ih deep s w1 hdd hd hhi (h.fresh hk0) hroom).mono ?_
  rintro e w3 ⟨T', N', Sa, Sm, Sc, KT', E', Ia, Im, Ic, La, Lm, Lc, ev, rfl, hp, hval⟩
  have hR3 := (hp.keep.block n0 (lt_of_heap HR.out) (fun x => by have := HM.out n0 x; have := HN.out; omega)).trans HR.out
  have HP := Lib.hid hp
  have HVAL := Lib.hid hval
  have HR3 := Lib.hid hR3
  clear x0 x1 x2 x3 x4 x5 x6
  obtain ⟨r0, r1, r2, r3, r4, r5, r6⟩ := got_cells hR3
  obtain ⟨z0, z1, z2, z3, z4, z5, z6⟩ := got_free hR3
  clear hp hval hR3
  go_wp2_with fail
  have hn0 := HN.out
  have hs1 := HS.out
  have hk9 := val_keep (M := fun i => n0 ≤ i ∧ i < n0 + 3) (Keep.refl _ w3) (R := n0) (fun _ => by omega) (.int .i64 T') (.int .i64 N') (.slice Sa Sm Sc) (.int .i64 KT') (.int .i64 E') (.slice Ia Im Ic) (.slice La Lm Lc)
  refine ret_cell2 (U := n0) (T := 29) Tryz.results29 rfl rfl rfl (val_set HR3.out (.int .i64 T') (.int .i64 N') (.slice Sa Sm Sc) (.int .i64 KT') (.int .i64 E') (.slice Ia Im Ic) (.slice La Lm Lc)) Tryz.underlying29 ival_size ?_
  refine ⟨T', N', Sa, Sm, Sc, KT', E', Ia, Im, Ic, La, Lm, Lc, ev, rfl, Rp.through h hk0 HP.out hk9 (fun i hi => by omega), fun hz => ?_⟩
  exact ((HVAL.out hz).keep hk9 (fun i hi e => by have := hi.1; omega)).weak (fun i _ hi => ⟨by have := hi.1; omega, fun x => hi.2 (Rp.through_M h hk0 HP.out hk9 (fun i hi => by omega) i x)⟩)
set_option maxRecDepth 100000 in
set_option maxHeartbeats 4000000 in
theorem Rp.get13 {St : Type} (K : Rp.Ctx St) (d : Nat) (ih : Rp.Gets K d) (deep : Int) (s : St) (w : World) (hdd : deep.toNat = d + 1) (hd : 0 < deep) (hhi : deep ≤ 9223372036854775807) (h : K.Inv s w) (hroom : K.pr.Room s) :
    Calls Tryz.prog 29 #[K.V, .int .u8 13, .int .i64 deep] w (Rp.GetP K (d + 1) w (gt K.pr (d + 1) 13 s)) := by
  go_enter Tryz.func29, Tryz.ntmps29
  go_wp2_with fail
  obtain ⟨hk0, hR, hV, hG, hs⟩ := getW_facts w 13
  obtain ⟨n0, hn⟩ : ∃ n0, w.heap.size = n0 := ⟨_, rfl⟩
  rw [hn] at hR hV hG hs ⊢
  unfold getW at hk0 hR hV hG hs
  generalize ((w.alloc (.cells zVal 29 (0, 0))).alloc (.cells (valC 13 0 nilB 0 0 (.slice none 0 0) (.slice none 0 0)) 29 (0, 0))).alloc (.cells zGot 139 (0, 0)) = w1 at *
  have HN := Lib.hid hn
  have HR := Lib.hid hR
  have HS := Lib.hid hs
  have HM := Lib.hid (Rp.M_new h hk0)
  obtain ⟨x0, x1, x2, x3, x4, x5, x6⟩ := got_cells hV
  clear hn hR hV hG hs
  refine (Rp.getMap K d ih deep s w1 hdd hd hhi (h.fresh hk0) hroom).mono ?_
  rintro e w3 ⟨T', N', Sa, Sm, Sc, KT', E', Ia, Im, Ic, La, Lm, Lc, ev, rfl, hp, hval⟩
  have hR3 := (hp.keep.block n0 (lt_of_heap HR.out) (fun x => by have := HM.out n0 x; have := HN.out; omega)).trans HR.out
  have HP := Lib.hid hp
  have HVAL := Lib.hid hval
  have HR3 := Lib.hid hR3
  clear x0 x1 x2 x3 x4 x5 x6
  obtain ⟨r0, r1, r2, r3, r4, r5, r6⟩ := got_cells hR3
  obtain ⟨z0, z1, z2, z3, z4, z5, z6⟩ := got_free hR3
  clear hp hval hR3
  go_wp2_with fail
  have hn0 := HN.out
  have hs1 := HS.out
  have hk9 := val_keep (M := fun i => n0 ≤ i ∧ i < n0 + 3) (Keep.refl _ w3) (R := n0) (fun _ => by omega) (.int .i64 T') (.int .i64 N') (.slice Sa Sm Sc) (.int .i64 KT') (.int .i64 E') (.slice Ia Im Ic) (.slice La Lm Lc)
  refine ret_cell2 (U := n0) (T := 29) Tryz.results29 rfl rfl rfl (val_set HR3.out (.int .i64 T') (.int .i64 N') (.slice Sa Sm Sc) (.int .i64 KT') (.int .i64 E') (.slice Ia Im Ic) (.slice La Lm Lc)) Tryz.underlying29 ival_size ?_
  refine ⟨T', N', Sa, Sm, Sc, KT', E', Ia, Im, Ic, La, Lm, Lc, ev, rfl, Rp.through h hk0 HP.out hk9 (fun i hi => by omega), fun hz => ?_⟩
  exact ((HVAL.out hz).keep hk9 (fun i hi e => by have := hi.1; omega)).weak (fun i _ hi => ⟨by have := hi.1; omega, fun x => hi.2 (Rp.through_M h hk0 HP.out hk9 (fun i hi => by omega) i x)⟩)
set_option maxRecDepth 100000 in
set_option maxHeartbeats 4000000 in
theorem Rp.get14 {St : Type} (K : Rp.Ctx St) (d : Nat) (ih : Rp.Gets K d) (deep : Int) (s : St) (w : World) (hdd : deep.toNat = d + 1) (hd : 0 < deep) (hhi : deep ≤ 9223372036854775807) (h : K.Inv s w) (hroom : K.pr.Room s) :
    Calls Tryz.prog 29 #[K.V, .int .u8 14, .int .i64 deep] w (Rp.GetP K (d + 1) w (gt K.pr (d + 1) 14 s)) := by
  go_enter Tryz.func29, Tryz.ntmps29
  go_wp2_with fail
  obtain ⟨hk0, hR, hV, hG, hs⟩ := getW_facts w 14
  obtain ⟨n0, hn⟩ : ∃ n0, w.heap.size = n0 := ⟨_, rfl⟩
  rw [hn] at hR hV hG hs ⊢
  unfold getW at hk0 hR hV hG hs
  generalize ((w.alloc (.cells zVal 29 (0, 0))).alloc (.cells (valC 14 0 nilB 0 0 (.slice none 0 0) (.slice none 0 0)) 29 (0, 0))).alloc (.cells zGot 139 (0, 0)) = w1 at *
  have HN := Lib.hid hn
  have HR := Lib.hid hR
  have HS := Lib.hid hs
  have HM := Lib.hid (Rp.M_new h hk0)
  obtain ⟨x0, x1, x2, x3, x4, x5, x6⟩ := got_cells hV
  clear hn hR hV hG hs
  refine (Rp.getList11 K d ih deep s w1 hdd hd hhi (h.fresh hk0) hroom).mono ?_
  rintro e w3 ⟨T', N', Sa, Sm, Sc, KT', E', Ia, Im, Ic, La, Lm, Lc, ev, rfl, hp, hval⟩
  have hR3 := (hp.keep.block n0 (lt_of_heap HR.out) (fun x => by have := HM.out n0 x; have := HN.out; omega)).trans HR.out
  have HP := Lib.hid hp
  have HVAL := Lib.hid hval
  have HR3 := Lib.hid hR3
  clear x0 x1 x2 x3 x4 x5 x6
  obtain ⟨r0, r1, r2, r3, r4, r5, r6⟩ := got_cells hR3
  obtain ⟨z0, z1, z2, z3, z4, z5, z6⟩ := got_free hR3
  clear hp hval hR3
  go_wp2_with fail
  have hn0 := HN.out
  have hs1 := HS.out
  have hk9 := val_keep (M := fun i => n0 ≤ i ∧ i < n0 + 3) (Keep.refl _ w3) (R := n0) (fun _ => by omega) (.int .i64 T') (.int .i64 N') (.slice Sa Sm Sc) (.int .i64 KT') (.int .i64 E') (.slice Ia Im Ic) (.slice La Lm Lc)
  refine ret_cell2 (U := n0) (T := 29) Tryz.results29 rfl rfl rfl (val_set HR3.out (.int .i64 T') (.int .i64 N') (.slice Sa Sm Sc) (.int .i64 KT') (.int .i64 E') (.slice Ia Im Ic) (.slice La Lm Lc)) Tryz.underlying29 ival_size ?_
  refine ⟨T', N', Sa, Sm, Sc, KT', E', Ia, Im, Ic, La, Lm, Lc, ev, rfl, Rp.through h hk0 HP.out hk9 (fun i hi => by omega), fun hz => ?_⟩
  exact ((HVAL.out hz).keep hk9 (fun i hi e => by have := hi.1; omega)).weak (fun i _ hi => ⟨by have := hi.1; omega, fun x => hi.2 (Rp.through_M h hk0 HP.out hk9 (fun i hi => by omega) i x)⟩)
set_option maxRecDepth 100000 in
set_option maxHeartbeats 4000000 in
theorem Rp.get15 {St : Type} (K : Rp.Ctx St) (d : Nat) (ih : Rp.Gets K d) (deep : Int) (s : St) (w : World) (hdd : deep.toNat = d + 1) (hd : 0 < deep) (hhi : deep ≤ 9223372036854775807) (h : K.Inv s w) (hroom : K.pr.Room s) :
    Calls Tryz.prog 29 #[K.V, .int .u8 15, .int .i64 deep] w (Rp.GetP K (d + 1) w (gt K.pr (d + 1) 15 s)) := by
  go_enter Tryz.func29, Tryz.ntmps29
  go_wp2_with fail
  obtain ⟨hk0, hR, hV, hG, hs⟩ := getW_facts w 15
  obtain ⟨n0, hn⟩ : ∃ n0, w.heap.size = n0 := ⟨_, rfl⟩
  rw [hn] at hR hV hG hs ⊢
  unfold getW at hk0 hR hV hG hs
  generalize ((w.alloc (.cells zVal 29 (0, 0))).alloc (.cells (valC 15 0 nilB 0 0 (.slice none 0 0) (.slice none 0 0)) 29 (0, 0))).alloc (.cells zGot 139 (0, 0)) = w1 at *
  have HN := Lib.hid hn
  have HR := Lib.hid hR
  have HS := Lib.hid hs
  have HM := Lib.hid (Rp.M_new h hk0)
  obtain ⟨x0, x1, x2, x3, x4, x5, x6⟩ := got_cells hV
  clear hn hR hV hG hs
  refine (Rp.getList9 K d ih deep s w1 hdd hd hhi (h.fresh hk0) hroom).mono ?_
  rintro e w3 ⟨T', N', Sa, Sm, Sc, KT', E', Ia, Im, Ic, La, Lm, Lc, ev, rfl, hp, hval⟩
  have hR3 := (hp.keep.block n0 (lt_of_heap HR.out) (fun x => by have := HM.out n0 x; have := HN.out; omega)).trans HR.out
  have HP := Lib.hid hp
  have HVAL := Lib.hid hval
  have HR3 := Lib.hid hR3
  clear x0 x1 x2 x3 x4 x5 x6
  obtain ⟨r0, r1, r2, r3, r4, r5, r6⟩ := got_cells hR3
  obtain ⟨z0, z1, z2, z3, z4, z5, z6⟩ := got_free hR3
  clear hp hval hR3
  go_wp2_with fail
  have hn0 := HN.out
  have hs1 := HS.out
  have hk9 := val_keep (M := fun i => n0 ≤ i ∧ i < n0 + 3) (Keep.refl _ w3) (R := n0) (fun _ => by omega) (.int .i64 T') (.int .i64 N') (.slice Sa Sm Sc) (.int .i64 KT') (.int .i64 E') (.slice Ia Im Ic) (.slice La Lm Lc)
  refine ret_cell2 (U := n0) (T := 29) Tryz.results29 rfl rfl rfl (val_set HR3.out (.int .i64 T') (.int .i64 N') (.slice Sa Sm Sc) (.int .i64 KT') (.int .i64 E') (.slice Ia Im Ic) (.slice La Lm Lc)) Tryz.underlying29 ival_size ?_
  refine ⟨T', N', Sa, Sm, Sc, KT', E', Ia, Im, Ic, La, Lm, Lc, ev, rfl, Rp.through h hk0 HP.out hk9 (fun i hi => by omega), fun hz => ?_⟩
  exact ((HVAL.out hz).keep hk9 (fun i hi e => by have := hi.1; omega)).weak (fun i _ hi => ⟨by have := hi.1; omega, fun x => hi.2 (Rp.through_M h hk0 HP.out hk9 (fun i hi => by omega) i x)⟩)
set_option maxRecDepth 100000 in
set_option maxHeartbeats 4000000 in
theorem Rp.get_other {St : Type} (K : Rp.Ctx St) (d : Nat) (deep t : Int) (s : St) (w : World) (hd : 0 < deep) (h0 : 0 ≤ t) (h1 : t ≤ 255) (h : K.Inv s w) (hsc : isSc t = false) (h12 : ¬ t = 12) (h13 : ¬ t = 13) (h14 : ¬ t = 14) (h15 : ¬ t = 15) :
    Calls Tryz.prog 29 #[K.V, .int .u8 t, .int .i64 deep] w (Rp.GetP K (d + 1) w (51, s, V.zero)) := by
  have hle : ¬ deep ≤ 0 := by omega
  have htw : IntKind.i64.wrap t = t := IntWalk.i64_in _ (by omega)
  obtain ⟨g2, g3, g6, g8, g10, g4, g11, g16⟩ : ¬ t = 2 ∧ ¬ t = 3 ∧ ¬ t = 6 ∧ ¬ t = 8 ∧ ¬ t = 10 ∧ ¬ t = 4 ∧ ¬ t = 11 ∧ ¬ t = 16 := by
    simp [isSc] at hsc; omega
  go_enter Tryz.func29, Tryz.ntmps29
  go_wp2_with fail
  obtain ⟨hk0, hR, hV, hG, hs⟩ := getW_facts w t
  obtain ⟨n0, hn⟩ : ∃ n0, w.heap.size = n0 := ⟨_, rfl⟩
  rw [hn] at hR hV hG hs ⊢
  unfold getW at hk0 hR hV hG hs
  generalize ((w.alloc (.cells zVal 29 (0, 0))).alloc (.cells (valC t 0 nilB 0 0 (.slice none 0 0) (.slice none 0 0)) 29 (0, 0))).alloc (.cells zGot 139 (0, 0)) = w1 at *
  have HN := Lib.hid hn
  have HR := Lib.hid hR
  have HS := Lib.hid hs
  have HM := Lib.hid (Rp.M_new h hk0)
  obtain ⟨u0, u1, u2, u3, u4, u5, u6⟩ := got_cells hG
  obtain ⟨x0, x1, x2, x3, x4, x5, x6⟩ := got_cells hV
  obtain ⟨y0, y1, y2, y3, y4, y5, y6⟩ := got_free hV
  obtain ⟨r0, r1, r2, r3, r4, r5, r6⟩ := got_cells hR
  obtain ⟨z0, z1, z2, z3, z4, z5, z6⟩ := got_free hR
  have HV := Lib.hid hV
  clear hn hR hV hG hs
  go_region
  all_goals
    go_wp2_with fail
    have hn0 := HN.out
    have hs1 := HS.out
    have hR4 : ((w1.setCell ⟨n0 + 1, 1, none⟩ (.int .i64 0)).setCell ⟨n0 + 1, 2, none⟩ (.slice none 0 0)).heap[n0]? = some (.cells zVal 29 (0, 0)) := (heap_set_other (p := ⟨n0 + 1, 2, none⟩) _ (by simp)).trans ((heap_set_other (p := ⟨n0 + 1, 1, none⟩) _ (by simp)).trans HR.out)
    have hkN : Keep (fun i => n0 ≤ i ∧ i < n0 + 3) w1 w1 := Keep.refl _ _
    have hkW := (((((((((hkN.set (n0 + 1) 1 (fun _ => by omega) (.int .i64 0)).set (n0 + 1) 2 (fun _ => by omega) (.slice none 0 0)).set n0 0 (fun _ => by omega) (.int .i64 t)).set n0 1 (fun _ => by omega) (.int .i64 0)).set n0 2 (fun _ => by omega) (.slice none 0 0)).set n0 3 (fun _ => by omega) (.int .i64 0)).set n0 4 (fun _ => by omega) (.int .i64 0)).set n0 5 (fun _ => by omega) (.slice none 0 0)).set n0 6 (fun _ => by omega) (.slice none 0 0)).drew
    have hR5 := val_set hR4 (.int .i64 t) (.int .i64 0) (.slice none 0 0) (.int .i64 0) (.int .i64 0) (.slice none 0 0) (.slice none 0 0)
    generalize ((((((((w1.setCell ⟨n0 + 1, 1, none⟩ (.int .i64 0)).setCell ⟨n0 + 1, 2, none⟩ (.slice none 0 0)).setCell ⟨n0, 0, none⟩ (.int .i64 t)).setCell ⟨n0, 1, none⟩ (.int .i64 0)).setCell ⟨n0, 2, none⟩ (.slice none 0 0)).setCell ⟨n0, 3, none⟩ (.int .i64 0)).setCell ⟨n0, 4, none⟩ (.int .i64 0)).setCell ⟨n0, 5, none⟩ (.slice none 0 0)).setCell ⟨n0, 6, none⟩ (.slice none 0 0) = w4 at *
    have hR6 : w4.drew.heap[n0]? = some (.cells #[.int .i64 t, .int .i64 0, .slice none 0 0, .int .i64 0, .int .i64 0, .slice none 0 0, .slice none 0 0] 29 (0, 0)) := hR5
    refine ret_cell2 (U := n0) (T := 29) Tryz.results29 rfl rfl rfl hR6 Tryz.underlying29 ival_size ?_
    have hp : Rp.Post K w1 w1 51 (.iface 138 (.int .i64 51)) s := ⟨.inr (.inr (.inr (.inr ⟨by decide, by decide, rfl⟩))), fun e => absurd e (by decide), K.isSome (h.fresh hk0), Kpt.refl _ _⟩
    exact ⟨t, 0, none, 0, 0, 0, 0, none, 0, 0, none, 0, 0, _, rfl, Rp.through h hk0 hp hkW (fun i hi => by omega), fun hz => absurd hz (by show ¬ (51 : Int) = 0; decide)⟩
theorem Rp.GetP.leaf {St : Type} {K : Rp.Ctx St} {d : Nat} {w w' : World} {e : Ending} {k : Int} {s : St} {T N KT E : Int} {S : List UInt8} {IDs : List Int} (h : Rp.GetP K 1 w (k, s, .mk T N S KT E IDs []) e w') : Rp.GetP K (d + 1) w (k, s, .mk T N S KT E IDs []) e w' := by
  obtain ⟨T1, N1, a1, a2, a3, a4, a5, b1, b2, b3, c1, c2, c3, ev, h1, h2, h3⟩ := h
  refine ⟨T1, N1, a1, a2, a3, a4, a5, b1, b2, b3, c1, c2, c3, ev, h1, h2, fun hz => ?_⟩
  obtain ⟨sv, iv, lv, q1, q2, q3, q4⟩ := h3 hz
  exact ⟨sv, iv, lv, q1, q2, q3, .inl (q4.elim (fun x => x) (fun x => absurd rfl x.1))⟩
theorem Rp.gets {St : Type} (K : Rp.Ctx St) (d : Nat) : Rp.Gets K d := by
  induction d with
  | zero => exact Rp.get_zero K
  | succ d ih =>
    intro deep t s w hd hlo hhi h0 h1 h hroom
    have hd0 : 0 < deep := by omega
    by_cases hsc : isSc t = true
    · have e : gt K.pr (d + 1) t s = (K.pr.scK t s, K.pr.scS t s, .mk t (K.pr.scN t s) (K.pr.scB t s) 0 0 [] []) := by simp only [gt]; rw [if_pos hsc]
      rw [e]
      have ht : t = 2 ∨ t = 3 ∨ t = 6 ∨ t = 8 ∨ t = 10 ∨ t = 4 ∨ t = 11 ∨ t = 16 := by simpa [isSc, or_assoc] using hsc
      rcases ht with rfl | rfl | rfl | rfl | rfl | rfl | rfl | rfl
      · exact (Rp.gets2 K deep hd0 s w h).mono (fun e w' q => q.leaf)
      · exact (Rp.gets3 K deep hd0 s w h).mono (fun e w' q => q.leaf)
      · exact (Rp.gets6 K deep hd0 s w h).mono (fun e w' q => q.leaf)
      · exact (Rp.gets8 K deep hd0 s w h).mono (fun e w' q => q.leaf)
      · exact (Rp.gets10 K deep hd0 s w h).mono (fun e w' q => q.leaf)
      · exact (Rp.gets4 K deep hd0 s w h).mono (fun e w' q => q.leaf)
      · exact (Rp.gets11 K deep hd0 s w h).mono (fun e w' q => q.leaf)
      · exact (Rp.gets16 K deep hd0 s w h).mono (fun e w' q => q.leaf)
    · by_cases h12 : t = 12
      · subst h12
        have e : gt K.pr (d + 1) 12 s = gflds K.pr (gt K.pr d) (K.pr.len (K.pr.sbS s) + 1) (K.pr.sbS s) [] [] := by simp [gt, isSc]
        rw [e]
        exact Rp.get12 K d ih deep s w hd hd0 hhi h hroom
      · by_cases h13 : t = 13
        · subst h13; exact Rp.get13 K d ih deep s w hd hd0 hhi h hroom
        · by_cases h14 : t = 14
          · subst h14; exact Rp.get14 K d ih deep s w hd hd0 hhi h hroom
          · by_cases h15 : t = 15
            · subst h15; exact Rp.get15 K d ih deep s w hd hd0 hhi h hroom
            · have e : gt K.pr (d + 1) t s = (51, s, V.zero) := by
                simp only [gt]; rw [if_neg hsc, if_neg h12, if_neg h13, if_neg (by omega)]
              rw [e]
              exact Rp.get_other K d deep t s w hd0 h0 h1 h (by simpa using hsc) h12 h13 h14 h15
end Go.Proofs.YthehmlbolajljaaGreatDoor

namespace Go.Proofs.YthehmlbolajljaaGreatDoor
open Go Go.RowKit
theorem cnew_cells (w : World) (cs : Array Value) (T : TypeId) : ∀ j u, cs.toList[j]? = some u → (w.alloc (.cells cs T)).cell? ((⟨w.heap.size, 0, none⟩ : Addr).add j) = some u := by
  intro j u hj
  rw [Addr.add_lit, Nat.zero_add, cellAt (heap_alloc_new w _)]
  simpa using hj
theorem cown_shape {w : World} {B n size : Nat} {e : TypeId} {v : Value} {xs : List Value} (h : w.ownsRow B e size v n xs) : ∃ a m c, v = .slice a m c := by
  rcases h.2 with ⟨rfl, _⟩ | ⟨g, cap, cur, rfl, _⟩
  · exact ⟨_, _, _, rfl⟩
  · exact ⟨_, _, _, rfl⟩
section
variable {E : Env} {P MB B D : Nat} {a : Option Addr} {c : Cfg} {s s' : Cmp.St} {fv : Value} {sc sc' : List UInt8} {w w' : World}
def CSb (E : Env) (P MB B D : Nat) (a : Option Addr) (c : Cfg) (s : Cmp.St) (fv : Value) (sc : List UInt8) (w : World) (e : Ending) (w' : World) : Prop :=
  ∃ fv', e = .returned (.tuple #[.string ⟨#[]⟩, .nilIface]) ∧ CmpP E P MB B D a c (Cmp.sbS s) fv' sc w' ∧ Keep (fun i => P = i ∨ fv.ownBlock = some i) w w' ∧ (∀ j, fv'.ownBlock = some j → fv.ownBlock = some j ∨ w.heap.size ≤ j)
set_option maxRecDepth 100000 in
set_option maxHeartbeats 4000000 in
theorem cmp_structBegin (h : CmpP E P MB B D a c s fv sc w) (hd : s.outer.length < 1099511627776) :
    Calls Tryz.prog 196 #[.pointer (some ⟨P, 0, none⟩), ctxV] w (CSb E P MB B D a c s fv sc w) := by
  obtain ⟨_, _, _, c3, c4, _, _⟩ := h.cells
  have f3 := cell_free h.blk 3
  have f4 := cell_free h.blk 4
  have hlP := h.ltP
  obtain ⟨a0, m0, cc0, rfl⟩ := cown_shape h.row
  obtain ⟨fv, hfv⟩ : ∃ fv, Value.slice a0 m0 cc0 = fv := ⟨_, rfl⟩
  have HFV := Lib.hid hfv
  obtain ⟨ii, hii, hiz, his, hib⟩ := int_info
  have hkA : Keep (fun _ => False) w (w.drew.alloc (.cells #[.int .i64 s.last] 3)) := ((Keep.refl _ w).drew).alloc _
  have HROW := Lib.hid (row_keep h.row hkA (fun _ _ x => x))
  have hn1 := cnew_cells w.drew #[.int .i64 s.last] 3
  have hone1 : ∀ u ∈ [Value.int .i64 s.last], u.oneCell' = true := by
    intro u hu
    simp only [List.mem_cons, List.not_mem_nil, or_false] at hu
    subst hu; rfl
  have hmx : s.outer.length + 1 ≤ maxLen := by simp only [maxLen]; omega
  have hbase : E.base ≤ (w.drew.alloc (.cells #[.int .i64 s.last] 3)).heap.size := by have := h.base; have := hlP; simp; omega
  have HKA := Lib.hid hkA
  have HH := Lib.hid h
  clear h hkA hfv
  go_enter Tryz.func196, Tryz.ntmps196
  go_wp2_with fail
  go_region_law (refine step_append_own_at rfl (.tmp 10) (.tmp 15) 26 rfl E.base 3 ii (.int .i64 0) 1 8 Tryz.underlying26 hii hiz his hib rfl (by decide) (.slice a0 m0 cc0) s.outer.length (s.outer.map (Value.int .i64)) rfl HROW.out ⟨w.heap.size, 0, none⟩ 1 1 [.int .i64 s.last] rfl rfl hn1 hone1 hmx (by omega) hbase ?_; intro v' w2 hown hg hat; obtain ⟨va, vm, vc, rfl⟩ := cown_shape hown; have HOWN := Lib.hid hown; have HG := Lib.hid hg; have HAT := Lib.hid hat; have hb2 := (hg.block P (by first | (simp; done) | (simp; omega)) (fun e => (HH.out.rowB P e.symm).1 rfl)).trans ((HKA.out.block P hlP id).trans HH.out.blk); have HB2 := Lib.hid hb2; have f3 := cell_free hb2 3; have f4 := cell_free hb2 4; have c3 : w2.cell? ⟨P, 3, none⟩ = some (.slice a0 m0 cc0) := (by simp [cellAt hb2]); have c4 : w2.cell? ⟨P, 4, none⟩ = some (.int .i64 s.last) := (by simp [cellAt hb2]); clear hown hg hat hb2)
  all_goals
    have d4 : w2.cell? ⟨P, 4, none⟩ = some (.int .i64 s.last) := by simp [cellAt HB2.out]
    go_wp2_with fail
    go_ret2
    have hown := HOWN.out
    have hg := HG.out
    have hat := HAT.out
    have hs0 : w.heap.size ≤ w2.heap.size := Nat.le_trans HKA.out.size hg.size
    have hk2 : Keep (fun i => fv.ownBlock = some i) w w2 := (HKA.out.weak (fun _ _ x => x.elim)).grown hg (fun k e _ => by rw [← HFV.out]; exact e)
    have hk4 : Keep (fun i => P = i ∨ fv.ownBlock = some i) w ((w2.setCell ⟨P, 3, none⟩ (.slice va vm vc)).setCell ⟨P, 4, none⟩ (.int .i64 0)) := ((hk2.weak (fun _ _ x => .inr x)).set P 3 (fun _ => .inl rfl) _).set P 4 (fun _ => .inl rfl) _
    have hkP : Keep (fun i => P = i) w2 ((w2.setCell ⟨P, 3, none⟩ (.slice va vm vc)).setCell ⟨P, 4, none⟩ (.int .i64 0)) := ((Keep.refl _ w2).set P 3 (fun _ => rfl) _).set P 4 (fun _ => rfl) _
    have hb4 := heap_set_same (i := 4) (heap_set_same (i := 3) HB2.out (.slice va vm vc)) (.int .i64 0)
    have hH := HH.out
    have hnew : ∀ j, (Value.slice va vm vc).ownBlock = some j → fv.ownBlock = some j ∨ w.heap.size ≤ j := fun j e => by
      rcases hat with e2 | e2
      · left; rw [← HFV.out, ← e2]; exact e
      · right
        rw [e2] at e
        cases e
        exact HKA.out.size
    have hD := hH.mem.ltD
    have hMB := hH.mem.lts
    have hrb : ∀ i, fv.ownBlock = some i → i ≠ P ∧ i ≠ MB ∧ i ≠ B ∧ i ≠ D := fun i e => hH.rowB i (by rw [HFV.out]; exact e)
    refine ⟨_, rfl, ⟨hH.sc64, by simpa [Cmp.sbS] using hb4, ?_, ?_, ⟨show (-32768 : Int) ≤ 0 by decide, show (0 : Int) ≤ 32767 by decide⟩, ?_, ?_, ?_, ?_, hH.cok, hH.base, hH.neM, hH.neB, hH.neD⟩, ?_, ?_⟩
    · have := row_keep hown hkP (fun i e x => by
        subst x
        rcases hnew _ e with e2 | e2
        · exact (hrb _ e2).1 rfl
        · omega)
      simpa [Cmp.sbS] using this
    · intro i e
      rcases hnew i e with e2 | e2
      · exact hrb i e2
      · exact ⟨by omega, by omega, by omega, by omega⟩
    · intro x hx
      simp only [Cmp.sbS, List.mem_append, List.mem_cons, List.not_mem_nil, or_false] at hx
      rcases hx with hx | rfl
      · exact hH.out16 x hx
      · exact hH.last16
    · exact hH.mem.keep hk4 (fun e => e.elim (fun e => hH.neM e) (fun e => (hrb MB e).2.1 rfl)) (fun e => e.elim (fun e => hH.neB e) (fun e => (hrb B e).2.2.1 rfl)) (fun e => e.elim (fun e => hH.neD e) (fun e => (hrb D e).2.2.2 rfl))
    · exact hH.glob.keep hk4 (fun i e => e.elim (fun e => by have := hH.base; omega) (fun e => (hH.row.lt i (by rw [HFV.out]; exact e)).1))
    · have h1 : CfgAt (fun i => CM P B fv i ∨ CM P B (.slice va vm vc) i) w a c := (hH.cfg).weak (fun i hi x => by
        rw [HFV.out]
        rcases x with x | x
        · exact x
        · rcases x with x | x | x
          · exact .inl x
          · exact .inr (.inl x)
          · rcases hnew i x with e2 | e2
            · exact .inr (.inr e2)
            · omega)
      exact (h1.keep hk4 (fun i e => .inl (e.elim (fun e => .inr (.inl e)) (fun e => .inr (.inr e))))).weak (fun i _ x => .inr x)
    · rw [HFV.out]; exact hk4
    · rw [HFV.out]; exact hnew
def CSe (E : Env) (P MB B D : Nat) (a : Option Addr) (c : Cfg) (s : Cmp.St) (fv : Value) (sc : List UInt8) (w : World) (e : Ending) (w' : World) : Prop :=
  ∃ fv', e = .returned .nilIface ∧ CmpP E P MB B D a c (Cmp.seS s) fv' sc w' ∧ Keep (fun i => P = i) w w' ∧ (∀ j, fv'.ownBlock = some j → fv.ownBlock = some j)
set_option maxRecDepth 100000 in
set_option maxHeartbeats 4000000 in
theorem cmp_structEnd (h : CmpP E P MB B D a c s fv sc w) (hd : 1 ≤ s.outer.length) :
    Calls Tryz.prog 197 #[.pointer (some ⟨P, 0, none⟩), ctxV] w (CSe E P MB B D a c s fv sc w) := by
  obtain ⟨rem, last, outer, pend, val⟩ := s
  obtain ⟨o', x, rfl⟩ : ∃ o' x, outer = o' ++ [x] := ⟨outer.dropLast, outer.getLast (by intro e; rw [e] at hd; simp at hd), (List.dropLast_concat_getLast _).symm⟩
  obtain ⟨k, hk⟩ : ∃ k, o'.length = k := ⟨_, rfl⟩
  rcases h.row.2 with ⟨hn, hn2⟩ | ⟨g, cap, cur, hfv, hbg, hg, hnc, hcm, hcs, htake⟩
  · simp at hn2
  subst hfv
  have hlen : (o' ++ [x]).length = k + 1 := by simp [hk]
  have hn3 : ({ rem := rem, last := last, outer := o' ++ [x], pend := pend, val := val } : Cmp.St).outer.length = k + 1 := hlen
  rw [hn3] at h hnc htake
  have hkc : k + 1 ≤ cap := hnc
  have hcx : w.cell? ⟨g, k, none⟩ = some (.int .i64 x) := by
    have h1 := h.row.cells (g := g) rfl k (.int .i64 x) (by simp [← hk])
    rw [Addr.add_lit] at h1
    simpa using h1
  obtain ⟨_, _, _, c3, c4, _, _⟩ := h.cells
  have f3 := cell_free h.blk 3
  have f4 := cell_free h.blk 4
  have HH := Lib.hid h
  have HT := Lib.hid (And.intro hg (And.intro hbg (And.intro hcm (And.intro hcs htake))))
  have HK := Lib.hid hk
  have hmax : (cap : Int) ≤ 9223372036854775807 := by simp only [maxLen] at hcm; omega
  have hw : IntKind.i64.wrap (((k + 1 : Nat) : Int) - 1) = (k : Nat) := by rw [show (((k + 1 : Nat) : Int) - 1) = (k : Nat) by omega]; exact IntWalk.i64_in _ (by omega)
  clear h hg hbg hcm hcs htake hk hnc hlen hn3 hd
  go_enter Tryz.func197, Tryz.ntmps197
  go_wp2_with fail
  go_cut [] from 13 to 27 (fun wx => wx.heap[P]? = some (.cells (cmpC MB a (.slice (some ⟨g, 0, none⟩) (k + 1) cap) x val pend sc).toArray 223 (0, 0)) ∧ Keep (fun i => P = i) w wx)
  case first =>
    go_region
    all_goals
      go_wp2_with fail
      go_simp
      go_meet
      have hb := heap_set_same (i := 4) HH.out.blk (.int .i64 x)
      have hk := (Keep.refl (fun i => P = i) w).set P 4 (fun _ => rfl) (.int .i64 x)
      first
      | exact ⟨(show (w.setCell ⟨P, 4, none⟩ (.int .i64 x)).heap[P]? = _ by simpa using hb), hk.drew⟩
      | exact ⟨by simpa using hb, ((Keep.refl (fun i => P = i) w).drew).set P 4 (fun _ => rfl) (.int .i64 x)⟩
  case rest =>
  obtain ⟨hb, hk⟩ := hcut
  have HB := Lib.hid hb
  have HKC := Lib.hid hk
  have c3' : wc.cell? ⟨P, 3, none⟩ = some (.slice (some ⟨g, 0, none⟩) (k + 1) cap) := by simp [cellAt hb]
  have f3' := cell_free hb 3
  clear hb hk
  go_wp2_with fail
  go_region
  all_goals
    go_wp2_with fail
    go_ret
    have hH := HH.out
    obtain ⟨hg, hbg, hcm, hcs, htake⟩ := HT.out
    have hgP : g ≠ P := (hH.rowB g rfl).1
    have hb5 := heap_set_same (i := 3) HB.out (.slice (some ⟨g, 0, none⟩) k cap)
    have hk5 : Keep (fun i => P = i) w (wc.setCell ⟨P, 3, none⟩ (.slice (some ⟨g, 0, none⟩) k cap)).drew := (HKC.out.set P 3 (fun _ => rfl) _).drew
    have hg5 : (wc.setCell ⟨P, 3, none⟩ (.slice (some ⟨g, 0, none⟩) k cap)).drew.heap[g]? = some (.cells cur 3 (0, 0)) := (hk5.block g (lt_of_heap hg) (fun e => hgP e.symm)).trans hg
    have hdl : (o' ++ [x]).dropLast = o' := by simp
    have hse : Cmp.seS ⟨rem, last, o' ++ [x], pend, val⟩ = ⟨rem, x, o', pend, val⟩ := by simp [Cmp.seS]
    refine ⟨.slice (some ⟨g, 0, none⟩) k cap, rfl, ?_, hk5, fun j e => e⟩
    rw [hse]
    refine ⟨hH.sc64, (show (wc.setCell ⟨P, 3, none⟩ (.slice (some ⟨g, 0, none⟩) k cap)).heap[P]? = _ by simpa using hb5), ?_, fun i e => hH.rowB i e, hH.out16 x (by simp), fun y hy => hH.out16 y (by simp [hy]), hH.mem.keep hk5 hH.neM (fun e => hH.neB e) hH.neD, hH.glob.keep hk5 (fun i e => by have := hH.base; omega), ?_, hH.cok, hH.base, hH.neM, hH.neB, hH.neD⟩
    · refine ⟨by simp, .inr ⟨g, cap, cur, by rw [HK.out], hbg, hg5, by rw [HK.out]; omega, hcm, hcs, ?_⟩⟩
      have := congrArg (List.take k) htake
      rw [List.take_take] at this
      rw [HK.out, Nat.mul_one]
      rw [show min k ((k + 1) * 1) = k by omega] at this
      rw [this, List.map_append, List.take_append_of_le_length (by simp [HK.out]), List.take_of_length_le (by simp [HK.out])]
    · exact ((hH.cfg).keep hk5 (fun i e => .inr (.inl e))).weak (fun i _ x => x)
theorem cmp_fieldEnd (p c : Value) (w : World) : Calls Tryz.prog 183 #[p, c] w fun e w' => e = .returned .nilIface ∧ w = w' := by
  go_enter Tryz.func183, Tryz.ntmps183
  go_wp2_with fail
  go_ret
  exact ⟨rfl, rfl⟩
theorem cmp_mapEnd (p c : Value) (w : World) : Calls Tryz.prog 190 #[p, c] w fun e w' => e = .returned .nilIface ∧ w = w' := by
  go_enter Tryz.func190, Tryz.ntmps190
  go_wp2_with fail
  go_ret
  exact ⟨rfl, rfl⟩
theorem cmp_listEnd (p c : Value) (w : World) : Calls Tryz.prog 188 #[p, c] w fun e w' => e = .returned .nilIface ∧ w = w' := by
  go_enter Tryz.func188, Tryz.ntmps188
  go_wp2_with fail
  go_ret
  exact ⟨rfl, rfl⟩
theorem cmp_setEnd (p c : Value) (w : World) : Calls Tryz.prog 194 #[p, c] w fun e w' => e = .returned .nilIface ∧ w = w' := by
  go_enter Tryz.func194, Tryz.ntmps194
  go_wp2_with fail
  go_ret
  exact ⟨rfl, rfl⟩
theorem cmp_msgEnd (p c : Value) (w : World) : Calls Tryz.prog 192 #[p, c] w fun e w' => e = .returned .nilIface ∧ w = w' := by
  go_enter Tryz.func192, Tryz.ntmps192
  go_wp2_with fail
  go_ret
  exact ⟨rfl, rfl⟩
end
end Go.Proofs.YthehmlbolajljaaGreatDoor

namespace Go.Proofs.YthehmlbolajljaaGreatDoor
open Go Go.RowKit
theorem step_store_row {P : Program} {ops : Array Oper} {o : Oper} {a : Act} {w : World} {K : Act → World → Prop} {Q : Exit → Act → World → Prop} {E : Prop} (hgd : o.guard = none) (ty : TypeId) (x y : Operand) (ho : o.op = .store ty x y)
    (g : Nat) (cells : Array Value) (hx : a.eval x = .pointer (some ⟨g, 0, none⟩)) (hy : a.eval y = .agg cells)
    (t : TypeId) (old : Array Value) (hg : w.heap[g]? = some (.cells old t (0, 0))) (hi : (P.info? ty).map (·.size) = some cells.size)
    (hold : old.size = cells.size) (h1 : cells.all (·.oneCell') = true)
    (h : K (a.put o.dst undef) (w.setRow g cells)) : if Region.wanted o (yielded ops a.tmps) = true then Oper.wp P o a w K Q else E := by
  have hw : Region.wanted o (yielded ops a.tmps) = true := by simp [Region.wanted, hgd]
  rw [if_pos hw]
  exact wp_store_row ty x y ho g cells hx hy t old hg hi hold h1 h
theorem exec_load_row {P : Program} {e : Operand → Value} {w : World} {dst : Option Tmp} {tt : TypeId} {pos : String} {after : Array Edge} (ty : TypeId) (x : Operand)
    (g : Nat) (hx : e x = .pointer (some ⟨g, 0, none⟩)) (t : TypeId) (cs : Array Value) (fr : Nat × Nat) (d : TypeDesc) (hg : w.heap[g]? = some (.cells cs t fr))
    (hu : P.underlying ty = some d) (hd : (match d with | .struct _ | .array _ _ => true | _ => false) = true) (hi : (P.info? ty).map (·.size) = some cs.size) :
    (execOp e ⟨dst, .load ty x, tt, pos, after, none⟩).run P w = .ok (.value (.agg cs)) w := by
  unfold execOp
  simp only [hx, Instr.loadAt, Instr.sureAddr, Sem.run_bind, Sem.run_pure, Result.andThen_ok, run_loadVar_row w g t ty cs fr d hg hu hd hi]
section
variable {E : Env} {P MB B D : Nat} {a : Option Addr} {c : Cfg} {s s' : Cmp.St} {fv : Value} {sc sc' : List UInt8} {w w' : World}
theorem cmp_over {fv' : Value} {w2 w3 : World} {N M : Nat → Prop} (h : CmpP E P MB B D a c s fv sc w) (h2 : CmpP E P MB B D a c s' fv' sc' w2) (k2 : Keep M w w2) (k : Keep N w2 w3) (hM : ∀ i, i < w.heap.size → M i → CM P B fv i) (hfv : ∀ i, fv'.ownBlock = some i → fv.ownBlock = some i ∨ w.heap.size ≤ i)
    (hN : ∀ i, N i → w.heap.size ≤ i) (hF : ∀ i, fv'.ownBlock = some i → ¬ N i) : CmpP E P MB B D a c s' fv' sc' w3 := by
  have n1 : ∀ i, i < w.heap.size → ¬ N i := fun i hi x => by have := hN i x; omega
  have hl := h.mem.lts
  have hE := h.glob.size
  refine h2.keep k (n1 _ h.ltP) (n1 _ hl.1) (n1 _ hl.2) (n1 _ h.mem.ltD) hF (fun i x => by have := hN i x; omega) ?_
  have h1 : CfgAt (fun i => CM P B fv i ∨ M i ∨ N i ∨ CM P B fv' i) w a c := h.cfg.weak (fun i hi x => by
    rcases x with x | x | x | x
    · exact x
    · exact hM i hi x
    · exact absurd x (n1 i hi)
    · rcases x with x | x | x
      · exact .inl x
      · exact .inr (.inl x)
      · rcases hfv i x with y | y
        · exact .inr (.inr y)
        · omega)
  exact ((h1.keep k2 (fun i x => .inr (.inl x))).keep k (fun i x => .inr (.inr (.inl x)))).weak (fun i _ x => .inr (.inr (.inr x)))
def CUuid (E : Env) (P MB B D : Nat) (a : Option Addr) (c : Cfg) (s : Cmp.St) (fv : Value) (w : World) (e : Ending) (w' : World) : Prop :=
  ∃ (l : List UInt8) (ev : Value) (sc' : List UInt8), e = .returned (.tuple #[.agg (bcells l).toArray, ev]) ∧ ErrAt E w.heap.size w' ev (fullK 16 s.rem) ∧ CmpP E P MB B D a c (s.at (s.rem.drop 16)) fv sc' w' ∧ Keep (MB2 P B) w w' ∧ l.length = 16 ∧ (16 ≤ s.rem.length → l = s.rem.take 16)
set_option maxRecDepth 100000 in
set_option maxHeartbeats 4000000 in
theorem cmp_readUUID (h : CmpP E P MB B D a c s fv sc w) :
    Calls Tryz.prog 198 #[.pointer (some ⟨P, 0, none⟩), ctxV] w (CUuid E P MB B D a c s fv w) := by
  obtain ⟨Z, hZ⟩ : ∃ Z : Array Value, #[.int .u8 0, .int .u8 0, .int .u8 0, .int .u8 0, .int .u8 0, .int .u8 0, .int .u8 0, .int .u8 0, .int .u8 0, .int .u8 0, .int .u8 0, .int .u8 0, .int .u8 0, .int .u8 0, .int .u8 0, .int .u8 0] = Z := ⟨_, rfl⟩
  have hZb : Z = (bcells (List.replicate 16 0)).toArray := by rw [← hZ]; rfl
  have hZs : Z.size = 16 := by rw [← hZ]; rfl
  have HZs := Lib.hid hZs
  have HZb := Lib.hid hZb
  have HZ := Lib.hid hZ
  clear hZ hZb hZs
  have hBU := h.mem.lts
  have hltP := h.ltP
  obtain ⟨c0, _, _, _, _, _, _⟩ := h.cells
  have hsz0 : (Tryz.prog.info? 210).map (·.size) = some 16 := by kernel_rfl
  have HSZ := Lib.hid hsz0
  clear hsz0
  go_enter Tryz.func198, Tryz.ntmps198
  go_wp2_with fail
  rw [HZ.out]
  have hkA : Keep (fun _ => False) w (w.alloc (.cells Z 210)) := (Keep.refl _ w).alloc _
  have hUA : (w.alloc (.cells Z 210)).heap[w.heap.size]? = some (.cells Z 210 (0, 0)) := heap_alloc_new w _
  have hAs : (w.alloc (.cells Z 210)).heap.size = w.heap.size + 1 := by simp
  obtain ⟨U, hU⟩ : ∃ U, w.heap.size = U := ⟨_, rfl⟩
  generalize w.alloc (.cells Z 210) = wA at *
  rw [hU] at hUA hltP hAs ⊢
  have hA := h.fresh hkA
  refine (cmp_readFull hA 16 64 (by omega) (by omega) (by omega)).mono ?_
  rintro e w1 ⟨ev, sc1, rfl, he1, h1, hk1, ht⟩
  have hU1 : w1.heap[U]? = some (.cells Z 210 (0, 0)) := (hk1.block U (lt_of_heap hUA) (by rintro (e | e) <;> omega)).trans hUA
  have hkw1 : Keep (MB2 P B) w w1 := (hkA.weak (fun _ _ x => x.elim)).then hk1
  have HU1 := Lib.hid hU1
  have hUlt := lt_of_heap hU1
  have HKW1 := Lib.hid hkw1
  clear hUA hU1 c0
  have HH := Lib.hid h
  have HUS := Lib.hid hU
  by_cases hl : 16 ≤ s.rem.length
  · have hev : ev = .nilIface := by rw [show endK 16 (s.at s.rem).rem = endK 16 s.rem from rfl] at he1; rw [endK, if_pos hl] at he1; exact he1.isNil
    subst hev
    have hb := h1.blk
    have ht16 : sc1.take 16 = s.rem.take 16 := by
      have h9 := ht
      rw [show min 16 s.rem.length = 16 by omega] at h9
      exact h9
    have HL := Lib.hid hl
    obtain ⟨V, hV⟩ : ∃ V : List Value, bcells (s.rem.take 16) = V := ⟨_, rfl⟩
    have hVl : V.length = Nat.min 16 16 := by rw [← hV]; simp; omega
    have hVo : ∀ v ∈ V, v.oneCell' = true := by
      intro v hv; rw [← hV] at hv; obtain ⟨x, _, rfl⟩ := List.mem_map.1 hv; rfl
    have hVs : ∀ j v, V[j]? = some v → w1.cell? ((⟨P, 10, none⟩ : Addr).add j) = some v := by
      intro j v hj
      rw [← hV] at hj
      obtain ⟨hj1, hj2⟩ := List.getElem?_eq_some_iff.1 hj
      simp at hj1
      have := cblk_cells hb ht16 j (by simp; omega)
      rw [Addr.add_lit, this, ← hj2]
      simp [bcells]
    have hU9 : w1.heap[U]? = some (.cells (bcells (List.replicate 16 0)).toArray 210 (0, 0)) := by rw [← HZb.out]; exact HU1.out
    obtain ⟨R, hR⟩ : ∃ R : List Value, bcells (List.replicate 16 0) = R := ⟨_, rfl⟩
    rw [hR] at hU9
    have hRl : R.length = 16 := by rw [← hR]; simp
    have hsp : splice R 0 V = V := by simp [splice]; rw [hRl, hVl]; decide
    have HSZV : Hid ((Tryz.prog.info? 210).map (·.size) = some V.toArray.size) := Lib.hid (by
      have hv16 : V.toArray.size = 16 := by simp [hVl]
      rw [hv16]; exact HSZ.out)
    have HVL := Lib.hid hVl
    have HVO := Lib.hid hVo
    have HVS := Lib.hid hVs
    have HU9 := Lib.hid hU9
    have HFIT := Lib.hid (show 0 + V.length ≤ R.length by rw [hVl, hRl]; decide)
    have HSP := Lib.hid hsp
    have HV := Lib.hid hV
    have HALL : Hid (V.toArray.all (·.oneCell') = true) := Lib.hid (by rw [← hV]; exact bcells_one _)
    have HH1 := Lib.hid h1
    have hmin : min 16 s.rem.length = 16 := by omega
    have hsA1 : w.heap.size + 1 ≤ w1.heap.size := by have := hk1.size; omega
    have HSA1 := Lib.hid hsA1
    have HKW1' := Lib.hid hkw1
    rw [show min 16 (s.at s.rem).rem.length = 16 from hmin]
    clear hV hVl hVo hVs hU9 hR hRl hsp ht ht16 hb he1 hl h1 hmin hsA1
    go_wp2_with (refine wpList_copy_row rfl (.tmp 24) (.tmp 25) 24 24 rfl 5 Tryz.underlying24 (by kernel_rfl) U 0 16 16 ⟨P, 10, none⟩ 16 64 rfl rfl R 210 HU9.out V HVL.out HVS.out HFIT.out HVO.out ?_)
    intro w2 Hw2
    have hU2 : Hid (w2.heap[U]? = some (.cells V.toArray 210 (0, 0))) := by
      show _ = _
      rw [Hw2.out.1, setRow_heap _ _ _ _ _ _ HU9.out, HSP.out]
    have hk12 : Keep (fun i => U = i) w1 w2 := ((Keep.refl _ w1).setRow U (fun _ => rfl) _).eqv Hw2.out
    have hUs2 := HUS.out
    have hkw2 : Keep (MB2 P B) w w2 := HKW1'.out.trans hk12 (fun i hi e => by omega)
    have HKW := Lib.hid hkw2
    have HP := Lib.hid (cmp_over HH.out HH1.out HKW1'.out hk12 (fun i _ x => x.elim .inl (fun y => .inr (.inl y))) (fun i e => .inl e) (fun i e => by omega) (fun i e x => by have := (HH.out.row.lt i e).2; omega))
    have HGL := Lib.hid HP.out.glob
    have HSZW : Hid (w.heap.size + 1 ≤ w2.heap.size) := Lib.hid (Nat.le_trans HSA1.out hk12.size)
    have hUlt2 := lt_of_heap hU2.out
    have HUW : Hid (∀ W, Keep (fun _ => False) w2 W → W.heap[U]? = some (.cells V.toArray 210 (0, 0))) := Lib.hid (fun W k => (k.block U hUlt2 id).trans hU2.out)
    have HK0 : Hid (fullK 16 s.rem = 0) := Lib.hid (by simp [fullK]; exact HL.out)
    clear hk12 hkw2
    go_wp2_with fail
    have hkd : Keep (fun _ => False) w2 w2.drew := (Keep.refl _ w2).drew
    refine wp_region_quiet (fun W => W.heap[U]? = some (.cells V.toArray 210 (0, 0))) [3] (by kernel_rfl) ?_
    have HUD := HUW.out _ hkd
    refine wpAnyP_plain 1 (some 28) .nilIface rfl (by kernel_rfl) (by kernel_rfl) (by kernel_rfl) (by kernel_rfl) (fun _ _ _ h => h) (fun W => ?_) (fun _ => HUD) ?_
    · go_simp
    try simp only [Act.put, List.setIfInBounds_toArray, List.set_cons_zero, List.set_cons_succ]
    refine wpAnyP_load 0 [3] (some 27) (.agg V.toArray) rfl (by kernel_rfl) (by kernel_rfl) (by kernel_rfl) (by kernel_rfl) (fun _ _ _ h => h) (fun W hW => exec_load_row _ _ U rfl 210 V.toArray (0, 0) _ hW Tryz.underlying210 rfl HSZV.out) HUD ?_
    try simp only [Act.put, List.setIfInBounds_toArray, List.set_cons_zero, List.set_cons_succ]
    refine wpAnyP_ready [2] (by kernel_rfl) (by simp) ?_
    refine AllReadyP.cons (i := 2) (o := ⟨some 29, _, _, _, _, none⟩) rfl (fun K hK => ?_) ?_
    · go_simp
      refine (newPExc (w := w2.drew) (HGL.out.keep hkd (fun _ x => x.elim)) (n0 := w.heap.size + 1) HSZW.out ((ErrAt.nil E (w.heap.size + 1) w2).eqv (Eqv.drew w2)) (by decide)).mono ?_
      rintro e w4 ⟨v4, rfl, hv4, hk4⟩
      have hk4w : Keep (fun _ => False) w2 w4 := hkd.then hk4
      refine hK.out _ _ (fun _ => HUW.out _ hk4w) ?_
      clear hK K
      try simp only [Act.put, List.setIfInBounds_toArray, List.set_cons_zero, List.set_cons_succ]
      refine wpAnyP_ready [3] (by kernel_rfl) (by simp) ?_
      refine AllReadyP.cons (i := 3) (o := ⟨none, _, _, _, _, none⟩) rfl (fun K hK => ?_) ?_
      · refine step_store_row rfl 210 (.tmp 4) (.tmp 27) rfl U V.toArray rfl rfl 210 V.toArray (HUW.out _ hk4w) HSZV.out rfl HALL.out ?_
        refine hK.out _ _ (fun q => quiet_no q (by kernel_rfl)) ?_
        clear hK K
        try simp only [Act.put, List.setIfInBounds_toArray, List.set_cons_zero, List.set_cons_succ]
        refine wpAnyP_plain 4 (some 5) v4 rfl (by kernel_rfl) (by kernel_rfl) (by kernel_rfl) (by kernel_rfl) (fun _ _ _ h => h) (fun W => ?_) (fun q => quiet_no q (by kernel_rfl)) ?_
        · go_simp
        try simp only [Act.put, List.setIfInBounds_toArray, List.set_cons_zero, List.set_cons_succ]
        refine wpAnyP_done (by kernel_rfl) ?_ _
        go_wp2_with fail
        have hU9 : (w4.setRow U V.toArray).heap[U]? = some (.cells V.toArray 210 (0, 0)) := setRow_heap _ _ _ _ _ _ (HUW.out _ hk4w)
        have hl9 := run_loadVar_row (P := Tryz.prog) (w4.setRow U V.toArray) U 210 210 V.toArray (0, 0) _ hU9 Tryz.underlying210 rfl HSZV.out
        have hkr : Keep (fun i => U = i) w4 (w4.setRow U V.toArray) := (Keep.refl _ w4).setRow U (fun _ => rfl) _
        have hUs := HUS.out
        have hkw4 : Keep (MB2 P B) w (w4.setRow U V.toArray) := (HKW.out.then (hk4w.weak (fun _ _ x => x.elim))).trans hkr (fun i hi e => by omega)
        refine bodyPost_ret (v := .tuple #[.agg V.toArray, v4]) (by simp [results, Tryz.results198, asAddr, hl9]) rfl ?_
        have hp9 := cmp_over HH.out ((HP.out).fresh hk4w) (HKW.out.then (hk4w.weak (fun _ _ x => x.elim))) hkr (fun i _ x => x.elim .inl (fun y => .inr (.inl y))) (fun i e => .inl e) (fun i e => by omega) (fun i e x => by have := (HH.out.row.lt i e).2; omega)
        exact ⟨s.rem.take 16, v4, _, by rw [HV.out], by rw [HK0.out]; exact (hv4.keep hkr (fun i hi e => by omega)).mono (Nat.le_succ _), hp9, hkw4, by simp; have := HL.out; omega, fun _ => rfl⟩
      · exact AllReadyP.nil
    · exact AllReadyP.nil
  · have HL := Lib.hid hl
    obtain ⟨t, x, rfl⟩ := he1.held (by unfold endK; rw [if_neg hl]; split <;> decide)
    have HUW : Hid (∀ W, Keep (fun _ => False) w1 W → W.heap[U]? = some (.cells Z 210 (0, 0))) := Lib.hid (fun W k => (k.block U hUlt id).trans HU1.out)
    have HSZV := Lib.hid (HSZ.out.trans (by rw [HZs.out]) : (Tryz.prog.info? 210).map (·.size) = some Z.size)
    have HALL : Hid (Z.all (·.oneCell') = true) := Lib.hid (by rw [HZb.out]; exact bcells_one _)
    have HGL := Lib.hid h1.glob
    have hsA : w.heap.size + 1 ≤ wA.heap.size := by omega
    have HSZW : Hid (w.heap.size + 1 ≤ w1.heap.size) := Lib.hid (by have := hk1.size; omega)
    have HE := Lib.hid (he1.mono (n1 := w.heap.size + 1) hsA)
    have HKW := Lib.hid hkw1
    have HP := Lib.hid h1
    clear hl he1 ht h1
    go_wp2_with fail
    have hkd : Keep (fun _ => False) w1 w1.drew := (Keep.refl _ w1).drew
    refine wp_region_quiet (fun W => W.heap[U]? = some (.cells Z 210 (0, 0))) [3] (by kernel_rfl) ?_
    have HUD := HUW.out _ hkd
    refine wpAnyP_plain 1 (some 28) (.iface t x) rfl (by kernel_rfl) (by kernel_rfl) (by kernel_rfl) (by kernel_rfl) (fun _ _ _ h => h) (fun W => ?_) (fun _ => HUD) ?_
    · go_simp
    try simp only [Act.put, List.setIfInBounds_toArray, List.set_cons_zero, List.set_cons_succ]
    refine wpAnyP_load 0 [3] (some 27) (.agg Z) rfl (by kernel_rfl) (by kernel_rfl) (by kernel_rfl) (by kernel_rfl) (fun _ _ _ h => h) (fun W hW => exec_load_row _ _ U rfl 210 Z (0, 0) _ hW Tryz.underlying210 rfl HSZV.out) HUD ?_
    try simp only [Act.put, List.setIfInBounds_toArray, List.set_cons_zero, List.set_cons_succ]
    refine wpAnyP_ready [2] (by kernel_rfl) (by simp) ?_
    refine AllReadyP.cons (i := 2) (o := ⟨some 29, _, _, _, _, none⟩) rfl (fun K hK => ?_) ?_
    · go_simp
      refine (newPExc (w := w1.drew) (HGL.out.keep hkd (fun _ x => x.elim)) (n0 := w.heap.size + 1) HSZW.out (HE.out.eqv (Eqv.drew w1)) (endK_lt 16 s.rem)).mono ?_
      rintro e w4 ⟨v4, rfl, hv4, hk4⟩
      have hk4w : Keep (fun _ => False) w1 w4 := hkd.then hk4
      refine hK.out _ _ (fun _ => HUW.out _ hk4w) ?_
      clear hK K
      try simp only [Act.put, List.setIfInBounds_toArray, List.set_cons_zero, List.set_cons_succ]
      refine wpAnyP_ready [3] (by kernel_rfl) (by simp) ?_
      refine AllReadyP.cons (i := 3) (o := ⟨none, _, _, _, _, none⟩) rfl (fun K hK => ?_) ?_
      · refine step_store_row rfl 210 (.tmp 4) (.tmp 27) rfl U Z rfl rfl 210 Z (HUW.out _ hk4w) HSZV.out rfl HALL.out ?_
        refine hK.out _ _ (fun q => quiet_no q (by kernel_rfl)) ?_
        clear hK K
        try simp only [Act.put, List.setIfInBounds_toArray, List.set_cons_zero, List.set_cons_succ]
        refine wpAnyP_plain 4 (some 5) v4 rfl (by kernel_rfl) (by kernel_rfl) (by kernel_rfl) (by kernel_rfl) (fun _ _ _ h => h) (fun W => ?_) (fun q => quiet_no q (by kernel_rfl)) ?_
        · go_simp
        try simp only [Act.put, List.setIfInBounds_toArray, List.set_cons_zero, List.set_cons_succ]
        refine wpAnyP_done (by kernel_rfl) ?_ _
        go_wp2_with fail
        have hU9 : (w4.setRow U Z).heap[U]? = some (.cells Z 210 (0, 0)) := setRow_heap _ _ _ _ _ _ (HUW.out _ hk4w)
        have hl9 := run_loadVar_row (P := Tryz.prog) (w4.setRow U Z) U 210 210 Z (0, 0) _ hU9 Tryz.underlying210 rfl HSZV.out
        have hkr : Keep (fun i => U = i) w4 (w4.setRow U Z) := (Keep.refl _ w4).setRow U (fun _ => rfl) _
        have hUs := HUS.out
        have hkw4 : Keep (MB2 P B) w (w4.setRow U Z) := (HKW.out.then (hk4w.weak (fun _ _ x => x.elim))).trans hkr (fun i hi e => by omega)
        refine bodyPost_ret (v := .tuple #[.agg Z, v4]) (by simp [results, Tryz.results198, asAddr, hl9]) rfl ?_
        have hp9 := cmp_over HH.out (HP.out.fresh hk4w) (HKW.out.then (hk4w.weak (fun _ _ x => x.elim))) hkr (fun i _ x => x.elim .inl (fun y => .inr (.inl y))) (fun i e => .inl e) (fun i e => by omega) (fun i e x => by have := (HH.out.row.lt i e).2; omega)
        exact ⟨List.replicate 16 0, v4, _, by rw [HZb.out], by rw [← pk_endK]; exact (hv4.keep hkr (fun i hi e => by omega)).mono (Nat.le_succ _), hp9, hkw4, by simp, fun hh => absurd hh HL.out⟩
      · exact AllReadyP.nil
    · exact AllReadyP.nil
end
end Go.Proofs.YthehmlbolajljaaGreatDoor

namespace Go.Proofs.YthehmlbolajljaaGreatDoor
open Go Go.RowKit
structure Cmp.Ctx where
  E : Env
  P : Nat
  MB : Nat
  B : Nat
  D : Nat
  a : Option Addr
  c : Cfg
def Cmp.M (K : Cmp.Ctx) (w : World) : Nat → Prop := fun i => K.B = i ∨ K.P = i ∨ ∃ fv, w.cell? ⟨K.P, 3, none⟩ = some fv ∧ fv.ownBlock = some i
abbrev Cmp.At (K : Cmp.Ctx) (s : Cmp.St) (fv : Value) (sc : List UInt8) (w : World) : Prop := CmpP K.E K.P K.MB K.B K.D K.a K.c s fv sc w
structure Cmp.Inv (K : Cmp.Ctx) (s : Cmp.St) (w : World) : Prop where
  p : ∃ fv sc, Cmp.At K s fv sc w
  len : s.rem.length ≤ 140737488355328
def Cmp.Some (K : Cmp.Ctx) (w : World) : Prop := ∃ s fv sc, Cmp.At K s fv sc w
def Cmp.pr (K : Cmp.Ctx) : Pr Cmp.St := Cmp.prc K.c
theorem Cmp.ok (K : Cmp.Ctx) : (Cmp.pr K).Ok := Cmp.okc K.c
theorem Cmp.M_at {K : Cmp.Ctx} {s : Cmp.St} {fv : Value} {sc : List UInt8} {w : World} (h : Cmp.At K s fv sc w) (i : Nat) : Cmp.M K w i ↔ CM K.P K.B fv i := by
  obtain ⟨_, _, _, c3, _, _, _⟩ := h.cells
  unfold Cmp.M
  constructor
  · rintro (e | e | ⟨fv', e1, e2⟩)
    · exact .inl e
    · exact .inr (.inl e)
    · rw [c3] at e1
      cases e1
      exact .inr (.inr e2)
  · rintro (e | e | e)
    · exact .inl e
    · exact .inr (.inl e)
    · exact .inr (.inr ⟨fv, c3, e⟩)
structure Cmp.Post (K : Cmp.Ctx) (w w' : World) (k : Int) (ev : Value) (s : Cmp.St) : Prop where
  err : ErrAt K.E w.heap.size w' ev k
  inv : k = 0 → Cmp.Inv K s w'
  some : Cmp.Some K w'
  keep : Kpt (Cmp.M K) w w'
theorem Cmp.kpt {K : Cmp.Ctx} {s s' : Cmp.St} {fv fv' : Value} {sc sc' : List UInt8} {w w' : World} {N : Nat → Prop} (h : Cmp.At K s fv sc w) (h' : Cmp.At K s' fv' sc' w') (hk : Keep N w w') (hN : ∀ i, i < w.heap.size → N i → CM K.P K.B fv i) (hfv : ∀ i, fv'.ownBlock = some i → fv.ownBlock = some i ∨ w.heap.size ≤ i) : Kpt (Cmp.M K) w w' :=
  ⟨hk.weak (fun i hi x => (Cmp.M_at h i).2 (hN i hi x)), fun i hi x => (Cmp.M_at h i).2 (by
    rcases (Cmp.M_at h' i).1 x with e | e | e
    · exact .inl e
    · exact .inr (.inl e)
    · rcases hfv i e with y | y
      · exact .inr (.inr y)
      · omega)⟩
theorem Cmp.mkPost {K : Cmp.Ctx} {s s0 s' : Cmp.St} {fv fv' : Value} {sc sc' : List UInt8} {w w' : World} {N : Nat → Prop} {k : Int} {ev : Value} (h0 : Cmp.Inv K s0 w) (h : Cmp.At K s0 fv sc w) (h' : Cmp.At K s' fv' sc' w') (he : ErrAt K.E w.heap.size w' ev k) (hk : Keep N w w') (hN : ∀ i, i < w.heap.size → N i → CM K.P K.B fv i) (hfv : ∀ i, fv'.ownBlock = some i → fv.ownBlock = some i ∨ w.heap.size ≤ i)
    (hs : k = 0 → s' = s ∧ s'.rem.length ≤ s0.rem.length) : Cmp.Post K w w' k ev s :=
  ⟨he, fun hz => ⟨⟨fv', sc', (hs hz).1 ▸ h'⟩, (hs hz).1 ▸ Nat.le_trans (hs hz).2 h0.len⟩, ⟨s', fv', sc', h'⟩, Cmp.kpt h h' hk hN hfv⟩
theorem Cmp.Inv.fresh {K : Cmp.Ctx} {w w' : World} {s : Cmp.St} (h : Cmp.Inv K s w) (k : Keep (fun _ => False) w w') : Cmp.Inv K s w' := let ⟨fv, sc, hp⟩ := h.p; ⟨⟨fv, sc, hp.fresh k⟩, h.len⟩
theorem Cmp.Inv.some {K : Cmp.Ctx} {w : World} {s : Cmp.St} (h : Cmp.Inv K s w) : Cmp.Some K w := let ⟨fv, sc, hp⟩ := h.p; ⟨_, _, _, hp⟩
theorem Cmp.Some.fresh {K : Cmp.Ctx} {w w' : World} (h : Cmp.Some K w) (k : Keep (fun _ => False) w w') : Cmp.Some K w' := let ⟨s, fv, sc, hp⟩ := h; ⟨s, fv, sc, hp.fresh k⟩
theorem Cmp.Inv.glob {K : Cmp.Ctx} {w : World} {s : Cmp.St} (h : Cmp.Inv K s w) : Glob K.E w := let ⟨_, _, hp⟩ := h.p; hp.glob
theorem Cmp.kept_some {K : Cmp.Ctx} {w w' : World} (h : Cmp.Some K w) (k : Keep (fun _ => False) w w') : Kpt (Cmp.M K) w w' := by
  obtain ⟨s, fv, sc, hp⟩ := h
  exact Cmp.kpt hp (hp.fresh k) k (fun _ _ x => x.elim) (fun _ e => .inl e)
theorem Cmp.Post.then {K : Cmp.Ctx} {w w1 w2 : World} {k k1 : Int} {e1 ev : Value} {s1 s : Cmp.St} (h1 : Cmp.Post K w w1 k1 e1 s1) (h2 : Cmp.Post K w1 w2 k ev s) : Cmp.Post K w w2 k ev s :=
  ⟨h2.err.mono h1.keep.size, h2.inv, h2.some, h1.keep.then h2.keep⟩
theorem Cmp.Post.re {K : Cmp.Ctx} {w w1 : World} {k : Int} {ev : Value} {s s' : Cmp.St} (h : Cmp.Post K w w1 k ev s) (e : k = 0 → s = s') : Cmp.Post K w w1 k ev s' :=
  ⟨h.err, fun hz => e hz ▸ h.inv hz, h.some, h.keep⟩
section
variable {K : Cmp.Ctx} {s : Cmp.St} {w : World}
theorem Cmp.k2 : (Cmp.pr K).scK 2 s = if s.pend = true then 0 else endK 1 s.rem := by show Cmp.scK K.c 2 s = _; unfold Cmp.scK; rw [if_pos rfl]
theorem Cmp.k3 : (Cmp.pr K).scK 3 s = fullK 1 s.rem := by show Cmp.scK K.c 3 s = _; unfold Cmp.scK; rw [if_neg (by decide), if_pos rfl]
theorem Cmp.k6 : (Cmp.pr K).scK 6 s = pk (vK s.rem) := by show Cmp.scK K.c 6 s = _; unfold Cmp.scK; rw [if_neg (by decide), if_neg (by decide), if_pos (by decide)]
theorem Cmp.k8 : (Cmp.pr K).scK 8 s = pk (vK s.rem) := by show Cmp.scK K.c 8 s = _; unfold Cmp.scK; rw [if_neg (by decide), if_neg (by decide), if_pos (by decide)]
theorem Cmp.k10 : (Cmp.pr K).scK 10 s = pk (vK s.rem) := by show Cmp.scK K.c 10 s = _; unfold Cmp.scK; rw [if_neg (by decide), if_neg (by decide), if_pos (by decide)]
theorem Cmp.k4 : (Cmp.pr K).scK 4 s = fullK 8 s.rem := by show Cmp.scK K.c 4 s = _; unfold Cmp.scK; rw [if_neg (by decide), if_neg (by decide), if_neg (by decide), if_pos rfl]
theorem Cmp.k11 : (Cmp.pr K).scK 11 s = cstrK s.rem K.c := by show Cmp.scK K.c 11 s = _; unfold Cmp.scK; rw [if_neg (by decide), if_neg (by decide), if_neg (by decide), if_neg (by decide), if_pos rfl]
theorem Cmp.k16 : (Cmp.pr K).scK 16 s = fullK 16 s.rem := by show Cmp.scK K.c 16 s = _; unfold Cmp.scK; rw [if_neg (by decide), if_neg (by decide), if_neg (by decide), if_neg (by decide), if_neg (by decide)]
theorem Cmp.r2 : Cmp.scR 2 s = if s.pend = true then s.rem else s.rem.drop 1 := by unfold Cmp.scR; rw [if_pos rfl]
theorem Cmp.r3 : Cmp.scR 3 s = s.rem.drop 1 := by unfold Cmp.scR; rw [if_neg (by decide), if_pos rfl]
theorem Cmp.r6 : Cmp.scR 6 s = vR s.rem := by unfold Cmp.scR; rw [if_neg (by decide), if_neg (by decide), if_pos (by decide)]
theorem Cmp.r8 : Cmp.scR 8 s = vR s.rem := by unfold Cmp.scR; rw [if_neg (by decide), if_neg (by decide), if_pos (by decide)]
theorem Cmp.r10 : Cmp.scR 10 s = vR s.rem := by unfold Cmp.scR; rw [if_neg (by decide), if_neg (by decide), if_pos (by decide)]
theorem Cmp.r4 : Cmp.scR 4 s = s.rem.drop 8 := by unfold Cmp.scR; rw [if_neg (by decide), if_neg (by decide), if_neg (by decide), if_pos rfl]
theorem Cmp.r11 : Cmp.scR 11 s = cstrRem s.rem := by unfold Cmp.scR; rw [if_neg (by decide), if_neg (by decide), if_neg (by decide), if_neg (by decide), if_pos rfl]
theorem Cmp.r16 : Cmp.scR 16 s = s.rem.drop 16 := by unfold Cmp.scR; rw [if_neg (by decide), if_neg (by decide), if_neg (by decide), if_neg (by decide), if_neg (by decide)]
theorem Cmp.sS (t : Int) (ht : ¬ t = 2) : (Cmp.pr K).scS t s = s.at (Cmp.scR t s) := by
  show Cmp.scS t s = _
  unfold Cmp.scS
  rw [if_neg ht]
theorem Cmp.s2 : (Cmp.pr K).scS 2 s = { s with rem := if s.pend = true then s.rem else s.rem.drop 1, pend := false } := by
  show Cmp.scS 2 s = _
  unfold Cmp.scS
  rw [if_pos rfl, Cmp.r2]
theorem Cmp.n2 : (Cmp.pr K).scN 2 s = if s.pend = true then (if s.val = true then 1 else 0) else (match s.rem with | b :: _ => if (b == 1) = true then 1 else 0 | _ => 0) := by show Cmp.scN 2 s = _; unfold Cmp.scN; rw [if_pos rfl]; rfl
theorem Cmp.n3 : (Cmp.pr K).scN 3 s = match s.rem with | b :: _ => IntKind.i8.wrap b.toNat | _ => 0 := by show Cmp.scN 3 s = _; unfold Cmp.scN; rw [if_neg (by decide), if_pos rfl]; rfl
theorem Cmp.n6 : (Cmp.pr K).scN 6 s = IntKind.i16.wrap (z32 s.rem) := by show Cmp.scN 6 s = _; unfold Cmp.scN; rw [if_neg (by decide), if_neg (by decide), if_pos rfl]
theorem Cmp.n8 : (Cmp.pr K).scN 8 s = z32 s.rem := by show Cmp.scN 8 s = _; unfold Cmp.scN; rw [if_neg (by decide), if_neg (by decide), if_neg (by decide), if_pos rfl]
theorem Cmp.n10 : (Cmp.pr K).scN 10 s = z64 s.rem := by show Cmp.scN 10 s = _; unfold Cmp.scN; rw [if_neg (by decide), if_neg (by decide), if_neg (by decide), if_neg (by decide), if_pos rfl]
theorem Cmp.n4 : (Cmp.pr K).scN 4 s = wrap64 (Lib.leNat (s.rem.take 8)) := by show Cmp.scN 4 s = _; unfold Cmp.scN; rw [if_neg (by decide), if_neg (by decide), if_neg (by decide), if_neg (by decide), if_neg (by decide), if_pos rfl]
theorem Cmp.b11 : (Cmp.pr K).scB 11 s = cstrS s.rem := by show Cmp.scB 11 s = _; unfold Cmp.scB; rw [if_pos rfl]
theorem Cmp.b16 : (Cmp.pr K).scB 16 s = s.rem.take 16 := by show Cmp.scB 16 s = _; unfold Cmp.scB; rw [if_neg (by decide), if_pos rfl]
end
theorem MB2_CM {P B : Nat} {fv : Value} {n : Nat} : ∀ i, i < n → MB2 P B i → CM P B fv i := fun _ _ x => x.elim .inl (fun y => .inr (.inl y))
theorem B_CM {P B : Nat} {fv : Value} {n : Nat} : ∀ i, i < n → B = i → CM P B fv i := fun _ _ x => .inl x
section
variable {K : Cmp.Ctx} {s : Cmp.St} {w : World}
theorem Cmp.readBool (h : Cmp.Inv K s w) :
    Calls Tryz.prog 179 #[.pointer (some ⟨K.P, 0, none⟩), ctxV] w fun e w' => ∃ v ev, e = .returned (.tuple #[.bool v, ev]) ∧ Cmp.Post K w w' ((Cmp.pr K).scK 2 s) ev ((Cmp.pr K).scS 2 s) ∧ ((Cmp.pr K).scK 2 s = 0 → (if v = true then 1 else 0) = (Cmp.pr K).scN 2 s) := by
  obtain ⟨fv, sc, hp⟩ := h.p
  rw [Cmp.k2, Cmp.s2, Cmp.n2]
  refine (cmp_readBool hp).mono ?_
  rintro e w' ⟨v, ev, rfl, he, hp', hk, hv1, hv2⟩
  refine ⟨v, ev, rfl, Cmp.mkPost h hp hp' he hk MB2_CM (fun _ e => .inl e) (fun _ => ⟨rfl, ?_⟩), fun hz => ?_⟩
  · show (if s.pend = true then s.rem else s.rem.drop 1).length ≤ _
    split <;> simp
  · cases hpd : s.pend with
    | true => rw [if_pos rfl, hv1 hpd]
    | false =>
      rw [hpd] at hz
      cases hr : s.rem with
      | nil => rw [hr] at hz; simp [endK] at hz
      | cons b r => rw [hv2 hpd b r hr]; simp
theorem Cmp.readByte (h : Cmp.Inv K s w) :
    Calls Tryz.prog 180 #[.pointer (some ⟨K.P, 0, none⟩), ctxV] w fun e w' => ∃ n ev, e = .returned (.tuple #[.int .i8 n, ev]) ∧ Cmp.Post K w w' ((Cmp.pr K).scK 3 s) ev ((Cmp.pr K).scS 3 s) ∧ ((Cmp.pr K).scK 3 s = 0 → n = (Cmp.pr K).scN 3 s) ∧ -128 ≤ n ∧ n ≤ 127 := by
  obtain ⟨fv, sc, hp⟩ := h.p
  rw [Cmp.k3, Cmp.sS 3 (by decide), Cmp.r3, Cmp.n3]
  refine (cmp_readByte hp).mono ?_
  rintro e w' ⟨n, ev, rfl, he, hp', hk, hv, hb⟩
  refine ⟨n, ev, rfl, Cmp.mkPost h hp hp' he hk B_CM (fun _ e => .inl e) (fun _ => ⟨rfl, by simp⟩), fun hz => ?_, hb⟩
  cases hr : s.rem with
  | nil => rw [hr] at hz; simp [fullK] at hz
  | cons b r => exact hv b r hr
theorem Cmp.readI16 (h : Cmp.Inv K s w) :
    Calls Tryz.prog 184 #[.pointer (some ⟨K.P, 0, none⟩), ctxV] w fun e w' => ∃ n ev, e = .returned (.tuple #[.int .i16 n, ev]) ∧ Cmp.Post K w w' ((Cmp.pr K).scK 6 s) ev ((Cmp.pr K).scS 6 s) ∧ ((Cmp.pr K).scK 6 s = 0 → n = (Cmp.pr K).scN 6 s) ∧ -32768 ≤ n ∧ n ≤ 32767 := by
  obtain ⟨fv, sc, hp⟩ := h.p
  rw [Cmp.k6, Cmp.sS 6 (by decide), Cmp.r6, Cmp.n6]
  refine (cmp_readI16 hp).mono ?_
  rintro e w' ⟨n, ev, rfl, he, hp', hk, hv, hb⟩
  exact ⟨n, ev, rfl, Cmp.mkPost h hp hp' he hk B_CM (fun _ e => .inl e) (fun _ => ⟨rfl, vR_le _⟩), fun hz => hv (pk_zero_iff hz), hb⟩
theorem Cmp.readI32 (h : Cmp.Inv K s w) :
    Calls Tryz.prog 185 #[.pointer (some ⟨K.P, 0, none⟩), ctxV] w fun e w' => ∃ n ev, e = .returned (.tuple #[.int .i32 n, ev]) ∧ Cmp.Post K w w' ((Cmp.pr K).scK 8 s) ev ((Cmp.pr K).scS 8 s) ∧ ((Cmp.pr K).scK 8 s = 0 → n = (Cmp.pr K).scN 8 s) ∧ -2147483648 ≤ n ∧ n ≤ 2147483647 := by
  obtain ⟨fv, sc, hp⟩ := h.p
  rw [Cmp.k8, Cmp.sS 8 (by decide), Cmp.r8, Cmp.n8]
  refine (cmp_readI32 hp).mono ?_
  rintro e w' ⟨n, ev, rfl, he, hp', hk, hv, hb⟩
  exact ⟨n, ev, rfl, Cmp.mkPost h hp hp' he hk B_CM (fun _ e => .inl e) (fun _ => ⟨rfl, vR_le _⟩), fun hz => hv (pk_zero_iff hz), hb⟩
theorem Cmp.readI64 (h : Cmp.Inv K s w) :
    Calls Tryz.prog 186 #[.pointer (some ⟨K.P, 0, none⟩), ctxV] w fun e w' => ∃ n ev, e = .returned (.tuple #[.int .i64 n, ev]) ∧ Cmp.Post K w w' ((Cmp.pr K).scK 10 s) ev ((Cmp.pr K).scS 10 s) ∧ ((Cmp.pr K).scK 10 s = 0 → n = (Cmp.pr K).scN 10 s) ∧ -9223372036854775808 ≤ n ∧ n ≤ 9223372036854775807 := by
  obtain ⟨fv, sc, hp⟩ := h.p
  rw [Cmp.k10, Cmp.sS 10 (by decide), Cmp.r10, Cmp.n10]
  refine (cmp_readI64 hp).mono ?_
  rintro e w' ⟨n, ev, rfl, he, hp', hk, hv, hb⟩
  exact ⟨n, ev, rfl, Cmp.mkPost h hp hp' he hk B_CM (fun _ e => .inl e) (fun _ => ⟨rfl, vR_le _⟩), fun hz => hv (pk_zero_iff hz), hb⟩
theorem Cmp.readDouble (h : Cmp.Inv K s w) :
    Calls Tryz.prog 181 #[.pointer (some ⟨K.P, 0, none⟩), ctxV] w fun e w' => ∃ n ev, e = .returned (.tuple #[.float .f64 n, ev]) ∧ Cmp.Post K w w' ((Cmp.pr K).scK 4 s) ev ((Cmp.pr K).scS 4 s) ∧ n < 18446744073709551616 ∧ ((Cmp.pr K).scK 4 s = 0 → wrap64 n = (Cmp.pr K).scN 4 s) := by
  obtain ⟨fv, sc, hp⟩ := h.p
  rw [Cmp.k4, Cmp.sS 4 (by decide), Cmp.r4, Cmp.n4]
  refine (cmp_readDouble hp).mono ?_
  rintro e w' ⟨n, ev, sc', rfl, he, hp', hk, hb, hv⟩
  exact ⟨n, ev, rfl, Cmp.mkPost h hp hp' he hk MB2_CM (fun _ e => .inl e) (fun _ => ⟨rfl, by simp⟩), hb, fun hz => by rw [hv (fullK_len hz)]⟩
theorem Cmp.readUUID (h : Cmp.Inv K s w) :
    Calls Tryz.prog 198 #[.pointer (some ⟨K.P, 0, none⟩), ctxV] w fun e w' => ∃ l ev, e = .returned (.tuple #[.agg (bcells l).toArray, ev]) ∧ Cmp.Post K w w' ((Cmp.pr K).scK 16 s) ev ((Cmp.pr K).scS 16 s) ∧ l.length = 16 ∧ ((Cmp.pr K).scK 16 s = 0 → l = (Cmp.pr K).scB 16 s) := by
  obtain ⟨fv, sc, hp⟩ := h.p
  rw [Cmp.k16, Cmp.sS 16 (by decide), Cmp.r16, Cmp.b16]
  refine (cmp_readUUID hp).mono ?_
  rintro e w' ⟨l, ev, sc', rfl, he, hp', hk, hb, hv⟩
  exact ⟨l, ev, rfl, Cmp.mkPost h hp hp' he hk MB2_CM (fun _ e => .inl e) (fun _ => ⟨rfl, by simp⟩), hb, fun hz => hv (fullK_len hz)⟩
theorem Cmp.readString (h : Cmp.Inv K s w) :
    Calls Tryz.prog 195 #[.pointer (some ⟨K.P, 0, none⟩), ctxV] w fun e w' => ∃ l ev, e = .returned (.tuple #[.string l, ev]) ∧ Cmp.Post K w w' ((Cmp.pr K).scK 11 s) ev ((Cmp.pr K).scS 11 s) ∧ ((Cmp.pr K).scK 11 s = 0 → l = ⟨((Cmp.pr K).scB 11 s).toArray⟩) := by
  obtain ⟨fv, sc, hp⟩ := h.p
  rw [Cmp.k11, Cmp.sS 11 (by decide), Cmp.r11, Cmp.b11]
  refine (cmp_readString hp).mono ?_
  rintro e w' ⟨l, ev, r', sc', rfl, he, hp', hl, hk, hv⟩
  exact ⟨l, ev, rfl, Cmp.mkPost h hp hp' he hk MB2_CM (fun _ e => .inl e) (fun hz => ⟨by rw [(hv hz).2], hl⟩), fun hz => (hv hz).1⟩
theorem Cmp.readFieldBegin (h : Cmp.Inv K s w) :
    Calls Tryz.prog 182 #[.pointer (some ⟨K.P, 0, none⟩), ctxV] w fun e w' => ∃ l t id ev, e = .returned (.tuple #[.string l, .int .u8 t, .int .i16 id, ev]) ∧ Cmp.Post K w w' ((Cmp.pr K).fK s) ev ((Cmp.pr K).fS s) ∧ ((Cmp.pr K).fK s = 0 → t = (Cmp.pr K).fT s ∧ id = (Cmp.pr K).fI s) := by
  obtain ⟨fv, sc, hp⟩ := h.p
  refine (cmp_fieldBegin hp).mono ?_
  rintro e w' ⟨t, id, ev, s', rfl, he, hp', hl, hk, hv⟩
  exact ⟨_, t, id, ev, rfl, Cmp.mkPost h hp hp' he hk MB2_CM (fun _ e => .inl e) (fun hz => ⟨(hv hz).2.2, hl⟩), fun hz => ⟨(hv hz).1, (hv hz).2.1⟩⟩
theorem Cmp.readMapBegin (h : Cmp.Inv K s w) :
    Calls Tryz.prog 189 #[.pointer (some ⟨K.P, 0, none⟩), ctxV] w fun e w' => ∃ kt t n ev, e = .returned (.tuple #[.int .u8 kt, .int .u8 t, .int .i64 n, ev]) ∧ Cmp.Post K w w' ((Cmp.pr K).mK s) ev ((Cmp.pr K).mS s) ∧ ((Cmp.pr K).mK s = 0 → kt = (Cmp.pr K).mKT s ∧ t = (Cmp.pr K).mT s ∧ n = (Cmp.pr K).mN s) := by
  obtain ⟨fv, sc, hp⟩ := h.p
  refine (cmp_mapBegin hp h.len).mono ?_
  rintro e w' ⟨kt, t, n, ev, s', rfl, he, hp', hl, hk, hv⟩
  exact ⟨kt, t, n, ev, rfl, Cmp.mkPost h hp hp' he hk MB2_CM (fun _ e => .inl e) (fun hz => ⟨(hv hz).2.2.2, hl⟩), fun hz => ⟨(hv hz).1, (hv hz).2.1, (hv hz).2.2.1⟩⟩
theorem Cmp.readListBegin (h : Cmp.Inv K s w) :
    Calls Tryz.prog 187 #[.pointer (some ⟨K.P, 0, none⟩), ctxV] w fun e w' => ∃ t n ev, e = .returned (.tuple #[.int .u8 t, .int .i64 n, ev]) ∧ Cmp.Post K w w' ((Cmp.pr K).lK s) ev ((Cmp.pr K).lS s) ∧ ((Cmp.pr K).lK s = 0 → t = (Cmp.pr K).lT s ∧ n = (Cmp.pr K).lN s) := by
  obtain ⟨fv, sc, hp⟩ := h.p
  refine (cmp_listBegin hp h.len).mono ?_
  rintro e w' ⟨t, n, ev, s', rfl, he, hp', hl, hk, hv⟩
  exact ⟨t, n, ev, rfl, Cmp.mkPost h hp hp' he hk MB2_CM (fun _ e => .inl e) (fun hz => ⟨(hv hz).2.2, hl⟩), fun hz => ⟨(hv hz).1, (hv hz).2.1⟩⟩
theorem Cmp.readSetBegin (h : Cmp.Inv K s w) :
    Calls Tryz.prog 193 #[.pointer (some ⟨K.P, 0, none⟩), ctxV] w fun e w' => ∃ t n ev, e = .returned (.tuple #[.int .u8 t, .int .i64 n, ev]) ∧ Cmp.Post K w w' ((Cmp.pr K).lK s) ev ((Cmp.pr K).lS s) ∧ ((Cmp.pr K).lK s = 0 → t = (Cmp.pr K).lT s ∧ n = (Cmp.pr K).lN s) := by
  obtain ⟨fv, sc, hp⟩ := h.p
  refine (cmp_setBegin hp h.len).mono ?_
  rintro e w' ⟨t, n, ev, s', rfl, he, hp', hl, hk, hv⟩
  exact ⟨t, n, ev, rfl, Cmp.mkPost h hp hp' he hk MB2_CM (fun _ e => .inl e) (fun hz => ⟨(hv hz).2.2, hl⟩), fun hz => ⟨(hv hz).1, (hv hz).2.1⟩⟩
theorem Cmp.nothing (h : Cmp.Inv K s w) : Cmp.Post K w w 0 .nilIface s := ⟨ErrAt.nil _ _ _, fun _ => h, h.some, Kpt.refl _ _⟩
theorem Cmp.readStructBegin (h : Cmp.Inv K s w) (hd : (Cmp.pr K).dep s < 1099511627776) :
    Calls Tryz.prog 196 #[.pointer (some ⟨K.P, 0, none⟩), ctxV] w fun e w' => ∃ l, e = .returned (.tuple #[.string l, .nilIface]) ∧ Cmp.Post K w w' 0 .nilIface ((Cmp.pr K).sbS s) := by
  obtain ⟨fv, sc, hp⟩ := h.p
  refine (cmp_structBegin hp hd).mono ?_
  rintro e w' ⟨fv', rfl, hp', hk, hfv⟩
  exact ⟨_, rfl, Cmp.mkPost h hp hp' (ErrAt.nil _ _ _) hk (fun _ _ x => x.elim (fun y => .inr (.inl y)) (fun y => .inr (.inr y))) hfv (fun _ => ⟨rfl, Nat.le_refl _⟩)⟩
theorem Cmp.readStructEnd (h : Cmp.Inv K s w) (hd : (Cmp.pr K).one ≤ (Cmp.pr K).dep s) :
    Calls Tryz.prog 197 #[.pointer (some ⟨K.P, 0, none⟩), ctxV] w fun e w' => e = .returned .nilIface ∧ Cmp.Post K w w' 0 .nilIface ((Cmp.pr K).seS s) := by
  obtain ⟨fv, sc, hp⟩ := h.p
  refine (cmp_structEnd hp hd).mono ?_
  rintro e w' ⟨fv', rfl, hp', hk, hfv⟩
  exact ⟨rfl, Cmp.mkPost h hp hp' (ErrAt.nil _ _ _) hk (fun _ _ x => .inr (.inl x)) (fun i e => .inl (hfv i e)) (fun _ => ⟨rfl, Nat.le_refl _⟩)⟩
theorem Cmp.readFieldEnd (h : Cmp.Inv K s w) :
    Calls Tryz.prog 183 #[.pointer (some ⟨K.P, 0, none⟩), ctxV] w fun e w' => e = .returned .nilIface ∧ Cmp.Post K w w' 0 .nilIface ((Cmp.pr K).feS s) := by
  refine (cmp_fieldEnd _ _ _).mono ?_
  rintro e w' ⟨rfl, rfl⟩
  exact ⟨rfl, Cmp.nothing h⟩
theorem Cmp.readMapEnd (h : Cmp.Inv K s w) :
    Calls Tryz.prog 190 #[.pointer (some ⟨K.P, 0, none⟩), ctxV] w fun e w' => e = .returned .nilIface ∧ Cmp.Post K w w' 0 .nilIface ((Cmp.pr K).meS s) := by
  refine (cmp_mapEnd _ _ _).mono ?_
  rintro e w' ⟨rfl, rfl⟩
  exact ⟨rfl, Cmp.nothing h⟩
theorem Cmp.readListEnd (h : Cmp.Inv K s w) :
    Calls Tryz.prog 188 #[.pointer (some ⟨K.P, 0, none⟩), ctxV] w fun e w' => e = .returned .nilIface ∧ Cmp.Post K w w' 0 .nilIface ((Cmp.pr K).leS s) := by
  refine (cmp_listEnd _ _ _).mono ?_
  rintro e w' ⟨rfl, rfl⟩
  exact ⟨rfl, Cmp.nothing h⟩
theorem Cmp.readSetEnd (h : Cmp.Inv K s w) :
    Calls Tryz.prog 194 #[.pointer (some ⟨K.P, 0, none⟩), ctxV] w fun e w' => e = .returned .nilIface ∧ Cmp.Post K w w' 0 .nilIface ((Cmp.pr K).leS s) := by
  refine (cmp_setEnd _ _ _).mono ?_
  rintro e w' ⟨rfl, rfl⟩
  exact ⟨rfl, Cmp.nothing h⟩
end
abbrev Cmp.V (K : Cmp.Ctx) : Value := .iface 132 (.pointer (some ⟨K.P, 0, none⟩))
end Go.Proofs.YthehmlbolajljaaGreatDoor

namespace Go.Proofs.YthehmlbolajljaaGreatDoor
open Go Go.RowKit
theorem Cmp.at_lt {K : Cmp.Ctx} {s : Cmp.St} {fv : Value} {sc : List UInt8} {w : World} (h : Cmp.At K s fv sc w) : ∀ i, Cmp.M K w i → i < w.heap.size := by
  intro i hi
  have hl := h.mem.lts
  have hP := h.ltP
  rcases (Cmp.M_at h i).1 hi with e | e | e
  · omega
  · omega
  · exact (h.row.lt i e).2
theorem Cmp.M_lt {K : Cmp.Ctx} {s : Cmp.St} {w : World} (h : Cmp.Inv K s w) : ∀ i, Cmp.M K w i → i < w.heap.size := by
  obtain ⟨_, _, hp⟩ := h.p
  exact Cmp.at_lt hp
theorem Cmp.M_new {K : Cmp.Ctx} {s : Cmp.St} {w w1 : World} (h : Cmp.Inv K s w) (k : Keep (fun _ => False) w w1) : ∀ i, Cmp.M K w1 i → i < w.heap.size := by
  obtain ⟨_, _, hp⟩ := h.p
  exact fun i hi => Cmp.at_lt hp i ((Cmp.M_at hp i).2 ((Cmp.M_at (hp.fresh k) i).1 hi))
theorem Cmp.Some.lt {K : Cmp.Ctx} {w : World} (h : Cmp.Some K w) : ∀ i, Cmp.M K w i → i < w.heap.size := by
  obtain ⟨s, _, _, h⟩ := h
  exact Cmp.at_lt h
theorem Cmp.kept {K : Cmp.Ctx} {s : Cmp.St} {w w1 : World} (h : Cmp.Inv K s w) (k : Keep (fun _ => False) w w1) : Kpt (Cmp.M K) w w1 := Cmp.kept_some h.some k
theorem Cmp.b2 (K : Cmp.Ctx) (s : Cmp.St) : (Cmp.pr K).scB 2 s = [] := by simp [Cmp.pr, Cmp.prc, Cmp.scB]
theorem Cmp.b3 (K : Cmp.Ctx) (s : Cmp.St) : (Cmp.pr K).scB 3 s = [] := by simp [Cmp.pr, Cmp.prc, Cmp.scB]
theorem Cmp.b4 (K : Cmp.Ctx) (s : Cmp.St) : (Cmp.pr K).scB 4 s = [] := by simp [Cmp.pr, Cmp.prc, Cmp.scB]
theorem Cmp.b6 (K : Cmp.Ctx) (s : Cmp.St) : (Cmp.pr K).scB 6 s = [] := by simp [Cmp.pr, Cmp.prc, Cmp.scB]
theorem Cmp.b8 (K : Cmp.Ctx) (s : Cmp.St) : (Cmp.pr K).scB 8 s = [] := by simp [Cmp.pr, Cmp.prc, Cmp.scB]
theorem Cmp.n11 (K : Cmp.Ctx) (s : Cmp.St) : (Cmp.pr K).scN 11 s = 0 := by simp [Cmp.pr, Cmp.prc, Cmp.scN]
theorem Cmp.n16 (K : Cmp.Ctx) (s : Cmp.St) : (Cmp.pr K).scN 16 s = 0 := by simp [Cmp.pr, Cmp.prc, Cmp.scN]
theorem Cmp.b_le {K : Cmp.Ctx} {s : Cmp.St} {w : World} (h : Cmp.Inv K s w) (t : Int) : ((Cmp.pr K).scB t s).length ≤ 140737488355328 := by
  have hl := h.len
  have hv := vR_le s.rem
  show (Cmp.scB t s).length ≤ _
  unfold Cmp.scB
  split
  · simp [cstrS]; omega
  · split
    · simp; omega
    · simp
theorem Cmp.lT_bd (K : Cmp.Ctx) (s : Cmp.St) : 0 ≤ (Cmp.pr K).lT s ∧ (Cmp.pr K).lT s ≤ 255 := by
  show 0 ≤ Cmp.lT s ∧ Cmp.lT s ≤ 255
  unfold Cmp.lT
  split
  · omega
  · rename_i b r _
    have := cty_bd (b.toNat % 16)
    omega
theorem Cmp.lT_w (K : Cmp.Ctx) (s : Cmp.St) : wrap64 ((Cmp.pr K).lT s) = (Cmp.pr K).lT s := by
  have h := Cmp.lT_bd K s
  generalize (Cmp.pr K).lT s = x at h ⊢
  simp only [wrap64]
  omega
theorem Cmp.fT_bd (K : Cmp.Ctx) (s : Cmp.St) : 0 ≤ (Cmp.pr K).fT s ∧ (Cmp.pr K).fT s ≤ 255 := by
  show 0 ≤ Cmp.fT s ∧ Cmp.fT s ≤ 255
  unfold Cmp.fT
  split
  · omega
  · rename_i b r _
    have := cty_bd (b.toNat % 16)
    split <;> omega
theorem Cmp.mT_bd (K : Cmp.Ctx) (s : Cmp.St) : (0 ≤ (Cmp.pr K).mT s ∧ (Cmp.pr K).mT s ≤ 255) ∧ 0 ≤ (Cmp.pr K).mKT s ∧ (Cmp.pr K).mKT s ≤ 255 := by
  show (0 ≤ Cmp.mT s ∧ Cmp.mT s ≤ 255) ∧ 0 ≤ Cmp.mKT s ∧ Cmp.mKT s ≤ 255
  unfold Cmp.mT Cmp.mKT
  split
  · omega
  · split
    · omega
    · rename_i b r _
      have := cty_bd (b.toNat % 16)
      have := cty_bd (b.toNat / 16)
      omega
theorem Cmp.over1 {K : Cmp.Ctx} {s s' : Cmp.St} {fv' : Value} {sc' : List UInt8} {w w2 w3 : World} {N : Nat → Prop} (h : Cmp.Inv K s w) (h2 : Cmp.At K s' fv' sc' w2) (k2 : Kpt (Cmp.M K) w w2) (k : Keep N w2 w3) (hN : ∀ i, N i → w.heap.size ≤ i) (hF : ∀ i, N i → ¬ Cmp.M K w2 i) :
    Cmp.At K s' fv' sc' w3 ∧ Kpt (Cmp.M K) w w3 ∧ ∀ i, Cmp.M K w3 i → Cmp.M K w2 i := by
  obtain ⟨fv, sc, hp⟩ := h.p
  have h3 : Cmp.At K s' fv' sc' w3 := cmp_over hp h2 k2.keep k (fun i _ x => (Cmp.M_at hp i).1 x) (fun i e => by
    by_cases hi : i < w.heap.size
    · rcases (Cmp.M_at hp i).1 (k2.grow i hi ((Cmp.M_at h2 i).2 (.inr (.inr e)))) with x | x | x
      · exact absurd x.symm (h2.rowB i e).2.2.1
      · exact absurd x.symm (h2.rowB i e).1
      · exact .inl x
    · exact .inr (by omega)) hN (fun i e x => hF i x ((Cmp.M_at h2 i).2 (.inr (.inr e))))
  have hm : ∀ i, Cmp.M K w3 i → Cmp.M K w2 i := fun i x => (Cmp.M_at h2 i).2 ((Cmp.M_at h3 i).1 x)
  exact ⟨h3, ⟨k2.keep.trans k (fun i hi x => absurd (hN i x) (by omega)), fun i hi x => k2.grow i hi (hm i x)⟩, hm⟩
theorem Cmp.turn {K : Cmp.Ctx} {s s' : Cmp.St} {w w2 w3 : World} {N : Nat → Prop} (h : Cmp.Inv K s w) (k2 : Kpt (Cmp.M K) w w2) (i2 : Cmp.Inv K s' w2) (hk : Keep N w2 w3) (hN : ∀ i, N i → w.heap.size ≤ i ∧ ¬ Cmp.M K w2 i) :
    Cmp.Inv K s' w3 ∧ Kpt (Cmp.M K) w w3 ∧ ∀ i, Cmp.M K w3 i → Cmp.M K w2 i := by
  obtain ⟨fv, sc, hp⟩ := i2.p
  obtain ⟨h3, hk3, hm⟩ := Cmp.over1 h hp k2 hk (fun i x => (hN i x).1) (fun i x => (hN i x).2)
  exact ⟨⟨⟨_, _, h3⟩, i2.len⟩, hk3, hm⟩
theorem Cmp.thru {K : Cmp.Ctx} {s s1 s' : Cmp.St} {w w1 w2 w3 : World} {k : Int} {ev : Value} {N : Nat → Prop} (h : Cmp.Inv K s w) (k1 : Kpt (Cmp.M K) w w1) (_ : Cmp.Inv K s1 w1) (hp : Cmp.Post K w1 w2 k ev s') (hk : Keep N w2 w3) (hN : ∀ i, N i → w.heap.size ≤ i ∧ i < w1.heap.size ∧ ¬ Cmp.M K w1 i) :
    Cmp.Post K w w3 k ev s' ∧ ∀ i, Cmp.M K w3 i → Cmp.M K w2 i := by
  have k02 : Kpt (Cmp.M K) w w2 := k1.then hp.keep
  have hF : ∀ i, N i → ¬ Cmp.M K w2 i := fun i x m => (hN i x).2.2 (hp.keep.grow i (hN i x).2.1 m)
  obtain ⟨s2, fv2, sc2, h2⟩ := hp.some
  obtain ⟨h3, hk3, hm⟩ := Cmp.over1 h h2 k02 hk (fun i x => (hN i x).1) hF
  exact ⟨⟨(hp.err.keep hk (fun i hi x => by have := (hN i x).2; omega)).mono k1.size, fun hz => (Cmp.turn h k02 (hp.inv hz) hk (fun i x => ⟨(hN i x).1, hF i x⟩)).1, ⟨_, _, _, h3⟩, hk3⟩, hm⟩
theorem Cmp.through {K : Cmp.Ctx} {s s' : Cmp.St} {w w1 w2 w3 : World} {k : Int} {ev : Value} {N : Nat → Prop} (h : Cmp.Inv K s w) (hk0 : Keep (fun _ => False) w w1) (hp : Cmp.Post K w1 w2 k ev s') (hk : Keep N w2 w3) (hN : ∀ i, N i → w.heap.size ≤ i ∧ i < w1.heap.size) : Cmp.Post K w w3 k ev s' :=
  (Cmp.thru h (Cmp.kept h hk0) (h.fresh hk0) hp hk (fun i x => ⟨(hN i x).1, (hN i x).2, fun m => by have := Cmp.M_new h hk0 i m; have := (hN i x).1; omega⟩)).1
theorem Cmp.through_M {K : Cmp.Ctx} {s s' : Cmp.St} {w w1 w2 w3 : World} {k : Int} {ev : Value} {N : Nat → Prop} (h : Cmp.Inv K s w) (hk0 : Keep (fun _ => False) w w1) (hp : Cmp.Post K w1 w2 k ev s') (hk : Keep N w2 w3) (hN : ∀ i, N i → w.heap.size ≤ i ∧ i < w1.heap.size) : ∀ i, Cmp.M K w3 i → Cmp.M K w2 i :=
  (Cmp.thru h (Cmp.kept h hk0) (h.fresh hk0) hp hk (fun i x => ⟨(hN i x).1, (hN i x).2, fun m => by have := Cmp.M_new h hk0 i m; have := (hN i x).1; omega⟩)).2
end Go.Proofs.YthehmlbolajljaaGreatDoor

namespace Go.Proofs.YthehmlbolajljaaGreatDoor
open Go Go.RowKit
theorem i16_wrap_bd (n : Int) : -32768 ≤ IntKind.i16.wrap n ∧ IntKind.i16.wrap n ≤ 32767 := by
  have e : IntKind.i16.wrap n = if n % 65536 ≥ 32768 then n % 65536 - 65536 else n % 65536 := by
    simp [IntKind.wrap, IntKind.bits, IntKind.signed]
  rw [e]
  split <;> omega
theorem Cmp.fI_bd (K : Cmp.Ctx) (s : Cmp.St) : -32768 ≤ (Cmp.pr K).fI s ∧ (Cmp.pr K).fI s ≤ 32767 := by
  show -32768 ≤ Cmp.fI s ∧ Cmp.fI s ≤ 32767
  unfold Cmp.fI
  split
  · omega
  · split
    · omega
    · split
      · exact i16_wrap_bd _
      · exact i16_wrap_bd _
end Go.Proofs.YthehmlbolajljaaGreatDoor
