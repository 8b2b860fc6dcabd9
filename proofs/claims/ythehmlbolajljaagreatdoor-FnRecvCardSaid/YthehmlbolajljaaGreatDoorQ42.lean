/- Part 42 of the proof: Rc2, Rc4, Rc5, Rc3, Rc6. -/
import Derived.Test.YthehmlbolajljaaGreatDoorQ23
import Derived.Test.YthehmlbolajljaaGreatDoorQ41
import Derived.Test.YthehmlbolajljaaGreatDoorQ28
import Derived.Test.YthehmlbolajljaaGreatDoorQ20
import Derived.Test.YthehmlbolajljaaGreatDoorQ39
import Derived.Test.YthehmlbolajljaaGreatDoorQ15
import Derived.Test.YthehmlbolajljaaGreatDoorQ21
import Derived.Deep.RegionWith
import Derived.Deep.Cut
import Derived.Deep.CutBlock
import Derived.Deep.RegionHeld3
set_option linter.unusedVariables false
set_option linter.unusedSimpArgs false
set_option linter.unusedSectionVars false
set_option maxHeartbeats 16000000
namespace Go.Proofs.YthehmlbolajljaaGreatDoor
open Go Go.RowKit
theorem wrap32_bd (x : Int) : -2147483648 ≤ wrap32 x ∧ wrap32 x ≤ 2147483647 := by
 simp only [wrap32]
 omega
theorem flt_q {σ : Type} (p : Pr σ) : ∀ n s a, (-2147483648 ≤ a.2 ∧ a.2 ≤ 2147483647) → -2147483648 ≤ (flt p n s a).2.2.2 ∧ (flt p n s a).2.2.2 ≤ 2147483647 := by
 intro n
 induction n with
 | zero => intro s a h; exact h
 | succ n ih =>
  intro s a h
  simp only [flt]
  split
  ·split
   ·exact h
   ·split
    ·split
     ·exact ih _ _ h
     ·exact h
    ·split
     ·split
      ·exact ih _ _ (wrap32_bd _)
      ·exact h
     ·split
      ·exact ih _ _ h
      ·exact h
  ·exact h
theorem Sk.of0 {k x : Int} (h : Sk 0 x) (hx : x ≠ 0) : Sk k x := by
 rcases h with h | ⟨_, h, _⟩ | h
 ·exact .inl h
 ·exact absurd rfl h
 ·exact absurd h hx
def Rdr.ExcP {σ : Type} (r : Rdr σ) (R : Int × σ × (List UInt8 × Int)) (w : World) (e : Ending) (w' : World) : Prop :=
 ∃ va vm vc x s2, e = .returned (.tuple #[.agg sVal, .slice va vm vc, .int .i64 x]) ∧ r.Inv s2 w' ∧ Kpt r.M w w' ∧ x ≠ 0 ∧
  ((vm = 0 ∧ Sk R.1 x) ∨ (R.1 = 0 ∧ x = faultK R.2.2.2 ∧ s2 = R.2.1 ∧ BytesAt (w.heap.size ≤ ·) w' (.slice va vm vc) (fltTxt R.2.2)))
theorem faultK_ne (q : Int) : faultK q ≠ 0 := by unfold faultK; repeat (first | omega | split)
set_option maxRecDepth 100000 in
theorem Rdr.exception {σ : Type} {r : Rdr σ} (ok : r.Ok) (lt : (∀ t s, r.pr.scK t s < 50) ∧ (∀ s, r.pr.fK s < 50) ∧ (∀ s, r.pr.mK s < 50) ∧ ∀ s, r.pr.lK s < 50) (s : σ) (w : World) (hR : r.Inv s w) (hroom : r.pr.Room s)
  (hend : ∀ s w, r.Inv s w → r.Step 1 w (r.GP w 0 s 0 0 0 0 0 [])) (R : Int × σ × (List UInt8 × Int)) (hq : flt r.pr (r.pr.len (r.pr.sbS s) + 1) (r.pr.sbS s) ([], 0) = R) :
  Calls Tryz.prog 74 #[.pointer (some ⟨r.R, 0, none⟩)] w (r.ExcP R w) := by
 have hq32 := flt_q r.pr (r.pr.len (r.pr.sbS s) + 1) (r.pr.sbS s) ([], 0) (by decide)
 rw [hq] at hq32
 have HQ := hdd hq
 have HQ32 := hdd hq32
 clear hq hq32
 have hk0 : Keep (fun _ => False) w (w.alloc (.cells sVal 34 (0, 0))) := (Keep.refl _ w).alloc _
 have hR0 := heap_alloc_new w (.cells sVal 34 (0, 0))
 have hs0 : (w.alloc (.cells sVal 34 (0, 0))).heap.size = w.heap.size + 1 := by simp
 go_enter Tryz.func74, Tryz.ntmps74
 go_wp2_with fail
 have hmn := ok.new hR hk0
 have hi1 := ok.fresh hR hk0
 have hkp0 := ok.kept hR hk0
 obtain ⟨n0, hn⟩ : ∃ n0, w.heap.size = n0 := ⟨_, rfl⟩
 rw [hn] at hR0 hs0 hmn ⊢
 generalize w.alloc (.cells sVal 34 (0, 0)) = w1 at *
 have HN := hdd hn
 have HS0 := hdd hs0
 clear hs0
 refine (Rdr.gets ok 30 30 12 s w1 rfl (by decide) (by decide) hi1 hroom).mono ?_
 rintro e w2 ⟨T, N, Sa, Sm, Sc, KT, E', Ia, Im, Ic, La, Lm, Lc, x, rfl, hx, ⟨s2, h2, hr2⟩, hk2, hval⟩
 obtain ⟨f1, f2⟩ := fault_agree r.pr lt.1 lt.2.1 lt.2.2.1 lt.2.2.2 28 (by decide) s R HQ.out x hx
 have HF1 := hdd f1
 have HF2 := hdd f2
 have HR2 := hdd ((hk2.block n0 (lt_of_heap hR0) (hmn _ (by omega))).trans hR0)
 have HNR2 := hdd (hk2.not (i := n0) (lt_of_heap hR0) (hmn _ (by omega)))
 have HK2 := hdd (hkp0.then hk2)
 have HSR := hdd hr2
 have HVAL := hdd hval
 have HS12 := hdd hk2.size
 clear hx f1 f2 hn hmn hkp0 hR0 hr2 hval hk2
 have hk5 : Keep (fun _ => False) w2 (w2.alloc (.cells (valC T N (.slice Sa Sm Sc) KT E' (.slice Ia Im Ic) (.slice La Lm Lc)) 34 (0, 0))) := (Keep.refl _ w2).alloc _
 have hV5 := heap_alloc_new w2 (.cells (valC T N (.slice Sa Sm Sc) KT E' (.slice Ia Im Ic) (.slice La Lm Lc)) 34 (0, 0))
 go_wp2_with fail
 obtain ⟨V, hV⟩ : ∃ V, w2.heap.size = V := ⟨_, rfl⟩
 rw [hV] at hV5 ⊢
 generalize w2.alloc (.cells (valC T N (.slice Sa Sm Sc) KT E' (.slice Ia Im Ic) (.slice La Lm Lc)) 34 (0, 0)) = w5 at *
 have hm5 : ∀ i, r.M w5 i → r.M w2 i := (ok.turn h2 hk5 (fun _ x => x.elim)).2
 have hV2 : n0 < V := by have := lt_of_heap HR2.out; omega
 have HV5 := hdd hV5
 have HM5 := hdd hm5
 have HVN := hdd hV2
 have HNV : Hid (¬ r.M w5 V) := hdd (fun y => by have := ok.lt h2 _ (hm5 _ y); omega)
 have H5 := hdd (ok.fresh h2 hk5)
 have HK5 := hdd (HK2.out.then (ok.kept h2 hk5))
 have HR5 := hdd ((hk5.block n0 (lt_of_heap HR2.out) id).trans HR2.out)
 have HNR5 : Hid (¬ r.M w5 n0) := hdd (fun y => HNR2.out (hm5 _ y))
 have HKA := hdd hk5
 clear hV5 hk5 hV hm5 hV2
 refine (spec_own x w5).mono ?_
 rintro e w6 ⟨rfl, rfl⟩
 by_cases ho : x = 50 ∨ x = 51 ∨ x = 52
 ·have hob : (x == 50 || x == 51 || x == 52) = true := by simp; omega
  rw [hob]
  obtain ⟨r0, r1, r2, r3, r4, r5, r6⟩ := got_cells HR5.out
  obtain ⟨z0, z1, z2, z3, z4, z5, z6⟩ := got_free HR5.out
  go_wp2_with fail
  have hR9 := sval_set HR5.out (.int .i64 0) (.int .i64 0) nilB (.int .i64 0) (.int .i64 0) (.slice none 0 0) (.slice none 0 0)
  have hk9 := sval_keep (M := fun i => n0 = i) (Keep.refl _ w5) (R := n0) (fun _ => rfl) (.int .i64 0) (.int .i64 0) nilB (.int .i64 0) (.int .i64 0) (.slice none 0 0) (.slice none 0 0)
  refine ret_cell3 (U := n0) (T := 34) Tryz.results74 rfl rfl rfl rfl hR9 Tryz.underlying34 sval_size ?_
  obtain ⟨h9, hm9⟩ := ok.turn H5.out hk9 (fun i e => by subst e; exact HNR5.out)
  have hn0 := HN.out
  exact ⟨none, 0, 0, -2, s2, rfl, h9, HK5.out.turned hk9 (fun i e => by omega) hm9, by decide, .inl ⟨rfl, .inl rfl⟩⟩
 ·have hob : (x == 50 || x == 51 || x == 52) = false := by simp; omega
  rw [hob]
  by_cases hz : x = 0
  ·subst hz
   obtain ⟨ids, ls, e1, e2, e3⟩ := HF1.out rfl
   have hs2 := HSR.out rfl
   have HV := hdd (((HVAL.out rfl).keep HKA.out (fun _ _ => id)))
   rw [e1] at HV
   have HE2 := hdd e2
   have HE3 := hdd e3
   have HS2 := hdd hs2
   have hst : Calls _ _ _ _ _ := hend _ w5 H5.out
   clear e1 e2 e3 hs2
   go_wp2_with fail
   refine hst.mono ?_
   rintro e w8 ⟨x8, t8, k8, z8, i8, N8, S8, rfl, ⟨a8, q8, c8, rfl⟩, hx8, ⟨s8, h8, hr8⟩, hk8, hv8⟩
   have HX8 := hdd hx8
   have HR8 := hdd ((hk8.block n0 (lt_of_heap HR5.out) HNR5.out).trans HR5.out)
   have HNR8 := hdd (hk8.not (i := n0) (lt_of_heap HR5.out) HNR5.out)
   have HV8 := hdd ((hk8.block V (lt_of_heap HV5.out) HNV.out).trans HV5.out)
   have HVA := hdd (HV.out.keep hk8.keep (fun i y y2 => y.2 (HM5.out _ y2)))
   have HK8 := hdd (HK5.out.then hk8)
   have HSR8 := hdd hr8
   have hf := got_field0 x8 t8 k8 z8 i8 N8 (.slice a8 q8 c8)
   obtain ⟨r0, r1, r2, r3, r4, r5, r6⟩ := got_cells HR8.out
   obtain ⟨z0, z1, z2, z3, z4, z5, z6⟩ := got_free HR8.out
   obtain ⟨v0, v1, v2, v3, v4, v5, v6⟩ := got_cells HV8.out
   clear hx8 hr8 hk8 hv8 hst
   by_cases hz8 : x8 = 0
   ·subst hz8
    have hss := HSR8.out rfl
    have HSS := hdd hss
    clear hss
    go_wp2_with fail
    refine (spec_ofFault _ ids ls w8 HVA.out HE2.out).mono ?_
    rintro e w6 ⟨q, ta, tm, tc, rfl, hq, hb, hk6⟩
    have HB := hdd hb
    have HQE := hdd hq
    have HK6 := hdd hk6
    have h32 : -2147483648 ≤ q ∧ q ≤ 2147483647 := by have := HQ32.out; rw [HE3.out] at this; rw [hq]; exact this
    clear hb hq hk6 r0 r1 r2 r3 r4 r5 r6 z0 z1 z2 z3 z4 z5 z6 v0 v1 v2 v3 v4 v5 v6
    go_wp2_with fail
    refine (spec_faultText q _ _ w6 HB.out).mono ?_
    rintro e w7 ⟨va, vm, vc, rfl, hb7, hk7⟩
    have HB7 := hdd hb7
    have HK7 := hdd (HK6.out.then hk7)
    have HSZ := hdd HK6.out.size
    clear hb7
    go_wp2_with fail
    refine (faultKind_at q h32.1 h32.2 w7).mono ?_
    rintro e w9 ⟨rfl, rfl⟩
    have HR7 := hdd ((HK7.out.block n0 (lt_of_heap HR8.out) id).trans HR8.out)
    have hm7 : ∀ i, r.M w7 i → r.M w8 i := (ok.turn h8 HK7.out (fun _ x => x.elim)).2
    have HM7 := hdd hm7
    obtain ⟨r0, r1, r2, r3, r4, r5, r6⟩ := got_cells HR7.out
    obtain ⟨z0, z1, z2, z3, z4, z5, z6⟩ := got_free HR7.out
    clear hm7
    go_wp2_with fail
    have hR9 := sval_set HR7.out (.int .i64 0) (.int .i64 0) nilB (.int .i64 0) (.int .i64 0) (.slice none 0 0) (.slice none 0 0)
    have hk9 := sval_keep (M := fun i => n0 = i) (Keep.refl _ w7) (R := n0) (fun _ => rfl) (.int .i64 0) (.int .i64 0) nilB (.int .i64 0) (.int .i64 0) (.slice none 0 0) (.slice none 0 0)
    refine ret_cell3 (U := n0) (T := 34) Tryz.results74 rfl rfl rfl rfl hR9 Tryz.underlying34 sval_size ?_
    obtain ⟨h9, hm9⟩ := ok.turn (ok.fresh h8 HK7.out) hk9 (fun i e y => by subst e; exact HNR8.out (HM7.out _ y))
    have hn0 := HN.out
    have hs0 := HS0.out
    have hs12 := HS12.out
    have hb9 := HB7.out
    rw [HQE.out] at hb9
    have hqE : q = R.2.2.2 := by rw [HQE.out, HE3.out]
    refine ⟨va, vm, vc, _, s8, rfl, h9, (HK8.out.then (ok.kept h8 HK7.out)).turned hk9 (fun i e => by omega) hm9, faultK_ne q, .inr ⟨by rw [HE3.out], by rw [hqE], by rw [HSS.out, HS2.out, HE3.out], ?_⟩⟩
    have hvn := HVN.out
    have hv8 := lt_of_heap HV8.out
    have hsz := HSZ.out
    rw [HE3.out]
    exact ((hb9.weak (A' := fun i => n0 + 1 ≤ i) (fun i _ y => by rcases y with y | y; have := y.1; omega; omega)).keep hk9 (fun i y e => by omega)).weak (fun i _ y => by omega)
   ·have hzb : (x8 != 0) = true := by simpa using hz8
    have HZ := hdd hz8
    go_wp2_with fail
    have hR9 := sval_set HR8.out (.int .i64 0) (.int .i64 0) nilB (.int .i64 0) (.int .i64 0) (.slice none 0 0) (.slice none 0 0)
    have hk9 := sval_keep (M := fun i => n0 = i) (Keep.refl _ w8) (R := n0) (fun _ => rfl) (.int .i64 0) (.int .i64 0) nilB (.int .i64 0) (.int .i64 0) (.slice none 0 0) (.slice none 0 0)
    refine ret_cell3 (U := n0) (T := 34) Tryz.results74 rfl rfl rfl rfl hR9 Tryz.underlying34 sval_size ?_
    obtain ⟨h9, hm9⟩ := ok.turn h8 hk9 (fun i e => by subst e; exact HNR8.out)
    have hn0 := HN.out
    exact ⟨none, 0, 0, x8, s8, rfl, h9, HK8.out.turned hk9 (fun i e => by omega) hm9, HZ.out, .inl ⟨rfl, Sk.of0 HX8.out HZ.out⟩⟩
  ·have hzb : (x != 0) = true := by simpa using hz
   have HZ := hdd hz
   have HO := hdd ho
   obtain ⟨r0, r1, r2, r3, r4, r5, r6⟩ := got_cells HR5.out
   obtain ⟨z0, z1, z2, z3, z4, z5, z6⟩ := got_free HR5.out
   go_wp2_with fail
   have hR9 := sval_set HR5.out (.int .i64 0) (.int .i64 0) nilB (.int .i64 0) (.int .i64 0) (.slice none 0 0) (.slice none 0 0)
   have hk9 := sval_keep (M := fun i => n0 = i) (Keep.refl _ w5) (R := n0) (fun _ => rfl) (.int .i64 0) (.int .i64 0) nilB (.int .i64 0) (.int .i64 0) (.slice none 0 0) (.slice none 0 0)
   refine ret_cell3 (U := n0) (T := 34) Tryz.results74 rfl rfl rfl rfl hR9 Tryz.underlying34 sval_size ?_
   obtain ⟨h9, hm9⟩ := ok.turn H5.out hk9 (fun i e => by subst e; exact HNR5.out)
   have hn0 := HN.out
   exact ⟨none, 0, 0, x, s2, rfl, h9, HK5.out.turned hk9 (fun i e => by omega) hm9, HZ.out, .inl ⟨rfl, HF2.out HO.out⟩⟩
abbrev bodyC (T N : Int) (S : Value) (K E : Int) (I L : Value) (deep : Int) : Array Value := #[.int .i64 T, .int .i64 N, S, .int .i64 K, .int .i64 E, I, L, .int .i64 deep]
theorem cells8 {w : World} {U : Nat} {v0 v1 v2 v3 v4 v5 v6 v7 : Value} {T : TypeId} (h : w.heap[U]? = some (.cells #[v0, v1, v2, v3, v4, v5, v6, v7] T (0, 0))) :
  w.cell? ⟨U, 0, none⟩ = some v0 ∧ w.cell? ⟨U, 1, none⟩ = some v1 ∧ w.cell? ⟨U, 2, none⟩ = some v2 ∧ w.cell? ⟨U, 3, none⟩ = some v3 ∧ w.cell? ⟨U, 4, none⟩ = some v4 ∧ w.cell? ⟨U, 5, none⟩ = some v5 ∧ w.cell? ⟨U, 6, none⟩ = some v6 ∧ w.cell? ⟨U, 7, none⟩ = some v7 := by
 refine ⟨?_, ?_, ?_, ?_, ?_, ?_, ?_, ?_⟩ <;> simp [cellAt h]
theorem body_set {w : World} {U : Nat} {v0 v1 v2 v3 v4 v5 v6 v7 : Value} {T : TypeId} (h : w.heap[U]? = some (.cells #[v0, v1, v2, v3, v4, v5, v6, v7] T (0, 0))) (x0 x1 x2 x3 x4 x5 x6 : Value) :
  (((((((w.setCell ⟨U, 0, none⟩ x0).setCell ⟨U, 1, none⟩ x1).setCell ⟨U, 2, none⟩ x2).setCell ⟨U, 3, none⟩ x3).setCell ⟨U, 4, none⟩ x4).setCell ⟨U, 5, none⟩ x5).setCell ⟨U, 6, none⟩ x6).heap[U]? = some (.cells #[x0, x1, x2, x3, x4, x5, x6, v7] T (0, 0)) := by
 have h0 := heap_set_same (i := 0) h x0
 have h1 := heap_set_same (i := 1) h0 x1
 have h2 := heap_set_same (i := 2) h1 x2
 have h3 := heap_set_same (i := 3) h2 x3
 have h4 := heap_set_same (i := 4) h3 x4
 have h5 := heap_set_same (i := 5) h4 x5
 have h6 := heap_set_same (i := 6) h5 x6
 simpa using h6
def Rp.BodyP {St : Type} (K : Rp.Ctx St) (XB : Nat) (deep : Int) (q : Int × St × _root_.Go.Proofs.YthehmlbolajljaaGreatDoor.V) (w : World) (e : Ending) (w' : World) : Prop :=
 ∃ T N Sa Sm Sc KT E Ia Im Ic La Lm Lc ev w1, e = .returned ev ∧ Rp.Post K w w1 q.1 ev q.2.1 ∧ Keep (fun i => XB = i) w1 w' ∧ w'.heap[XB]? = some (.cells (bodyC T N (.slice Sa Sm Sc) KT E (.slice Ia Im Ic) (.slice La Lm Lc) deep) 114 (0, 0)) ∧
  (q.1 = 0 → ValAt deep.toNat (fun i => w.heap.size ≤ i) w' (valC T N (.slice Sa Sm Sc) KT E (.slice Ia Im Ic) (.slice La Lm Lc)).toList q.2.2)
set_option maxRecDepth 100000 in
theorem Rp.body_read {St : Type} (K : Rp.Ctx St) (XB : Nat) (deep : Int) (hd0 : -9223372036854775808 ≤ deep) (hd1 : deep ≤ 9223372036854775807) (s : St) (w : World) (h : K.Inv s w) (hroom : K.pr.Room s) {T0 N0 K0 E0 : Int} {S0 I0 L0 : Value}
  (hX : w.heap[XB]? = some (.cells (bodyC T0 N0 S0 K0 E0 I0 L0 deep) 114 (0, 0))) (hnX : ¬ K.M w XB) (q : Int × St × _root_.Go.Proofs.YthehmlbolajljaaGreatDoor.V) (hq : gt K.pr deep.toNat 12 s = q) :
  Calls Tryz.prog 176 #[.pointer (some ⟨XB, 0, none⟩), ctxV, K.V] w (Rp.BodyP K XB deep q w) := by
 have hget := Rp.gets K deep.toNat deep 12 s w rfl hd0 hd1 (by decide) (by decide) h hroom
 rw [hq] at hget
 obtain ⟨x0, x1, x2, x3, x4, x5, x6, x7⟩ := cells8 hX
 have HX := hdd hX
 have HNX := hdd hnX
 clear hq hX hnX x0 x1 x2 x3 x4 x5 x6
 go_enter Tryz.func176, Tryz.ntmps176
 go_wp2_with fail
 refine hget.mono ?_
 rintro e w1 ⟨T, N, Sa, Sm, Sc, KT, E, Ia, Im, Ic, La, Lm, Lc, ev, rfl, hp, hval⟩
 have hX1 := (hp.keep.block XB (lt_of_heap HX.out) HNX.out).trans HX.out
 have HP := hdd hp
 have HVAL := hdd hval
 have HX1 := hdd hX1
 clear hp hval hX1 hget x7
 have hk2 : Keep (fun _ => False) w1 (w1.alloc (.cells (valC T N (.slice Sa Sm Sc) KT E (.slice Ia Im Ic) (.slice La Lm Lc)) 29 (0, 0))) := (Keep.refl _ w1).alloc _
 have hV2 := heap_alloc_new w1 (.cells (valC T N (.slice Sa Sm Sc) KT E (.slice Ia Im Ic) (.slice La Lm Lc)) 29 (0, 0))
 obtain ⟨w2, hW2⟩ : ∃ w2, w1.alloc (.cells #[.int .i64 T, .int .i64 N, .slice Sa Sm Sc, .int .i64 KT, .int .i64 E, .slice Ia Im Ic, .slice La Lm Lc] 29 (0, 0)) = w2 := ⟨_, rfl⟩
 obtain ⟨V, hV⟩ : ∃ V, w1.heap.size = V := ⟨_, rfl⟩
 have hk2 : Keep (fun _ => False) w1 w2 := hW2 ▸ hk2
 have hV2 : w2.heap[V]? = some (.cells (valC T N (.slice Sa Sm Sc) KT E (.slice Ia Im Ic) (.slice La Lm Lc)) 29 (0, 0)) := hV ▸ hW2 ▸ hV2
 have hX2 := (hk2.block XB (lt_of_heap HX1.out) (fun x => x)).trans HX1.out
 obtain ⟨c0, c1, c2, c3, c4, c5, c6⟩ := got_cells hV2
 obtain ⟨x0, x1, x2, x3, x4, x5, x6, x7⟩ := cells8 hX2
 obtain ⟨z0, z1, z2, z3, z4, z5, z6⟩ := got_free hX2
 have HX2 := hdd hX2
 have HK2 := hdd hk2
 have HNV : Hid (XB < V) := hdd (by have := lt_of_heap HX1.out; omega)
 clear hX2 hk2 hV2
 go_wp2_with fail
 go_ret
 have hk3 := sval_keep (M := fun i => XB = i) (HK2.out.weak (fun _ _ x => x.elim)) (R := XB) (fun _ => rfl) (.int .i64 T) (.int .i64 N) (.slice Sa Sm Sc) (.int .i64 KT) (.int .i64 E) (.slice Ia Im Ic) (.slice La Lm Lc)
 refine ⟨T, N, Sa, Sm, Sc, KT, E, Ia, Im, Ic, La, Lm, Lc, ev, w1, rfl, HP.out, hk3, body_set HX2.out _ _ _ _ _ _ _, fun hz => ?_⟩
 have hx := lt_of_heap HX.out
 exact ((HVAL.out hz).keep hk3 (fun i y e => by have := y.1; omega)).weak (fun i _ y => y.1)
def Rp.RcvP {St : Type} (K : Rp.Ctx St) (XB : Nat) (deep : Int) (T : Int × St × List UInt8 × _root_.Go.Proofs.YthehmlbolajljaaGreatDoor.V) (w : World) (e : Ending) (w' : World) : Prop :=
 ∃ ty N Sa Sm Sc KT E Ia Im Ic La Lm Lc ev w1 k1 ev1, e = .returned ev ∧ Rp.Post K w w1 k1 ev1 T.2.1 ∧ ((T.1 = 0 ∨ T.2.2.1 ≠ []) → k1 = 0) ∧ Keep (fun i => XB = i) w1 w' ∧ RErr K.E w.heap.size w' ev T.1 T.2.2.1 ∧
  w'.heap[XB]? = some (.cells (bodyC ty N (.slice Sa Sm Sc) KT E (.slice Ia Im Ic) (.slice La Lm Lc) deep) 114 (0, 0)) ∧ (T.1 = 0 → ValAt deep.toNat (fun i => w.heap.size ≤ i) w' (valC ty N (.slice Sa Sm Sc) KT E (.slice Ia Im Ic) (.slice La Lm Lc)).toList T.2.2.2)
theorem toL (a : ByteArray) : a.toList = a.data.toList := ByteArray.toList_eq a
theorem fltTxt_app (m : List UInt8) (x : ByteArray) (q : Int) (h : x.data.toList ≠ []) : fltTxt (m ++ x.data.toList, q) = m ++ x.data.toList := by
 unfold fltTxt
 rw [if_neg (by simp [h])]
theorem made_exc {E : Env} {w w1 w' : World} {mb x : ByteArray} {q : Int} (hq : -2147483648 ≤ q ∧ q ≤ 2147483647) (hx : x.data.toList ≠ []) (hsz : mb.size + x.size ≤ 140737488355328) (hs : w.heap.size ≤ w1.heap.size) (hw : w1.alloc (.cells (excC (mb ++ x) q .nilIface) 191 (0, 0)) = w') :
  RErr E w.heap.size w' (excV w1.heap.size) (faultK q) (mb.data.toList ++ x.data.toList) := by
 subst hw
 refine .inr ⟨(mb.data.toList ++ x.data.toList, q), ⟨w1.heap.size, rfl, hs, ?_, ?_, hq.1, hq.2⟩, rfl, (fltTxt_app _ _ _ hx).symm⟩
 ·have e : (⟨(mb.data.toList ++ x.data.toList).toArray⟩ : ByteArray) = mb ++ x := by
   apply ByteArray.ext
   simp [ByteArray.data_append]
  show _ = some (Obj.cells (excC ⟨(mb.data.toList ++ x.data.toList).toArray⟩ q .nilIface) _ _)
  rw [e]
  exact heap_alloc_new w1 _
 ·show (mb.data.toList ++ x.data.toList).length ≤ _
  have h1 : mb.data.toList.length = mb.size := by simp
  have h2 : x.data.toList.length = x.size := by simp
  rw [List.length_append]
  omega
set_option maxRecDepth 100000 in
theorem Rp.recv {St : Type} (K : Rp.Ctx St) {gK : St → Int} {gS : St → St} {gT gN : St → Int} {gB : St → List UInt8} {fb fe : FuncId} (hmsg : Rp.Msg K gK gS gT gN gB fb fe) (cv : Value) (seq : Int) (mb : ByteArray) (hmb : mb.size ≤ 1099511627776) (XB : Nat) (deep : Int) (hd0 : -9223372036854775808 ≤ deep) (hd1 : deep ≤ 9223372036854775807)
  (s : St) (w : World) (h : K.Inv s w) (hroom : K.pr.Room (gS s)) (hX : w.heap[XB]? = some (.cells (bodyC 0 0 nilB 0 0 nilB nilB deep) 114 (0, 0))) (hnX : ¬ K.M w XB)
  (T : Int × St × List UInt8 × _root_.Go.Proofs.YthehmlbolajljaaGreatDoor.V) (hT : rcvR K.pr (gK s) (gT s) (gN s) (gB s) (gS s) seq mb.data.toList deep.toNat = T) :
  Calls Tryz.prog 46 #[cv, ctxV, K.V, .int .i32 seq, .string mb, .iface 112 (.pointer (some ⟨XB, 0, none⟩))] w (Rp.RcvP K XB deep T w) := by
 obtain ⟨hbm, hbn, hbc⟩ := hmsg.mb
 obtain ⟨hem, hen, hec⟩ := hmsg.me
 have hrd : Rp.Meth 112 XB "Read" 176 := ⟨fun w => by kernel_rfl, fun w => by kernel_rfl, fun args w => by kernel_rfl⟩
 obtain ⟨hrm, hrn, hrc⟩ := hrd
 have HT := hdd hT
 have HX := hdd hX
 have HNX := hdd hnX
 have HRM := hdd hroom
 have HMB := hdd hmb
 have HMSG := hdd hmsg
 have hn1 : ¬ mb.size + 19 > 9223372036854775807 := by omega
 have hn2 : ¬ mb.size + 32 > 9223372036854775807 := by omega
 have hn3 : ¬ mb.size + 22 > 9223372036854775807 := by omega
 clear hT hX hnX hroom hmb
 go_enter Tryz.func46, Tryz.ntmps46
 go_wp2_with fail
 refine (hmsg.rb h).mono ?_
 rintro e w1 ⟨l', t, q', ev, rfl, hp, hv⟩
 have HX1 := hdd ((hp.keep.block XB (lt_of_heap HX.out) HNX.out).trans HX.out)
 have HNX1 := hdd (hp.keep.not (lt_of_heap HX.out) HNX.out)
 have HSZ := hdd hp.keep.size
 clear hmsg
 by_cases hz : gK s = 0
 ·have hev : ev = .nilIface := by have := hp.err; rw [hz] at this; exact this.isNil
  subst hev
  obtain ⟨hl1, ht1, hq1⟩ := hv hz
  have HZ := hdd hz
  have hp0 : Rp.Post K w w1 0 .nilIface (gS s) := by rw [hz] at hp; exact hp
  have HP := hdd hp0
  have HTT := hdd ht1
  have HQQ := hdd hq1
  have HL1 := hdd hl1
  clear hv hz hp hp0 ht1 hq1 hl1
  by_cases hb : gB s = mb.data.toList
  ·have hl2 : l' = mb := by rw [HL1.out, hb]
   subst hl2
   have hbb : (l'.toList == l'.toList) = true := by simp
   by_cases hsq : q' = seq
   ·subst hsq
    have hT1 : (if gT s = 3 then excR (flt K.pr (K.pr.len (K.pr.sbS (gS s)) + 1) (K.pr.sbS (gS s)) ([], 0)) else if gT s = 2 then ((gt K.pr deep.toNat 12 (gS s)).1, (gt K.pr deep.toNat 12 (gS s)).2.1, [], (gt K.pr deep.toNat 12 (gS s)).2.2) else (32, gS s, l'.data.toList ++ wType.data.toList, V.zero)) = T := by
     rw [← HT.out, rcvR, if_pos HZ.out, if_pos hb, if_pos HQQ.out.symm]
    rw [← HTT.out] at hT1
    have HT1 := hdd hT1
    clear hT1 hb
    by_cases h3 : t = 3
    ·subst h3
     have HT2 := HT1.out
     rw [if_pos rfl] at HT2
     obtain ⟨R, hRe⟩ : ∃ R, flt K.pr (K.pr.len (K.pr.sbS (gS s)) + 1) (K.pr.sbS (gS s)) ([], 0) = R := ⟨_, rfl⟩
     rw [hRe] at HT2
     have HT2 := hdd HT2
     have HRE := hdd hRe
     clear hRe
     have hk2 : Keep (fun _ => False) w1 (w1.alloc (.cells (excC ⟨#[]⟩ 0 .nilIface) 191 (0, 0))) := (Keep.refl _ w1).alloc _
     have hP2 := heap_alloc_new w1 (.cells (excC ⟨#[]⟩ 0 .nilIface) 191 (0, 0))
     go_wp2_with fail
     obtain ⟨PX, hPX⟩ : ∃ PX, w1.heap.size = PX := ⟨_, rfl⟩
     rw [hPX] at hP2 ⊢
     generalize w1.alloc (.cells (excC ⟨#[]⟩ 0 .nilIface) 191 (0, 0)) = w2 at *
     have hI1 := HP.out.inv rfl
     have hnP : ¬ K.M w2 PX := fun y => by have := Rp.M_new hI1 hk2 _ y; omega
     have HK2 := hdd hk2
     have HP2 := hdd hP2
     have HNP := hdd hnP
     have HPX := hdd hPX
     clear hk2 hPX hnP
     refine (Rp.fault_read K PX ⟨#[]⟩ 0 .nilIface (by decide) (gS s) w2 (hI1.fresh HK2.out) HRM.out hP2 HNP.out R HRE.out).mono ?_
     rintro e w4 ⟨ev, w3, mm, qq, rfl, hpost, hk34, hP4, hqq, hres⟩
     have hthru := K.thru h (HP.out.keep.then (Rp.kept hI1 HK2.out)) (hI1.fresh HK2.out) hpost hk34 (fun i e => by subst e; exact ⟨by have := HSZ.out; have := HPX.out; omega, lt_of_heap HP2.out, HNP.out⟩)
     have hX2 := (HK2.out.block XB (lt_of_heap HX1.out) (fun x => x)).trans HX1.out
     have hnX2 : ¬ K.M w2 XB := (Rp.kept hI1 HK2.out).not (lt_of_heap HX1.out) HNX1.out
     have hX3 := (hpost.keep.block XB (lt_of_heap hX2) hnX2).trans hX2
     have hX4 := (hk34.block XB (lt_of_heap hX3) (fun e => by have := lt_of_heap HX1.out; have := HPX.out; omega)).trans hX3
     have HTH := hdd hthru.1
     have HP4 := hdd hP4
     have HX4 := hdd hX4
     have HRES := hdd hres
     have HQB := hdd hqq
     by_cases hR0 : R.1 = 0
     ·have hev : ev = .nilIface := by have := hpost.err; rw [hR0] at this; exact this.isNil
      subst hev
      have HR0 := hdd hR0
      clear hpost hk34 hP4 hqq hres hthru hX2 hnX2 hX3 hX4 hR0
      go_wp2_with fail
      refine (HMSG.out.re _ _ _).mono ?_
      rintro e w5 ⟨rfl, rfl⟩
      go_wp2_with fail
      go_ret
      have hth := HTH.out
      rw [HR0.out] at hth
      obtain ⟨e1, e2⟩ := HRES.out HR0.out
      have hTe : T = (faultK R.2.2.2, R.2.1, fltTxt R.2.2, V.zero) := by rw [← HT2.out, excR, if_pos HR0.out]
      refine ⟨0, 0, none, 0, 0, 0, 0, none, 0, 0, none, 0, 0, _, w4, 0, .nilIface, rfl, by rw [hTe]; exact hth, fun _ => rfl, Keep.refl _ _, ?_, HX4.out, fun hz => ?_⟩
      ·rw [hTe]
       refine .inr ⟨R.2.2, ⟨PX, rfl, by have := HSZ.out; have := HPX.out; omega, by rw [HP4.out, e1, e2], ?_, by rw [← e2]; exact HQB.out.1⟩, rfl, rfl⟩
       have := HQB.out.2
       rw [e1] at this
       have h5 : (R.2.2.1.toArray).size ≤ 140737488355328 := this
       simpa using h5
      ·rw [hTe] at hz
       exact absurd hz (faultK_ne _)
     ·obtain ⟨ty, vx, rfl⟩ := hpost.err.held hR0
      have HR0 := hdd hR0
      clear hpost hk34 hP4 hqq hres hthru hX2 hnX2 hX3 hX4 hR0
      go_wp2_with fail
      go_ret
      have hTe : T = (R.1, R.2.1, [], V.zero) := by rw [← HT2.out, excR, if_neg HR0.out]
      refine ⟨0, 0, none, 0, 0, 0, 0, none, 0, 0, none, 0, 0, _, w4, R.1, _, rfl, by rw [hTe]; exact HTH.out, fun hh => ?_, Keep.refl _ _, ?_, HX4.out, fun hz => ?_⟩
      ·rw [hTe] at hh
       rcases hh with hh | hh
       ·exact hh
       ·exact absurd rfl hh
      ·rw [hTe]
       exact .inl ⟨HTH.out.err, rfl⟩
      ·rw [hTe] at hz
       exact absurd hz HR0.out
    ·have h3b : (t == 3) = false := by simpa using h3
     by_cases h2 : t = 2
     ·subst h2
      have HT2 := HT1.out
      rw [if_neg (by decide), if_pos rfl] at HT2
      have HT2 := hdd HT2
      obtain ⟨q, hqe⟩ : ∃ q, gt K.pr deep.toNat 12 (gS s) = q := ⟨_, rfl⟩
      have HQE := hdd hqe
      clear hqe
      have hbody := Rp.body_read K XB deep hd0 hd1 (gS s) w1 (HP.out.inv rfl) HRM.out HX1.out HNX1.out q HQE.out
      go_wp2_with fail
      refine hbody.mono ?_
      rintro e w3 ⟨ty, N, Sa, Sm, Sc, KT, E', Ia, Im, Ic, La, Lm, Lc, ev, w2, rfl, hpost, hk23, hX3, hval⟩
      have hTe : T = (q.1, q.2.1, [], q.2.2) := by rw [← HT2.out, HQE.out]
      have HP2 := hdd (HP.out.then hpost)
      have HK23 := hdd hk23
      have HX3 := hdd hX3
      have HVAL := hdd hval
      have HTE := hdd hTe
      by_cases hq0 : q.1 = 0
      ·have hev : ev = .nilIface := by have := hpost.err; rw [hq0] at this; exact this.isNil
       subst hev
       have HQ0 := hdd hq0
       clear hpost hk23 hX3 hval hTe hq0 hbody
       go_wp2_with fail
       refine (HMSG.out.re _ _ _).mono ?_
       rintro e w5 ⟨rfl, rfl⟩
       go_wp2_with fail
       go_ret
       refine ⟨ty, N, Sa, Sm, Sc, KT, E', Ia, Im, Ic, La, Lm, Lc, _, w2, q.1, .nilIface, rfl, by rw [HTE.out]; exact HP2.out, fun _ => HQ0.out, HK23.out, ?_, HX3.out, fun _ => ?_⟩
       ·rw [HTE.out, HQ0.out]
        exact .inl ⟨ErrAt.nil _ _ _, rfl⟩
       ·rw [HTE.out]
        exact (HVAL.out HQ0.out).weak (fun i _ y => Nat.le_trans HSZ.out y)
      ·obtain ⟨tyx, vx, rfl⟩ := hpost.err.held hq0
       have HQ0 := hdd hq0
       clear hpost hk23 hX3 hval hTe hq0 hbody
       go_wp2_with fail
       go_ret
       refine ⟨ty, N, Sa, Sm, Sc, KT, E', Ia, Im, Ic, La, Lm, Lc, _, w2, q.1, _, rfl, by rw [HTE.out]; exact HP2.out, fun hh => ?_, HK23.out, ?_, HX3.out, fun hz => ?_⟩
       ·rw [HTE.out] at hh
        rcases hh with hh | hh
        ·exact hh
        ·exact absurd rfl hh
       ·rw [HTE.out]
        exact .inl ⟨HP2.out.err.keep HK23.out (fun i y e => by have := lt_of_heap HX.out; omega), rfl⟩
       ·rw [HTE.out] at hz
        exact absurd hz HQ0.out
     ·have h2b : (t != 2) = true := by simpa using h2
      have HT2 := HT1.out
      rw [if_neg h3, if_neg h2] at HT2
      have HT2 := hdd HT2
      go_wp2_with fail
      refine (newExc_at _ 2 w1).mono ?_
      rintro e w3 ⟨rfl, hw3⟩
      have HW3 := hdd hw3
      have hk3 : Keep (fun i => XB = i) w1 w3 := hw3 ▸ ((Keep.refl _ w1).alloc _)
      have HK3 := hdd hk3
      clear hw3 hk3
      go_wp2_with fail
      go_ret
      have hX3 := (HK3.out.weak (N := fun i => XB = i) (M := fun i => XB = i) (fun _ _ x => x))
      refine ⟨0, 0, none, 0, 0, 0, 0, none, 0, 0, none, 0, 0, _, w1, 0, .nilIface, rfl, by rw [← HT2.out]; exact HP.out, fun _ => rfl, HK3.out, ?_, ?_, fun hz => ?_⟩
      ·rw [← HT2.out]
       exact made_exc (q := 2) (by decide) (by decide) (by have := HMB.out; show l'.size + 22 ≤ _; omega) HSZ.out HW3.out
      ·rw [← HW3.out]
       exact (((Keep.refl (fun _ => False) w1).alloc _).block XB (lt_of_heap HX1.out) (fun x => x)).trans HX1.out
      ·rw [← HT2.out] at hz
       exact absurd hz (by show ¬ (32 : Int) = 0; decide)
   ·have hsb : (seq != q') = true := by simpa using fun e : seq = q' => hsq e.symm
    have HT2 : Hid ((34, gS s, l'.data.toList ++ wSeq.data.toList, V.zero) = T) := hdd (by rw [← HT.out, rcvR, if_pos HZ.out, if_pos hb, if_neg (by rw [← HQQ.out]; exact hsq)])
    go_wp2_with fail
    refine (newExc_at _ 4 w1).mono ?_
    rintro e w3 ⟨rfl, hw3⟩
    have HW3 := hdd hw3
    have hk3 : Keep (fun i => XB = i) w1 w3 := hw3 ▸ ((Keep.refl _ w1).alloc _)
    have HK3 := hdd hk3
    clear hw3 hk3
    go_wp2_with fail
    go_ret
    refine ⟨0, 0, none, 0, 0, 0, 0, none, 0, 0, none, 0, 0, _, w1, 0, .nilIface, rfl, by rw [← HT2.out]; exact HP.out, fun _ => rfl, HK3.out, ?_, ?_, fun hz => ?_⟩
    ·rw [← HT2.out]
     exact made_exc (q := 4) (by decide) (by decide) (by have := HMB.out; show l'.size + 32 ≤ _; omega) HSZ.out HW3.out
    ·rw [← HW3.out]
     exact (((Keep.refl (fun _ => False) w1).alloc _).block XB (lt_of_heap HX1.out) (fun x => x)).trans HX1.out
    ·rw [← HT2.out] at hz
     exact absurd hz (by show ¬ (34 : Int) = 0; decide)
  ·have hbb : (mb.toList == l'.toList) = false := by
    rw [toL, toL, HL1.out]
    simpa using fun e : mb.data.toList = gB s => hb e.symm
   have HT2 : Hid ((33, gS s, mb.data.toList ++ wName.data.toList, V.zero) = T) := hdd (by rw [← HT.out, rcvR, if_pos HZ.out, if_neg hb])
   go_wp2_with fail
   refine (newExc_at _ 3 w1).mono ?_
   rintro e w3 ⟨rfl, hw3⟩
   have HW3 := hdd hw3
   have hk3 : Keep (fun i => XB = i) w1 w3 := hw3 ▸ ((Keep.refl _ w1).alloc _)
   have HK3 := hdd hk3
   clear hw3 hk3
   go_wp2_with fail
   go_ret
   refine ⟨0, 0, none, 0, 0, 0, 0, none, 0, 0, none, 0, 0, _, w1, 0, .nilIface, rfl, by rw [← HT2.out]; exact HP.out, fun _ => rfl, HK3.out, ?_, ?_, fun hz => ?_⟩
   ·rw [← HT2.out]
    exact made_exc (q := 3) (by decide) (by decide) (by have := HMB.out; show mb.size + 19 ≤ _; omega) HSZ.out HW3.out
   ·rw [← HW3.out]
    exact (((Keep.refl (fun _ => False) w1).alloc _).block XB (lt_of_heap HX1.out) (fun x => x)).trans HX1.out
   ·rw [← HT2.out] at hz
    exact absurd hz (by show ¬ (33 : Int) = 0; decide)
 ·obtain ⟨ty, vx, rfl⟩ := hp.err.held hz
  have HP := hdd hp
  have HT2 : Hid ((gK s, gS s, [], V.zero) = T) := hdd (by rw [← HT.out, rcvR, if_neg hz])
  have HZ := hdd hz
  clear hp hv hz
  go_wp2_with fail
  go_ret
  refine ⟨0, 0, none, 0, 0, 0, 0, none, 0, 0, none, 0, 0, _, w1, gK s, _, rfl, by rw [← HT2.out]; exact HP.out, fun hh => ?_, Keep.refl _ _, ?_, HX1.out, fun hz => ?_⟩
  ·rw [← HT2.out] at hh
   rcases hh with hh | hh
   ·exact hh
   ·exact absurd rfl hh
  ·rw [← HT2.out]
   exact .inl ⟨HP.out.err, rfl⟩
  ·rw [← HT2.out] at hz
   exact absurd hz HZ.out
theorem ret_cell4 {f : Func} {slot s2 s3 s4 : Nat} {a : Act} {w : World} {U : Nat} {Q : Ending → World → Prop} {T : TypeId} {fs : Array Field} {cs : Array Value} {v2 v3 v4 : Value} (hf : f.results = #[.cell slot T, .tmp s2, .tmp s3, .tmp s4]) (hd : a.defers = []) (ha : a.tmps[slot]?.getD undef = .pointer (some ⟨U, 0, none⟩))
  (hb : a.tmps[s2]?.getD undef = v2) (hc : a.tmps[s3]?.getD undef = v3) (h4 : a.tmps[s4]?.getD undef = v4)
  (hU : w.heap[U]? = some (.cells cs T (0, 0))) (hu : Tryz.prog.underlying T = some (.struct fs)) (hs : (Tryz.prog.info? T).map (·.size) = some cs.size) (hQ : Q (.returned (.tuple #[.agg cs, v2, v3, v4])) w) : bodyPost Tryz.prog f Q Exit.ret a w := by
 have hl := run_loadVar_row (P := Tryz.prog) w U T T _ (0, 0) _ hU hu rfl hs
 refine bodyPost_ret (v := .tuple #[.agg cs, v2, v3, v4]) ?_ hd hQ
 simp [results, hf, ha, hb, hc, h4, asAddr, hl]
theorem str_run {A : Nat → Prop} {w : World} {v : Value} {l : List UInt8} (h : BytesAt A w v l) : (convert 24 9 v).run Tryz.prog w = .ok (.string ⟨l.toArray⟩) w := by
 rcases h with ⟨rfl, a, c, rfl⟩ | ⟨hne, D, o, c, rfl, h1, h2, h3, h4⟩
 ·cases a <;> kernel_rfl
 ·exact run_convert_bytes_back (P := Tryz.prog) w 24 9 5 ⟨D, o, none⟩ c l Tryz.underlying24 Tryz.underlying5 Tryz.underlying9 (fun j hj => by
   rw [Addr.add_lit]
   exact h4 j _ (List.getElem?_eq_getElem hj))
theorem newClient_at (t1 t2 : TypeId) (a b : Value) (w : World) : Calls Tryz.prog 45 #[.iface t1 a, .iface t2 b] w fun e w' => ∃ c, e = .returned (.pointer (some ⟨c, 0, none⟩)) ∧ Keep (fun _ => False) w w' := by
 go_enter Tryz.func45, Tryz.ntmps45
 go_wp2_with fail
 go_ret
 exact ⟨_, rfl, (Keep.refl _ w).alloc _⟩
def Pm.RcvP {St : Type} (p : Pm St) (deep : Int) (T : Int × St × List UInt8 × _root_.Go.Proofs.YthehmlbolajljaaGreatDoor.V) (w : World) (e : Ending) (w' : World) : Prop :=
 ∃ ty N Sa Sm Sc KT E' Ia Im Ic La Lm Lc va vm vc left, e = .returned (.tuple #[.agg (valC ty N (.slice Sa Sm Sc) KT E' (.slice Ia Im Ic) (.slice La Lm Lc)), .slice va vm vc, .int .i64 T.1, .int .i64 left]) ∧
  ((T.1 = 0 ∨ T.2.2.1 ≠ []) → left = p.pr.len T.2.1) ∧ (∃ A', BytesAt A' w' (.slice va vm vc) T.2.2.1) ∧ (T.1 = 0 → ∃ A', ValAt deep.toNat A' w' (valC ty N (.slice Sa Sm Sc) KT E' (.slice Ia Im Ic) (.slice La Lm Lc)).toList T.2.2.2) ∧ Keep (fun _ => False) w w'
set_option maxRecDepth 100000 in
theorem Pm.impl_recv {St : Type} (p : Pm St) {E : Env} {A A2 : Nat → Prop} (seq deep : Int) (hd0 : -9223372036854775808 ≤ deep) (hd1 : deep ≤ 9223372036854775807) (mv : Value) (m : List UInt8) (v : Value) (l : List UInt8) (w : World) (hg : Glob E w) (hm : BytesAt A2 w mv m) (hml : m.length ≤ 1099511627775) (h : BytesAt A w v l) (hl : l.length ≤ 1099511627775)
  (T : Int × St × List UInt8 × _root_.Go.Proofs.YthehmlbolajljaaGreatDoor.V) (hT : rcvR p.pr (p.gK (p.st0 l)) (p.gT (p.st0 l)) (p.gN (p.st0 l)) (p.gB (p.st0 l)) (p.gS (p.st0 l)) seq m deep.toNat = T) :
  Calls Tryz.prog 22 #[.agg (confC p.no p.c), .int .i32 seq, mv, v, .int .i64 deep] w (p.RcvP deep T w) := by
 have HT := hdd hT
 clear hT
 have hk0 : Keep (fun _ => False) w ((w.alloc (.cells (confC p.no p.c) 23 (0, 0))).alloc (.cells zVal 29 (0, 0))) := ((Keep.refl _ w).alloc _).alloc _
 have hc0 : ((w.alloc (.cells (confC p.no p.c) 23 (0, 0))).alloc (.cells zVal 29 (0, 0))).heap[w.heap.size]? = some (.cells (confC p.no p.c) 23 (0, 0)) := (Below.heap_alloc _ _ _ (by simp)).trans (heap_alloc_new w _)
 have hv0 : ((w.alloc (.cells (confC p.no p.c) 23 (0, 0))).alloc (.cells zVal 29 (0, 0))).heap[w.heap.size + 1]? = some (.cells zVal 29 (0, 0)) := heap_alloc_at (by simp) _
 have hs0 : ((w.alloc (.cells (confC p.no p.c) 23 (0, 0))).alloc (.cells zVal 29 (0, 0))).heap.size = w.heap.size + 2 := by simp
 obtain ⟨mva, mvm, mvc, rfl⟩ := hm.shape
 have HMV := hdd hm
 clear hm
 go_enter Tryz.func22, Tryz.ntmps22
 go_wp2_with fail
 obtain ⟨n0, hn⟩ : ∃ n0, w.heap.size = n0 := ⟨_, rfl⟩
 rw [hn] at hc0 hv0 hs0 ⊢
 generalize (w.alloc (.cells (confC p.no p.c) 23 (0, 0))).alloc (.cells zVal 29 (0, 0)) = w1 at *
 have HN := hdd hn
 have HC0 := hdd hc0
 have HV0 := hdd hv0
 have HS0 := hdd hs0
 have HK0 := hdd hk0
 clear hn hc0 hv0 hs0
 refine (holding_at (E := E) (h.keep hk0 (fun _ _ => id)) (Nat.le_trans hg.size hk0.size)).mono ?_
 rintro e w2 ⟨MB, B, D, rfl, hmm, hk2, b1, b2, b3, b4, b5⟩
 obtain ⟨c0, c1, c2, c3, c4, c5, c6⟩ := conf_cells7 ((hk2.block n0 (lt_of_heap HC0.out) id).trans HC0.out)
 have hgk : Glob E w2 := hg.keep (hk0.then hk2) (fun _ x => x.elim)
 go_wp2_with fail
 refine (p.made (D := D) (l := l) hgk hmm (by omega)).mono ?_
 rintro e w3 ⟨K, fb, fe, rfl, hKE, hpr, hinv, hk3, hKn, hbI, hbS, hmg⟩
 have HBI := hdd hbI
 have HBS := hdd hbS
 have HPR := hdd hpr
 have HMG := hdd hmg
 have HI := hdd hinv
 have hsz2 : n0 + 2 ≤ w2.heap.size := by have := HS0.out; have := hk2.size; omega
 have HKN : Hid (∀ i, K.M w3 i → B = i ∨ n0 + 2 ≤ i) := hdd (fun i x => (hKn i x).imp (fun y => y) (fun y => by omega))
 have HR3 := hdd (((hk2.then hk3).block (n0 + 1) (lt_of_heap HV0.out) id).trans HV0.out)
 have HK13 := hdd (hk2.then hk3)
 have hB2 : n0 + 2 ≤ B := by have := HS0.out; omega
 have hM2 : ¬ MB = n0 + 1 := by have := HS0.out; omega
 have hM3 : ¬ n0 + 1 = MB := fun e => hM2 e.symm
 have hs3 : n0 + 2 ≤ w3.heap.size := by have := HS0.out; have := HK13.out.size; omega
 have HS3 := hdd hs3
 clear c0 c1 c2 c3 c4 c5 c6 hinv hKn hk2 hk3 hk0 hmm hgk b1 b2 b3 b4 b5 hbI hbS hpr hmg hs3
 have hk4 : Keep (fun _ => False) w3 (w3.alloc (.cells (bodyC 0 0 nilB 0 0 nilB nilB deep) 114 (0, 0))) := (Keep.refl _ w3).alloc _
 have hX4 := heap_alloc_new w3 (.cells (bodyC 0 0 nilB 0 0 nilB nilB deep) 114 (0, 0))
 go_wp2_with fail
 obtain ⟨XB, hXB⟩ : ∃ XB, w3.heap.size = XB := ⟨_, rfl⟩
 rw [hXB] at hX4 ⊢
 generalize w3.alloc (.cells (bodyC 0 0 nilB 0 0 nilB nilB deep) 114 (0, 0)) = w4 at *
 have HXE := hdd hXB
 have HX4 := hdd hX4
 have HK4 := hdd hk4
 have hnX : ∀ W, Keep (fun _ => False) w4 W → ¬ K.M W XB := fun W hW y => by have := Rp.M_new HI.out (hk4.then hW) _ y; omega
 have HNX := hdd hnX
 have hcv : ∀ W, Keep (fun _ => False) w4 W → (convert 24 9 (.slice mva mvm mvc)).run Tryz.prog W = .ok (.string ⟨m.toArray⟩) W := fun W hW =>
  str_run (HMV.out.keep (HK0.out.then (HK13.out.then (hk4.then hW))) (fun _ _ x => x))
 have HCV := hdd hcv
 have hrv : ∀ (c : Nat) W, Keep (fun _ => False) w4 W → Calls Tryz.prog 46 #[.pointer (some ⟨c, 0, none⟩), ctxV, K.V, .int .i32 seq, .string ⟨m.toArray⟩, .iface 112 (.pointer (some ⟨XB, 0, none⟩))] W (Rp.RcvP K XB deep T W) := fun c W hW =>
  Rp.recv K HMG.out _ seq ⟨m.toArray⟩ (by show m.toArray.size ≤ _; simp; omega) XB deep hd0 hd1 (p.st0 l) W (HI.out.fresh (hk4.then hW)) (by rw [HPR.out]; exact p.gS_room _ (p.room0 l hl)) ((hW.block XB (lt_of_heap HX4.out) (fun x => x)).trans HX4.out) (HNX.out W hW) T (by rw [HPR.out]; exact HT.out)
 have HRV := hdd hrv
 have hcv0 := hcv _ (Keep.refl _ w4)
 have hcv1 := hcv _ ((Keep.refl _ w4).drew)
 clear hXB hX4 hk4 hnX hcv hrv
 go_cut [17] from 27 to 38 (fun s17 wx => ∃ W, Keep (fun _ => False) w4 W ∧ Rp.RcvP K XB deep T W (.returned s17) wx)
 case first =>
  go_region_with (first | (go_at_call 45; refine (newClient_at _ _ _ _ _).mono ?_; rintro e w5 ⟨c5, rfl, hk5⟩; have hk45 := ((Keep.refl (fun _ => False) w4).drew).then hk5; have hcv5 := HCV.out _ hk45) | (go_at_call 28; refine (ctx_at _).mono ?_; rintro e w' ⟨rfl, rfl⟩) | (go_at_call 46; refine (HRV.out _ _ hk45).mono ?_; rintro e w6 hr6; have HR6 := hdd hr6; obtain ⟨ty6, N6, Sa6, Sm6, Sc6, KT6, E6, Ia6, Im6, Ic6, La6, Lm6, Lc6, ev6, w16, k16, ev16, rfl, hr6⟩ := hr6; clear hr6))
  all_goals
   go_wp2_with fail
   go_simp
   go_meet
   exact ⟨_, hk45, HR6.out⟩
 case rest =>
 obtain ⟨W, hkW, ty, N, Sa, Sm, Sc, KT, E', Ia, Im, Ic, La, Lm, Lc, ev, wb, k1, ev1, he, hpost, hk1, hkX, herr, hXZ, hval⟩ := hcut
 have he := (Ending.returned.inj he).symm
 subst he
 generalize wc = wz at *
 clear hcv0 hcv1
 have hthru := (K.thru HI.out (Rp.kept HI.out (HK4.out.then hkW)) (HI.out.fresh (HK4.out.then hkW)) hpost hkX (fun i e => by subst e; exact ⟨by have := HXE.out; omega, by have := lt_of_heap HX4.out; have := hkW.size; omega, HNX.out W hkW⟩)).1
 obtain ⟨D', s', hmz, hgz, hsl⟩ : ∃ D' s', Mem E wz MB B D' s' ∧ Glob E wz ∧ ((T.1 = 0 ∨ T.2.2.1 ≠ []) → s'.length = p.pr.len T.2.1) := by
  obtain ⟨D', s', h1, h2⟩ := HBS.out _ hthru.some
  by_cases hz : T.1 = 0 ∨ T.2.2.1 ≠ []
  ·obtain ⟨D2, h3⟩ := HBI.out _ _ (hthru.inv (hk1 hz))
   exact ⟨D2, _, h3, h2, fun _ => (p.len _).symm⟩
  ·exact ⟨D', s', h1, h2, fun e => absurd e hz⟩
 have HKZ : Hid (Keep (fun _ => False) w wz) := hdd ((HK0.out.then HK13.out).trans hthru.keep.keep (fun i hi x => by have := HN.out; rcases HKN.out _ x with e | e <;> omega))
 have hnR : ¬ K.M w3 (n0 + 1) := fun x => by rcases HKN.out _ x with e | e <;> omega
 have HRZ := hdd ((hthru.keep.block (n0 + 1) (lt_of_heap HR3.out) hnR).trans HR3.out)
 have HXZ := hdd hXZ
 have HMB := hdd hmz.mb
 have HBZ := hdd hmz.buf
 have HGZ := hdd hgz
 have HSL := hdd hsl
 have HVAL := hdd hval
 rw [hKE] at herr
 have HERR := hdd (herr.mono (Nat.zero_le _))
 have HWS : Hid (w4.heap.size ≤ W.heap.size) := hdd hkW.size
 clear hthru hmz hgz hsl hXZ hval herr hpost hk1 hkX hkW hnR
 have hall : ∀ W, Keep (fun _ => False) wz W → W.cell? ⟨MB, 0, none⟩ = some (.pointer (some ⟨B, 0, none⟩)) ∧ W.heap[XB]? = some (.cells (bodyC ty N (.slice Sa Sm Sc) KT E' (.slice Ia Im Ic) (.slice La Lm Lc) deep) 114 (0, 0)) ∧ W.heap[n0 + 1]? = some (.cells zVal 29 (0, 0)) := fun W hW =>
  ⟨(hW.cell (p := ⟨MB, 0, none⟩) (lt_of_cell HMB.out) id).trans HMB.out, (hW.block XB (lt_of_heap HXZ.out) id).trans HXZ.out, (hW.block (n0 + 1) (lt_of_heap HRZ.out) id).trans HRZ.out⟩
 have hkind : ∀ W, Keep (fun _ => False) wz W → Calls Tryz.prog 30 #[ev] W fun e w' => e = .returned (.int .i64 T.1) ∧ Keep (fun _ => False) wz w' ∧ Keep (fun _ => False) W w' := fun W hW =>
  (kind_r (HGZ.out.keep hW (fun _ x => x.elim)) (HERR.out.keep hW (fun _ _ => id))).mono fun e w' ⟨h1, h2⟩ => ⟨h1, hW.then h2, h2⟩
 have htold : ∀ W, Keep (fun _ => False) wz W → Calls Tryz.prog 47 #[ev] W fun e w' => ∃ va vm vc, e = .returned (.slice va vm vc) ∧ BytesAt (wz.heap.size ≤ ·) w' (.slice va vm vc) T.2.2.1 ∧ Keep (fun _ => False) wz w' ∧ Keep (fun _ => False) W w' := fun W hW =>
  (told_r (HERR.out.keep hW (fun _ _ => id))).mono fun e w' ⟨va, vm, vc, h1, h2, h3⟩ => ⟨va, vm, vc, h1, h2.weak (fun i _ hi => Nat.le_trans hW.size hi), hW.then h3, h3⟩
 have hlen : ∀ W, Keep (fun _ => False) wz W → Calls Tryz.prog 31 #[.pointer (some ⟨B, 0, none⟩)] W fun e w' => e = .returned (.int .i64 s'.length) ∧ Keep (fun _ => False) wz w' ∧ Keep (fun _ => False) W w' := fun W hW =>
  (buf_len (HBZ.out.keep hW id id)).mono fun e w' ⟨h1, n, h2⟩ => ⟨h1, h2 ▸ hW.drewN n, h2 ▸ (Keep.refl _ W).drewN n⟩
 have HALL := hdd hall
 have HKI := hdd hkind
 have HTO := hdd htold
 have HLEN := hdd hlen
 have hkd : Keep (fun _ => False) wz wz.drew := (Keep.refl _ wz).drew
 have hneV : ¬ XB = n0 + 1 := by have := HXE.out; have := HS3.out; omega
 have hneV2 : ¬ n0 + 1 = XB := fun e => hneV e.symm
 obtain ⟨a0, av, ar⟩ := hall _ (Keep.refl _ wz)
 obtain ⟨x0, x1, x2, x3, x4, x5, x6, x7⟩ := cells8 av
 obtain ⟨r0, r1, r2, r3, r4, r5, r6⟩ := got_cells ar
 obtain ⟨z0, z1, z2, z3, z4, z5, z6⟩ := got_free ar
 clear hall hkind htold hlen av ar
 go_wp2_with fail
 go_cut [11, 12, 13] from 38 to 51 (fun s11 s12 s13 wx => ∃ va vm vc W, s11 = .slice va vm vc ∧ s12 = .int .i64 T.1 ∧ s13 = .int .i64 s'.length ∧ wx = ((((((W.setCell ⟨n0 + 1, 0, none⟩ (.int .i64 ty)).setCell ⟨n0 + 1, 1, none⟩ (.int .i64 N)).setCell ⟨n0 + 1, 2, none⟩ (.slice Sa Sm Sc)).setCell ⟨n0 + 1, 3, none⟩ (.int .i64 KT)).setCell ⟨n0 + 1, 4, none⟩ (.int .i64 E')).setCell ⟨n0 + 1, 5, none⟩ (.slice Ia Im Ic)).setCell ⟨n0 + 1, 6, none⟩ (.slice La Lm Lc) ∧ Keep (fun _ => False) wz W ∧ BytesAt (wz.heap.size ≤ ·) W (.slice va vm vc) T.2.2.1)
 case first =>
  go_region_held3 (fun w' => w'.cell? ⟨MB, 0, none⟩ = some (.pointer (some ⟨B, 0, none⟩)) ∧ w'.cell? ⟨XB, 0, none⟩ = some (.int .i64 ty) ∧ w'.cell? ⟨XB, 1, none⟩ = some (.int .i64 N) ∧ w'.cell? ⟨XB, 2, none⟩ = some (.slice Sa Sm Sc) ∧ w'.cell? ⟨XB, 3, none⟩ = some (.int .i64 KT) ∧ w'.cell? ⟨XB, 4, none⟩ = some (.int .i64 E') ∧ w'.cell? ⟨XB, 5, none⟩ = some (.slice Ia Im Ic) ∧ w'.cell? ⟨XB, 6, none⟩ = some (.slice La Lm Lc)) (go_keep) (first | (go_at_call 47; refine (HTO.out _ (by assumption)).mono ?_; rintro e w5 ⟨va, vm, vc, rfl, hb5, hk5, hkW5⟩; have HB5 := hdd hb5; clear hb5; obtain ⟨a0, av, ar⟩ := HALL.out _ hk5; obtain ⟨x0, x1, x2, x3, x4, x5, x6, x7⟩ := cells8 av; obtain ⟨r0, r1, r2, r3, r4, r5, r6⟩ := got_cells ar; obtain ⟨z0, z1, z2, z3, z4, z5, z6⟩ := got_free ar; clear av ar) | (go_at_call 30; refine (HKI.out _ (by assumption)).mono ?_; rintro e w6 ⟨rfl, hk6, hkW6⟩; obtain ⟨a0, av, ar⟩ := HALL.out _ hk6; obtain ⟨x0, x1, x2, x3, x4, x5, x6, x7⟩ := cells8 av; obtain ⟨r0, r1, r2, r3, r4, r5, r6⟩ := got_cells ar; obtain ⟨z0, z1, z2, z3, z4, z5, z6⟩ := got_free ar; clear av ar) | (go_at_call 31; refine (HLEN.out _ (by assumption)).mono ?_; rintro e w7 ⟨rfl, hk7, hkW7⟩; obtain ⟨a0, av, ar⟩ := HALL.out _ hk7; obtain ⟨x0, x1, x2, x3, x4, x5, x6, x7⟩ := cells8 av; obtain ⟨r0, r1, r2, r3, r4, r5, r6⟩ := got_cells ar; obtain ⟨z0, z1, z2, z3, z4, z5, z6⟩ := got_free ar; clear av ar))
  all_goals
   go_wp2_with fail
   go_simp
   go_meet
   exact ⟨_, _, _, _, rfl, rfl, rfl, rfl, by assumption, (HB5.out.keep hkW6 (fun _ _ => id)).keep hkW7 (fun _ _ => id)⟩
 case rest =>
 obtain ⟨va, vm, vc, W2, rfl, rfl, rfl, rfl, hkz, hbs⟩ := hcut
 go_wp2_with fail
 have hn0 := HN.out
 have hR9 := val_set (HALL.out _ hkz).2.2 (.int .i64 ty) (.int .i64 N) (.slice Sa Sm Sc) (.int .i64 KT) (.int .i64 E') (.slice Ia Im Ic) (.slice La Lm Lc)
 have hkW9 := val_keep (M := fun i => n0 + 1 = i) (Keep.refl _ W2) (R := n0 + 1) (fun _ => rfl) (.int .i64 ty) (.int .i64 N) (.slice Sa Sm Sc) (.int .i64 KT) (.int .i64 E') (.slice Ia Im Ic) (.slice La Lm Lc)
 generalize ((((((W2.setCell ⟨n0 + 1, 0, none⟩ (.int .i64 ty)).setCell ⟨n0 + 1, 1, none⟩ (.int .i64 N)).setCell ⟨n0 + 1, 2, none⟩ (.slice Sa Sm Sc)).setCell ⟨n0 + 1, 3, none⟩ (.int .i64 KT)).setCell ⟨n0 + 1, 4, none⟩ (.int .i64 E')).setCell ⟨n0 + 1, 5, none⟩ (.slice Ia Im Ic)).setCell ⟨n0 + 1, 6, none⟩ (.slice La Lm Lc) = w9 at *
 refine ret_cell4 (U := n0 + 1) (T := 29) Tryz.results22 rfl rfl rfl rfl rfl hR9 Tryz.underlying29 ival_size ?_
 have hrz := lt_of_heap HRZ.out
 refine ⟨ty, N, Sa, Sm, Sc, KT, E', Ia, Im, Ic, La, Lm, Lc, va, vm, vc, _, rfl, fun hz => by rw [HSL.out hz], ⟨_, BytesAt.keep (A := (wz.heap.size ≤ ·)) hbs hkW9 (fun i hi e => by omega)⟩, fun hz => ⟨(W.heap.size ≤ ·), ?_⟩, (HKZ.out.then hkz).trans hkW9 (fun i hi e => by omega)⟩
 have h4 := HS3.out
 have hx4 := lt_of_heap HX4.out
 have hxe := HXE.out
 have hws := HWS.out
 exact ((HVAL.out hz).keep hkz (fun _ _ => id)).keep hkW9 (fun i hi e => by omega)
def Rdr.AnsP {σ : Type} (r : Rdr σ) (d : Nat) (T : Int × σ × List UInt8 × V) (w : World) (e : Ending) (w' : World) : Prop :=
 ∃ ty N Sa Sm Sc KT E Ia Im Ic La Lm Lc va vm vc x s2, e = .returned (.tuple #[.agg (valC ty N (.slice Sa Sm Sc) KT E (.slice Ia Im Ic) (.slice La Lm Lc)), .slice va vm vc, .int .i64 x]) ∧ r.Inv s2 w' ∧ Kpt r.M w w' ∧ Sk T.1 x ∧
  (vm ≠ 0 → s2 = T.2.1 ∧ BytesAt (w.heap.size ≤ ·) w' (.slice va vm vc) T.2.2.1) ∧ (x = 0 → s2 = T.2.1 ∧ T.2.2.1 = [] ∧ ValAt d (w.heap.size ≤ ·) w' (valC ty N (.slice Sa Sm Sc) KT E (.slice Ia Im Ic) (.slice La Lm Lc)).toList T.2.2.2)
theorem faultK3 : faultK 3 = 33 := by decide
theorem faultK4 : faultK 4 = 34 := by decide
theorem faultK2 : faultK 2 = 32 := by decide
abbrev sset (W : World) (n0 : Nat) (x0 x1 x2 x3 x4 x5 x6 : Value) : World :=
 ((((((W.setCell ⟨n0, 0, none⟩ x0).setCell ⟨n0, 1, none⟩ x1).setCell ⟨n0, 2, none⟩ x2).setCell ⟨n0, 3, none⟩ x3).setCell ⟨n0, 4, none⟩ x4).setCell ⟨n0, 5, none⟩ x5).setCell ⟨n0, 6, none⟩ x6
theorem Rdr.fin {σ : Type} {r : Rdr σ} (ok : r.Ok) {s' : σ} {w W : World} {n0 : Nat} (hn : w.heap.size = n0) (hI : r.Inv s' W) (hk : Kpt r.M w W) (hR : W.heap[n0]? = some (.cells sVal 34 (0, 0))) (hnR : ¬ r.M W n0) (x0 x1 x2 x3 x4 x5 x6 : Value) :
  (sset W n0 x0 x1 x2 x3 x4 x5 x6).heap[n0]? = some (.cells #[x0, x1, x2, x3, x4, x5, x6] 34 (0, 0)) ∧ r.Inv s' (sset W n0 x0 x1 x2 x3 x4 x5 x6) ∧ Kpt r.M w (sset W n0 x0 x1 x2 x3 x4 x5 x6) ∧ Keep (fun i => n0 = i) W (sset W n0 x0 x1 x2 x3 x4 x5 x6) := by
 have hR9 := sval_set hR x0 x1 x2 x3 x4 x5 x6
 have hk9 := sval_keep (M := fun i => n0 = i) (Keep.refl _ W) (R := n0) (fun _ => rfl) x0 x1 x2 x3 x4 x5 x6
 obtain ⟨h9, hm9⟩ := ok.turn hI hk9 (fun i e => by subst e; exact hnR)
 exact ⟨hR9, h9, hk.turned hk9 (fun i e => by omega) hm9, hk9⟩
set_option maxRecDepth 100000 in
theorem Rdr.answer {σ : Type} {r : Rdr σ} (ok : r.Ok) (lt : (∀ t s, r.pr.scK t s < 50) ∧ (∀ s, r.pr.fK s < 50) ∧ (∀ s, r.pr.mK s < 50) ∧ ∀ s, r.pr.lK s < 50) {A : Nat → Prop} (seq : Int) (mv : Value) (m : List UInt8) (hmb : m.length ≤ 1099511627776)
  (deep : Int) (hlo : -9223372036854775808 ≤ deep) (hhi : deep ≤ 9223372036854775807) (s : σ) (w : World) (hR : r.Inv s w) (hm : BytesAt A w mv m) (hA : ∀ i, A i → ¬ r.M w i) (gK : Int) (gS : σ) (gT gN : Int) (gB : List UInt8) (hroom : r.pr.Room gS) (hN32 : IntKind.i32.wrap gN = gN)
  (hstep : ∀ w, r.Inv s w → r.Step 0 w (r.GP w gK gS gT 0 0 0 gN gB)) (hend : ∀ s w, r.Inv s w → r.Step 1 w (r.GP w 0 s 0 0 0 0 0 [])) (T : Int × σ × List UInt8 × V) (hq : rcvR r.pr gK gT gN gB gS seq m deep.toNat = T) :
  Calls Tryz.prog 48 #[.pointer (some ⟨r.R, 0, none⟩), .int .i32 seq, mv, .int .i64 deep] w (r.AnsP deep.toNat T w) := by
 have HT := hdd hq
 have HMB := hdd hmb
 have HE := hdd hend
 have HLT := hdd lt
 have HRM := hdd hroom
 clear hq hmb hend lt hroom
 have hk0 : Keep (fun _ => False) w (w.alloc (.cells sVal 34 (0, 0))) := (Keep.refl _ w).alloc _
 have hR0 := heap_alloc_new w (.cells sVal 34 (0, 0))
 have hs0 : (w.alloc (.cells sVal 34 (0, 0))).heap.size = w.heap.size + 1 := by simp
 have hm0 := hm.keep hk0 (fun _ _ => id)
 have hmo : BytesAt (fun i => A i ∧ i < w.heap.size) w mv m := hm.weak (fun i hi y => ⟨y, hi⟩)
 have hmo1 := hmo.keep hk0 (fun _ _ => id)
 obtain ⟨ma, mm, mc, rfl⟩ := hm.shape
 go_enter Tryz.func48, Tryz.ntmps48
 go_wp2_with fail
 have hmn := ok.new hR hk0
 have hi1 := ok.fresh hR hk0
 have hkp0 := ok.kept hR hk0
 have hmr : ∀ i, r.M (w.alloc (.cells sVal 34 (0, 0))) i → r.M w i := (ok.turn hR hk0 (fun _ x => x.elim)).2
 obtain ⟨n0, hn⟩ : ∃ n0, w.heap.size = n0 := ⟨_, rfl⟩
 rw [hn] at hR0 hs0 hmn hmo1 ⊢
 generalize w.alloc (.cells sVal 34 (0, 0)) = w1 at *
 have HN := hdd hn
 have HS0 := hdd hs0
 clear hs0
 have hst : Calls _ _ _ w1 _ := hstep w1 hi1
 refine hst.mono ?_
 rintro e w2 ⟨x, t', kt, size, id, N', S', rfl, ⟨a, am, ac, rfl⟩, hx, ⟨s2, h2, hr2⟩, hk2, hv0⟩
 have HR2 := hdd ((hk2.block n0 (lt_of_heap hR0) (hmn _ (by omega))).trans hR0)
 have HNR2 := hdd (hk2.not (i := n0) (lt_of_heap hR0) (hmn _ (by omega)))
 have HMO2 := hdd (hmo1.keep hk2.keep (fun i y y2 => hA i y.1 (hmr i y2)))
 have HK2 := hdd (hkp0.then hk2)
 have HS12 := hdd hk2.size
 have HX := hdd hx
 clear hst hstep hmo hmo1 hm hm0 hA hmr hn hmn hkp0 hR0 hk2 hx
 have hk4 : Keep (fun _ => False) w2 (w2.alloc (.cells (gotA x t' kt size id N' (.slice a am ac)) 107 (0, 0))) := (Keep.refl _ w2).alloc _
 have hG4 := heap_alloc_new w2 (.cells (gotA x t' kt size id N' (.slice a am ac)) 107 (0, 0))
 have hm4 : ∀ i, r.M (w2.alloc (.cells (gotA x t' kt size id N' (.slice a am ac)) 107 (0, 0))) i → r.M w2 i := (ok.turn h2 hk4 (fun _ x => x.elim)).2
 have hi4 := ok.fresh h2 hk4
 have hkp4 := ok.kept h2 hk4
 have hs4 : (w2.alloc (.cells (gotA x t' kt size id N' (.slice a am ac)) 107 (0, 0))).heap.size = w2.heap.size + 1 := by simp
 obtain ⟨g2, hg2⟩ : ∃ g2, w2.heap.size = g2 := ⟨_, rfl⟩
 by_cases hx0 : x = 0
 ·subst hx0
  obtain ⟨e1, rfl, rfl, rfl, e5, e6⟩ := hv0 rfl
  obtain rfl := hr2 rfl
  subst e1 e5
  have hgr : gK = 0 := Sk.zero HX.out
  have HB2 := hdd (e6.keep hk4 (fun _ _ => id))
  have HGR := hdd hgr
  clear hv0 hr2 e6 hgr
  go_wp2_with fail
  rw [hg2] at hG4 hs4
  generalize w2.alloc (.cells (gotA 0 t' 0 0 0 N' (.slice a am ac)) 107 (0, 0)) = w4 at *
  have HG4 := hdd hG4
  have HR4 := hdd ((hk4.block n0 (lt_of_heap HR2.out) (fun x => x)).trans HR2.out)
  have HNR4 : Hid (¬ r.M w4 n0) := hdd (fun y => HNR2.out (hm4 _ y))
  have HMO4 := hdd (HMO2.out.keep hk4 (fun _ _ => (fun x => x)))
  have HI4 := hdd hi4
  have HKP4 := hdd (HK2.out.then hkp4)
  have HS4 := hdd hs4
  have HGN : Hid (n0 < g2) := hdd (by have := lt_of_heap HR2.out; omega)
  have HNG : Hid (¬ r.M w4 g2) := hdd (fun y => by have := ok.lt h2 _ (hm4 _ y); omega)
  clear hk4 hi4 hkp4 hm4 hs4 hg2
  obtain ⟨u0, u1, u2, u3, u4, u5, u6⟩ := got_cells hG4
  clear hG4
  have HMADE : Hid (∀ (k : Int) (t : List UInt8) (W : World) (va : Option Addr) (vm vc : Nat), Keep (fun _ => False) w4 W → BytesAt (w4.heap.size ≤ ·) W (.slice va vm vc) t → T = (k, s2, t, V.zero) → k ≠ 0 →
    W.heap[n0]? = some (.cells sVal 34 (0, 0)) ∧ (sset W n0 (.int .i64 0) (.int .i64 0) nilB (.int .i64 0) (.int .i64 0) nilB nilB).heap[n0]? = some (.cells sVal 34 (0, 0)) ∧ r.AnsP deep.toNat T w (.returned (.tuple #[.agg sVal, .slice va vm vc, .int .i64 k])) (sset W n0 (.int .i64 0) (.int .i64 0) nilB (.int .i64 0) (.int .i64 0) nilB nilB)) := hdd (fun k t W va vm vc hk hb hT hk0 => by
   have hRW := (hk.block n0 (lt_of_heap HR4.out) (fun x => x)).trans HR4.out
   have hnW : ¬ r.M W n0 := fun y => HNR4.out ((ok.turn HI4.out hk (fun _ x => x.elim)).2 _ y)
   obtain ⟨f1, f2, f3, f4⟩ := Rdr.fin ok HN.out (ok.fresh HI4.out hk) (HKP4.out.then (ok.kept HI4.out hk)) hRW hnW (.int .i64 0) (.int .i64 0) nilB (.int .i64 0) (.int .i64 0) nilB nilB
   have hn0 := HN.out
   have h4 := lt_of_heap HR4.out
   exact ⟨hRW, f1, 0, 0, none, 0, 0, 0, 0, none, 0, 0, none, 0, 0, va, vm, vc, k, s2, rfl, f2, f3, by rw [hT]; exact .inr (.inr rfl), fun _ => ⟨by rw [hT], by rw [hT]; exact (hb.keep f4 (fun i y e => by omega)).weak (fun i _ y => by omega)⟩, fun e => absurd e hk0⟩)
  clear u1 u2 u3 u4
  go_wp2_with fail
  refine (isSame_at HB2.out HMO4.out).mono ?_
  rintro e w5 ⟨rfl, nn, rfl⟩
  have hkd : Keep (fun _ => False) w4 (w4.drewN nn) := (Keep.refl _ w4).drewN nn
  have HKD := hdd hkd
  obtain ⟨v0, v1, v2, v3, v4, v5, v6⟩ := got_cells ((hkd.block g2 (lt_of_heap HG4.out) (fun x => x)).trans HG4.out)
  have HMO5 := hdd (HMO4.out.keep hkd (fun _ _ => (fun x => x)))
  have HI5 := hdd (ok.fresh HI4.out hkd)
  have hs5 : (w4.drewN nn).heap.size = w4.heap.size := rfl
  have HS5 := hdd hs5
  clear hkd hs5
  generalize w4.drewN nn = w5 at *
  by_cases hb : gB = m
  ·have hd : decide (gB = m) = true := decide_eq_true hb
   rw [hd]
   have HBM := hdd hb
   clear hd hb
   by_cases hsq : N' = seq
   ·subst hsq
    have HSQ : Hid (rcvR r.pr 0 t' N' m s2 N' m deep.toNat = T) := hdd (by rw [← HT.out, HBM.out, HGR.out])
    by_cases h3 : t' = 3
    ·subst h3
     obtain ⟨R, hRe⟩ : ∃ R, flt r.pr (r.pr.len (r.pr.sbS s2) + 1) (r.pr.sbS s2) ([], 0) = R := ⟨_, rfl⟩
     have HTR : Hid (T = excR R) := hdd (by rw [← HSQ.out, rcvR, if_pos rfl, if_pos rfl, if_pos rfl, if_pos rfl, hRe])
     have hexc := Rdr.exception ok HLT.out s2 w5 HI5.out HRM.out HE.out R hRe
     go_wp2_with fail
     refine hexc.mono ?_
     rintro e w6 ⟨va, vm, vc, y, s6, rfl, h6, hk6, hy0, hres⟩
     have HRES := hdd hres
     have HY0 := hdd hy0
     have hR5 := (HKD.out.block n0 (lt_of_heap HR4.out) (fun x => x)).trans HR4.out
     have hnR5 : ¬ r.M w5 n0 := fun y => HNR4.out ((ok.turn HI4.out HKD.out (fun _ x => x.elim)).2 _ y)
     have HR6 := hdd ((hk6.block n0 (lt_of_heap hR5) hnR5).trans hR5)
     have HNR6 := hdd (hk6.not (lt_of_heap hR5) hnR5)
     have HK6 := hdd ((HKP4.out.then (ok.kept HI4.out HKD.out)).then hk6)
     obtain ⟨r0, r1, r2, r3, r4, r5, r6⟩ := got_cells HR6.out
     obtain ⟨z0, z1, z2, z3, z4, z5, z6⟩ := got_free HR6.out
     clear hres hk6 hR5 hnR5 hexc hy0
     go_wp2_with fail
     obtain ⟨f1, f2, f3, f4⟩ := Rdr.fin ok HN.out h6 HK6.out HR6.out HNR6.out (.int .i64 0) (.int .i64 0) nilB (.int .i64 0) (.int .i64 0) nilB nilB
     refine ret_cell3 (U := n0) (T := 34) Tryz.results48 rfl rfl rfl rfl f1 Tryz.underlying34 sval_size ?_
     have hn0 := HN.out
     have h4 := lt_of_heap HR4.out
     have hs5 := HS5.out
     refine ⟨0, 0, none, 0, 0, 0, 0, none, 0, 0, none, 0, 0, va, vm, vc, y, s6, rfl, f2, f3, ?_, fun hv => ?_, fun e => absurd e HY0.out⟩
     ·rw [HTR.out]
      rcases HRES.out with ⟨_, h⟩ | ⟨e0, e1, _, _⟩
      ·unfold excR
       split
       ·rename_i h0
        rw [h0] at h
        exact h.of0 HY0.out
       ·exact h
      ·unfold excR
       rw [if_pos e0]
       exact .inr (.inr e1)
     ·rcases HRES.out with ⟨e, _⟩ | ⟨e0, _, e2, hb6⟩
      ·exact absurd e hv
      ·rw [HTR.out]
       unfold excR
       rw [if_pos e0]
       exact ⟨e2, (hb6.keep f4 (fun i y e => by omega)).weak (fun i _ y => by omega)⟩
    ·have h3b : (t' == 3) = false := by simpa using h3
     by_cases h2' : t' = 2
     ·subst h2'
      have HTR : Hid (T = ((gt r.pr deep.toNat 12 s2).1, (gt r.pr deep.toNat 12 s2).2.1, [], (gt r.pr deep.toNat 12 s2).2.2)) := hdd (by rw [← HSQ.out, rcvR, if_pos rfl, if_pos rfl, if_pos rfl, if_neg (by decide), if_pos rfl])
      have hget := Rdr.gets ok deep.toNat deep 12 s2 w5 rfl hlo hhi HI5.out HRM.out
      go_wp2_with fail
      refine hget.mono ?_
      rintro e w6 ⟨ty, N, Sa, Sm, Sc, KT, E', Ia, Im, Ic, La, Lm, Lc, y, rfl, hy, ⟨s6, h6, hr6⟩, hk6, hval⟩
      have hR5 := (HKD.out.block n0 (lt_of_heap HR4.out) (fun x => x)).trans HR4.out
      have hnR5 : ¬ r.M w5 n0 := fun y => HNR4.out ((ok.turn HI4.out HKD.out (fun _ x => x.elim)).2 _ y)
      have HR6 := hdd ((hk6.block n0 (lt_of_heap hR5) hnR5).trans hR5)
      have HNR6 := hdd (hk6.not (lt_of_heap hR5) hnR5)
      have HK6 := hdd ((HKP4.out.then (ok.kept HI4.out HKD.out)).then hk6)
      have HY := hdd hy
      have HVAL := hdd hval
      have HSR6 := hdd hr6
      have HS56 := hdd hk6.size
      clear hval hy hr6 hget hR5 hnR5 hk6
      have hk7 : Keep (fun _ => False) w6 (w6.alloc (.cells (valC ty N (.slice Sa Sm Sc) KT E' (.slice Ia Im Ic) (.slice La Lm Lc)) 34 (0, 0))) := (Keep.refl _ w6).alloc _
      have hV7 := heap_alloc_new w6 (.cells (valC ty N (.slice Sa Sm Sc) KT E' (.slice Ia Im Ic) (.slice La Lm Lc)) 34 (0, 0))
      obtain ⟨w7, hW7⟩ : ∃ w7, w6.alloc (.cells #[.int .i64 ty, .int .i64 N, .slice Sa Sm Sc, .int .i64 KT, .int .i64 E', .slice Ia Im Ic, .slice La Lm Lc] 34 (0, 0)) = w7 := ⟨_, rfl⟩
      obtain ⟨V, hV⟩ : ∃ V, w6.heap.size = V := ⟨_, rfl⟩
      have hk7 : Keep (fun _ => False) w6 w7 := hW7 ▸ hk7
      have hV7 : w7.heap[V]? = some (.cells (valC ty N (.slice Sa Sm Sc) KT E' (.slice Ia Im Ic) (.slice La Lm Lc)) 34 (0, 0)) := hV ▸ hW7 ▸ hV7
      have hm7 : ∀ i, r.M w7 i → r.M w6 i := (ok.turn h6 hk7 (fun _ x => x.elim)).2
      have H7 := hdd (ok.fresh h6 hk7)
      have HM7 := hdd hm7
      have HV7 := hdd hV7
      have HNV7 : Hid (¬ r.M w7 V) := hdd (fun y => by have := ok.lt h6 _ (hm7 _ y); omega)
      have HR7 := hdd ((hk7.block n0 (lt_of_heap HR6.out) (fun x => x)).trans HR6.out)
      have HNR7 : Hid (¬ r.M w7 n0) := hdd (fun y => HNR6.out (hm7 _ y))
      have HK7 := hdd (HK6.out.then (ok.kept h6 hk7))
      have HKA := hdd hk7
      obtain ⟨c0, c1, c2, c3, c4, c5, c6⟩ := got_cells hV7
      obtain ⟨r0, r1, r2, r3, r4, r5, r6⟩ := got_cells HR7.out
      obtain ⟨z0, z1, z2, z3, z4, z5, z6⟩ := got_free HR7.out
      clear hk7 hV7 hm7
      by_cases hy0 : y = 0
      ·subst hy0
       have HSS := hdd (HSR6.out rfl)
       have hst : Calls _ _ _ _ _ := HE.out s6 w7 H7.out
       go_wp2_with fail
       refine hst.mono ?_
       rintro e w8 ⟨x8, t8, k8, z8, i8, N8, S8, rfl, ⟨a8, q8, c8', rfl⟩, hx8, ⟨s8, h8, hr8⟩, hk8, hv8⟩
       have HX8 := hdd hx8
       have HR8 := hdd ((hk8.block n0 (lt_of_heap HR7.out) HNR7.out).trans HR7.out)
       have HNR8 := hdd (hk8.not (i := n0) (lt_of_heap HR7.out) HNR7.out)
       have HV8 := hdd ((hk8.block V (lt_of_heap HV7.out) HNV7.out).trans HV7.out)
       have HVA := hdd (((HVAL.out (by first | rfl | trivial)).keep HKA.out (fun _ _ => (fun x => x))).keep hk8.keep (fun i y y2 => y.2 (HM7.out _ y2)))
       have HK8 := hdd (HK7.out.then hk8)
       have HSR8 := hdd hr8
       have hf := got_field0 x8 t8 k8 z8 i8 N8 (.slice a8 q8 c8')
       clear c0 c1 c2 c3 c4 c5 c6 r0 r1 r2 r3 r4 r5 r6 z0 z1 z2 z3 z4 z5 z6
       obtain ⟨c0, c1, c2, c3, c4, c5, c6⟩ := got_cells HV8.out
       obtain ⟨r0, r1, r2, r3, r4, r5, r6⟩ := got_cells HR8.out
       obtain ⟨z0, z1, z2, z3, z4, z5, z6⟩ := got_free HR8.out
       clear hx8 hr8 hk8 hv8 hst
       go_wp2_with fail
       obtain ⟨f1, f2, f3, f4⟩ := Rdr.fin ok HN.out h8 HK8.out HR8.out HNR8.out (.int .i64 ty) (.int .i64 N) (.slice Sa Sm Sc) (.int .i64 KT) (.int .i64 E') (.slice Ia Im Ic) (.slice La Lm Lc)
       refine ret_cell3 (U := n0) (T := 34) Tryz.results48 rfl rfl rfl rfl f1 Tryz.underlying34 sval_size ?_
       have hn0 := HN.out
       have h4 := lt_of_heap HR4.out
       have hs5 := HS5.out
       have hg0 := Sk.zero HY.out
       refine ⟨ty, N, Sa, Sm, Sc, KT, E', Ia, Im, Ic, La, Lm, Lc, none, 0, 0, x8, s8, rfl, f2, f3, ?_, fun hv => absurd rfl hv, fun e => ?_⟩
       ·rw [HTR.out, hg0]
        exact HX8.out
       ·rw [HTR.out]
        exact ⟨(HSR8.out e).trans HSS.out, rfl, (HVA.out.keep f4 (fun i y e => by have := y.1; omega)).weak (fun i _ y => by have := y.1; omega)⟩
      ·have hyb : (y == 0) = false := by simpa using hy0
       have HY0 := hdd hy0
       go_wp2_with fail
       obtain ⟨f1, f2, f3, f4⟩ := Rdr.fin ok HN.out H7.out HK7.out HR7.out HNR7.out (.int .i64 ty) (.int .i64 N) (.slice Sa Sm Sc) (.int .i64 KT) (.int .i64 E') (.slice Ia Im Ic) (.slice La Lm Lc)
       refine ret_cell3 (U := n0) (T := 34) Tryz.results48 rfl rfl rfl rfl f1 Tryz.underlying34 sval_size ?_
       exact ⟨ty, N, Sa, Sm, Sc, KT, E', Ia, Im, Ic, La, Lm, Lc, none, 0, 0, y, s6, rfl, f2, f3, by rw [HTR.out]; exact HY.out, fun hv => absurd rfl hv, fun e => absurd e HY0.out⟩
     ·have h2b : (t' != 2) = true := by simpa using h2'
      have HTR : Hid (T = (32, s2, m ++ wType.data.toList, V.zero)) := hdd (by rw [← HSQ.out, rcvR, if_pos rfl, if_pos rfl, if_pos rfl, if_neg h3, if_neg h2'])
      go_wp2_with fail
      refine (said_at HMO5.out wType (by have := HMB.out; show m.length + 22 ≤ _; omega)).mono ?_
      rintro e w6 ⟨va, vm, vc, rfl, hb6, hk6⟩
      have HB6 := hdd (hb6.weak (A' := (w4.heap.size ≤ ·)) (fun i _ y => by have := HS5.out; omega))
      have HK6 := hdd (HKD.out.then hk6)
      clear hb6 hk6
      go_wp2_with fail
      refine (faultKind_at 2 (by decide) (by decide) w6).mono ?_
      rintro e w7 ⟨rfl, rfl⟩
      rw [faultK2]
      obtain ⟨hRW, f1, hans⟩ := HMADE.out 32 _ w6 va vm vc HK6.out HB6.out HTR.out (by decide)
      obtain ⟨r0, r1, r2, r3, r4, r5, r6⟩ := got_cells hRW
      obtain ⟨z0, z1, z2, z3, z4, z5, z6⟩ := got_free hRW
      have HANS := hdd hans
      have HF1 := hdd f1
      clear hans f1
      go_wp2_with fail
      exact ret_cell3 (U := n0) (T := 34) Tryz.results48 rfl rfl rfl rfl HF1.out Tryz.underlying34 sval_size HANS.out
   ·have hsb : (N' != seq) = true := by simpa using hsq
    have HTR : Hid (T = (34, s2, m ++ wSeq.data.toList, V.zero)) := hdd (by rw [← HT.out, rcvR, if_pos HGR.out, if_pos HBM.out, if_neg hsq])
    go_wp2_with fail
    refine (said_at HMO5.out wSeq (by have := HMB.out; show m.length + 32 ≤ _; omega)).mono ?_
    rintro e w6 ⟨va, vm, vc, rfl, hb6, hk6⟩
    have HB6 := hdd (hb6.weak (A' := (w4.heap.size ≤ ·)) (fun i _ y => by have := HS5.out; omega))
    have HK6 := hdd (HKD.out.then hk6)
    clear hb6 hk6
    go_wp2_with fail
    refine (faultKind_at 4 (by decide) (by decide) w6).mono ?_
    rintro e w7 ⟨rfl, rfl⟩
    rw [faultK4]
    obtain ⟨hRW, f1, hans⟩ := HMADE.out 34 _ w6 va vm vc HK6.out HB6.out HTR.out (by decide)
    obtain ⟨r0, r1, r2, r3, r4, r5, r6⟩ := got_cells hRW
    obtain ⟨z0, z1, z2, z3, z4, z5, z6⟩ := got_free hRW
    have HANS := hdd hans
    have HF1 := hdd f1
    clear hans f1
    go_wp2_with fail
    exact ret_cell3 (U := n0) (T := 34) Tryz.results48 rfl rfl rfl rfl HF1.out Tryz.underlying34 sval_size HANS.out
  ·have hd : decide (gB = m) = false := decide_eq_false hb
   rw [hd]
   have HTR : Hid (T = (33, s2, m ++ wName.data.toList, V.zero)) := hdd (by rw [← HT.out, rcvR, if_pos HGR.out, if_neg hb])
   clear hd hb
   go_wp2_with fail
   refine (said_at HMO5.out wName (by have := HMB.out; show m.length + 19 ≤ _; omega)).mono ?_
   rintro e w6 ⟨va, vm, vc, rfl, hb6, hk6⟩
   have HB6 := hdd (hb6.weak (A' := (w4.heap.size ≤ ·)) (fun i _ y => by have := HS5.out; omega))
   have HK6 := hdd (HKD.out.then hk6)
   clear hb6 hk6
   go_wp2_with fail
   refine (faultKind_at 3 (by decide) (by decide) w6).mono ?_
   rintro e w7 ⟨rfl, rfl⟩
   rw [faultK3]
   obtain ⟨hRW, f1, hans⟩ := HMADE.out 33 _ w6 va vm vc HK6.out HB6.out HTR.out (by decide)
   obtain ⟨r0, r1, r2, r3, r4, r5, r6⟩ := got_cells hRW
   obtain ⟨z0, z1, z2, z3, z4, z5, z6⟩ := got_free hRW
   have HANS := hdd hans
   have HF1 := hdd f1
   clear hans f1
   go_wp2_with fail
   exact ret_cell3 (U := n0) (T := 34) Tryz.results48 rfl rfl rfl rfl HF1.out Tryz.underlying34 sval_size HANS.out
 ·have hxb : (x != 0) = true := by simpa using hx0
  have HX0 := hdd hx0
  have HQ1 : Hid (Sk T.1 x) := hdd (by
   rw [← HT.out, rcvR]
   have h := HX.out
   split
   ·rename_i h0
    rw [h0] at h
    exact h.of0 hx0
   ·exact h)
  have hR4 := (hk4.block n0 (lt_of_heap HR2.out) (fun x => x)).trans HR2.out
  have hnR4 : ¬ r.M (w2.alloc (.cells (gotA x t' kt size id N' (.slice a am ac)) 107 (0, 0))) n0 := fun y => HNR2.out (hm4 _ y)
  clear hv0 hr2
  go_wp2_with fail
  rw [hg2] at hG4
  generalize w2.alloc (.cells (gotA x t' kt size id N' (.slice a am ac)) 107 (0, 0)) = w4 at *
  have HR4 := hdd hR4
  have HI4 := hdd hi4
  have HKP4 := hdd (HK2.out.then hkp4)
  have HNR4 := hdd hnR4
  obtain ⟨u0, u1, u2, u3, u4, u5, u6⟩ := got_cells hG4
  obtain ⟨r0, r1, r2, r3, r4, r5, r6⟩ := got_cells hR4
  obtain ⟨z0, z1, z2, z3, z4, z5, z6⟩ := got_free hR4
  have hne : ¬ g2 = n0 := by have := lt_of_heap HR2.out; omega
  clear hG4 hR4 hnR4 hi4 hkp4 hk4 hm4 hs4
  go_region
  all_goals
   obtain ⟨f1, f2, f3, f4⟩ := Rdr.fin ok HN.out HI4.out HKP4.out HR4.out HNR4.out (.int .i64 0) (.int .i64 0) nilB (.int .i64 0) (.int .i64 0) nilB nilB
   obtain ⟨w9, hw9⟩ : ∃ w9, sset w4 n0 (.int .i64 0) (.int .i64 0) nilB (.int .i64 0) (.int .i64 0) nilB nilB = w9 := ⟨_, rfl⟩
   rw [hw9] at f1 f2 f3 f4
   unfold sset at hw9
   rw [hw9]
   clear hw9 u0 u1 u2 u3 u4 u5 u6 r0 r1 r2 r3 r4 r5 r6 z0 z1 z2 z3 z4 z5 z6
   have hkd : Keep (fun _ => False) w9 w9.drew := (Keep.refl _ w9).drew
   have f5 := ok.fresh f2 hkd
   have f6 := f3.then (ok.kept f2 hkd)
   have hR10 : w9.drew.heap[n0]? = some (.cells sVal 34 (0, 0)) := f1
   generalize w9.drew = wz at *
   go_wp2_with fail
   refine ret_cell3 (U := n0) (T := 34) Tryz.results48 rfl rfl rfl rfl hR10 Tryz.underlying34 sval_size ?_
   exact ⟨0, 0, none, 0, 0, 0, 0, none, 0, 0, none, 0, 0, none, 0, 0, x, s2, rfl, f5, f6, HQ1.out, fun hv => absurd rfl hv, fun e => absurd e HX0.out⟩
def Pm.SRcvP {St : Type} (p : Pm St) (deep : Int) (T : Int × St × List UInt8 × _root_.Go.Proofs.YthehmlbolajljaaGreatDoor.V) (w : World) (e : Ending) (w' : World) : Prop :=
 ∃ ty N Sa Sm Sc KT E' Ia Im Ic La Lm Lc va vm vc x left, e = .returned (.tuple #[.agg (valC ty N (.slice Sa Sm Sc) KT E' (.slice Ia Im Ic) (.slice La Lm Lc)), .slice va vm vc, .int .i64 x, .int .i64 left]) ∧ Sk T.1 x ∧
  (vm ≠ 0 → left = p.pr.len T.2.1 ∧ ∃ A', BytesAt A' w' (.slice va vm vc) T.2.2.1) ∧ (x = 0 → left = p.pr.len T.2.1 ∧ T.2.2.1 = [] ∧ ∃ A', ValAt deep.toNat A' w' (valC ty N (.slice Sa Sm Sc) KT E' (.slice Ia Im Ic) (.slice La Lm Lc)).toList T.2.2.2) ∧ Keep (fun _ => False) w w'
set_option maxRecDepth 100000 in
theorem Pm.spec_recv {St : Type} (p : Pm St) {A A2 : Nat → Prop} (seq deep : Int) (hd0 : -9223372036854775808 ≤ deep) (hd1 : deep ≤ 9223372036854775807) (mv : Value) (m : List UInt8) (v : Value) (l : List UInt8) (w : World) (hm : BytesAt A2 w mv m) (hml : m.length ≤ 1099511627775) (h : BytesAt A w v l) (hl : l.length ≤ 1099511627775)
  (T : Int × St × List UInt8 × _root_.Go.Proofs.YthehmlbolajljaaGreatDoor.V) (hT : rcvR p.pr (p.gK (p.st0 l)) (p.gT (p.st0 l)) (p.gN (p.st0 l)) (p.gB (p.st0 l)) (p.gS (p.st0 l)) seq m deep.toNat = T) :
  Calls Tryz.prog 23 #[confV p.no p.c, .int .i32 seq, mv, v, .int .i64 deep] w (p.SRcvP deep T w) := by
 have HT := hdd hT
 clear hT
 have hk0 : Keep (fun _ => False) w ((w.alloc (.cells (confC p.no p.c) 37 (0, 0))).alloc (.cells sVal 34 (0, 0))) := ((Keep.refl _ w).alloc _).alloc _
 have hv0 : ((w.alloc (.cells (confC p.no p.c) 37 (0, 0))).alloc (.cells sVal 34 (0, 0))).heap[w.heap.size + 1]? = some (.cells sVal 34 (0, 0)) := heap_alloc_at (by simp) _
 have hs0 : ((w.alloc (.cells (confC p.no p.c) 37 (0, 0))).alloc (.cells sVal 34 (0, 0))).heap.size = w.heap.size + 2 := by simp
 obtain ⟨mva, mvm, mvc, rfl⟩ := hm.shape
 have hmo : BytesAt (· < w.heap.size) w (.slice mva mvm mvc) m := hm.weak (fun i hi _ => hi)
 go_enter Tryz.func23, Tryz.ntmps23
 go_wp2_with fail
 obtain ⟨n0, hn⟩ : ∃ n0, w.heap.size = n0 := ⟨_, rfl⟩
 rw [hn] at hv0 hs0 ⊢
 generalize (w.alloc (.cells (confC p.no p.c) 37 (0, 0))).alloc (.cells sVal 34 (0, 0)) = w1 at *
 have HN := hdd hn
 have HV0 := hdd hv0
 have HS0 := hdd hs0
 have HK0 := hdd hk0
 clear hn hv0 hs0
 refine (p.read v l w1 (h.keep hk0 (fun _ _ => id)) (by omega)).mono ?_
 rintro e w2 ⟨r, rfl, ok, hpr, hi, hk2, hM, hleft, hst0, hst1⟩
 have HL := hdd hleft
 have HM := hdd hM
 have HK2 := hdd hk2
 have hm2 := hmo.keep (hk0.then hk2) (fun _ _ x => x)
 have hR2 := (hk2.block (n0 + 1) (lt_of_heap HV0.out) (fun x => x)).trans HV0.out
 have hnR2 : ¬ r.M w2 (n0 + 1) := fun y => by have := hM _ y; have := HS0.out; omega
 have hans := Rdr.answer ok (by rw [hpr]; exact p.lt) seq _ m (by omega) deep hd0 hd1 (p.st0 l) w2 hi hm2 (fun i hi2 y => by have := hM i y; have := HS0.out; have := HN.out; omega) (p.gK (p.st0 l)) (p.gS (p.st0 l)) (p.gT (p.st0 l)) (p.gN (p.st0 l)) (p.gB (p.st0 l)) (by rw [hpr]; exact p.gS_room _ (p.room0 l hl)) (p.gN_w _) (fun w h => hst0 _ w h) (fun s w h => hst1 s w h) T (by rw [hpr]; exact HT.out)
 have HR2 := hdd hR2
 have HNR2 := hdd hnR2
 have HPR := hdd hpr
 clear hleft hM hk0 hk2 hm2 hR2 hnR2 hst0 hst1 hmo hm hpr
 go_wp2_with fail
 refine hans.mono ?_
 rintro e w4 ⟨ty, N, Sa, Sm, Sc, KT, E', Ia, Im, Ic, La, Lm, Lc, va, vm, vc, x, s2, rfl, h4, hk4, hx, htx, hvl⟩
 have HX := hdd hx
 have HTX := hdd htx
 have HVL := hdd hvl
 have HR4 := hdd ((hk4.block (n0 + 1) (lt_of_heap HR2.out) HNR2.out).trans HR2.out)
 have HNR4 := hdd (hk4.not (lt_of_heap HR2.out) HNR2.out)
 have HK4 := hdd hk4.keep
 obtain ⟨r0, r1, r2, r3, r4, r5, r6⟩ := got_cells HR4.out
 obtain ⟨z0, z1, z2, z3, z4, z5, z6⟩ := got_free HR4.out
 clear hx htx hvl hk4 hans
 go_wp2_with fail
 have hR5 := sval_set HR4.out (.int .i64 ty) (.int .i64 N) (.slice Sa Sm Sc) (.int .i64 KT) (.int .i64 E') (.slice Ia Im Ic) (.slice La Lm Lc)
 have hk5 := sval_keep (M := fun i => n0 + 1 = i) (Keep.refl _ w4) (R := n0 + 1) (fun _ => rfl) (.int .i64 ty) (.int .i64 N) (.slice Sa Sm Sc) (.int .i64 KT) (.int .i64 E') (.slice Ia Im Ic) (.slice La Lm Lc)
 clear r0 r1 r2 r3 r4 r5 r6 z0 z1 z2 z3 z4 z5 z6
 generalize ((((((w4.setCell ⟨n0 + 1, 0, none⟩ (.int .i64 ty)).setCell ⟨n0 + 1, 1, none⟩ (.int .i64 N)).setCell ⟨n0 + 1, 2, none⟩ (.slice Sa Sm Sc)).setCell ⟨n0 + 1, 3, none⟩ (.int .i64 KT)).setCell ⟨n0 + 1, 4, none⟩ (.int .i64 E')).setCell ⟨n0 + 1, 5, none⟩ (.slice Ia Im Ic)).setCell ⟨n0 + 1, 6, none⟩ (.slice La Lm Lc) = w5 at *
 have h5 := (ok.turn h4 hk5 (fun i e => by subst e; exact HNR4.out)).1
 have hkd : Keep (fun _ => False) w5 w5.drew := (Keep.refl _ w5).drew
 have HLEFT := hdd (HL.out s2 w5.drew (ok.fresh h5 hkd))
 have HR5 := hdd hR5
 have HK5 := hdd hk5
 obtain ⟨r0, r1, r2, r3, r4, r5, r6⟩ := got_cells hR5
 obtain ⟨z0, z1, z2, z3, z4, z5, z6⟩ := got_free hR5
 clear hR5 hk5 hkd h5
 go_region_with (go_at_call 34; refine HLEFT.out.mono ?_; rintro e w6 ⟨rfl, rfl⟩)
 all_goals
  go_wp2_with fail
  have hn0 := HN.out
  have hs1 := HS0.out
  have hR9 := sval_set HR5.out (.int .i64 ty) (.int .i64 N) (.slice Sa Sm Sc) (.int .i64 KT) (.int .i64 E') (.slice Ia Im Ic) (.slice La Lm Lc)
  have hk59 := sval_keep (M := fun i => n0 + 1 = i) (Keep.refl _ w5) (R := n0 + 1) (fun _ => rfl) (.int .i64 ty) (.int .i64 N) (.slice Sa Sm Sc) (.int .i64 KT) (.int .i64 E') (.slice Ia Im Ic) (.slice La Lm Lc)
  generalize ((((((w5.setCell ⟨n0 + 1, 0, none⟩ (.int .i64 ty)).setCell ⟨n0 + 1, 1, none⟩ (.int .i64 N)).setCell ⟨n0 + 1, 2, none⟩ (.slice Sa Sm Sc)).setCell ⟨n0 + 1, 3, none⟩ (.int .i64 KT)).setCell ⟨n0 + 1, 4, none⟩ (.int .i64 E')).setCell ⟨n0 + 1, 5, none⟩ (.slice Ia Im Ic)).setCell ⟨n0 + 1, 6, none⟩ (.slice La Lm Lc) = w9 at *
  have hk49 : Keep (fun i => n0 + 1 = i) w4 w9.drew := (HK5.out.then hk59).drew
  have hR10 : w9.drew.heap[n0 + 1]? = some (.cells (valC ty N (.slice Sa Sm Sc) KT E' (.slice Ia Im Ic) (.slice La Lm Lc)) 34 (0, 0)) := hR9
  have hk9 : Keep (fun _ => False) w w9.drew := ((HK0.out.then HK2.out).trans HK4.out (fun i hi y => by have := HM.out i y; omega)).trans hk49 (fun i hi e => by omega)
  have hr4 := lt_of_heap HR4.out
  have hk2s := HK2.out.size
  refine ret_cell4 (U := n0 + 1) (T := 34) Tryz.results23 rfl rfl rfl rfl rfl hR10 Tryz.underlying34 sval_size ?_
  refine ⟨ty, N, Sa, Sm, Sc, KT, E', Ia, Im, Ic, La, Lm, Lc, va, vm, vc, x, _, rfl, HX.out, fun hv => ?_, fun hz => ?_, hk9⟩
  ·obtain ⟨e1, e2⟩ := HTX.out hv
   refine ⟨by rw [e1, HPR.out], (w2.heap.size ≤ ·), e2.keep hk49 (fun i y e => by omega)⟩
  ·obtain ⟨e1, e2, e3⟩ := HVL.out hz
   exact ⟨by rw [e1, HPR.out], e2, (w2.heap.size ≤ ·), e3.keep hk49 (fun i y e => by omega)⟩
end Go.Proofs.YthehmlbolajljaaGreatDoor
