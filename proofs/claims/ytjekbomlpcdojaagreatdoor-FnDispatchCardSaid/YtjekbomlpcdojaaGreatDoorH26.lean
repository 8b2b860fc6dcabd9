/- Part 26 of the proof: Set3, Cv0, Cv1, ReadR, Get1R, Val1. -/
import Derived.Test.YtjekbomlpcdojaaGreatDoorH20
import Derived.Test.YtjekbomlpcdojaaGreatDoorH25
import Derived.Test.YtjekbomlpcdojaaGreatDoorH22
import Derived.Test.YtjekbomlpcdojaaGreatDoorH14
import Derived.Test.YtjekbomlpcdojaaGreatDoorH15
import Derived.Laws.IdiomStrings
import Derived.Laws.AppendOwn
import Derived.Deep.RegionWith
set_option linter.unusedVariables false
set_option linter.unusedSimpArgs false
set_option linter.unusedSectionVars false
set_option maxHeartbeats 16000000
namespace Go.Proofs.YtjekbomlpcdojaaGreatDoor
open Go Go.RowKit
abbrev ctpO (MB : Nat) (a : Option Addr) : Obj := .cells (cmpC MB a (.slice none 0 0) 0 false false (List.replicate 64 0)).toArray 256 (0, 0)
set_option maxRecDepth 100000 in
theorem ctpConf_at {M : Nat → Prop} {w : World} {a : Option Addr} {c : Cfg} (h : CfgAt M w a c) (MB : Nat) :
  Calls Tryz.prog 69 #[memV MB, .pointer a] w fun e w' => e = .returned (.pointer (some ⟨w.heap.size, 0, none⟩)) ∧ w'.heap[w.heap.size]? = some (ctpO MB a) ∧ Keep (fun _ => False) w w' := by
 have hta := ta_mem_rich
 go_enter Tryz.func69, Tryz.ntmps69
 go_wp2_with fail
 refine (propagate_at h _).mono ?_
 rintro e w1 ⟨rfl, rfl⟩
 go_wp2_with fail
 go_ret
 refine ⟨rfl, ?_, ?_⟩
 ·exact (heap_alloc_new w _).trans rfl
 ·exact (Keep.refl _ w).alloc _
set_option maxRecDepth 100000 in
theorem protocol_ctp (c : Cfg) (MB : Nat) (w : World) :
  Calls Tryz.prog 35 #[confV 1 c, memV MB] w fun e w' => ∃ P a, e = .returned (.iface 154 (.pointer (some ⟨P, 0, none⟩))) ∧ w.heap.size ≤ P ∧ w'.heap[P]? = some (ctpO MB a) ∧ CfgAt (fun i => i < w.heap.size ∨ P ≤ i) w' a c ∧ Keep (fun _ => False) w w' := by
 go_enter Tryz.func35, Tryz.ntmps35
 go_wp2_with fail
 generalize hw1 : w.alloc (.cells _ 23) = w1
 have hk1 : Keep (fun _ => False) w w1 := hw1 ▸ (Keep.refl _ w).alloc _
 have hs1 : w.heap.size ≤ w1.heap.size := hk1.size
 clear hw1
 refine (config_at 1 c w1).mono ?_
 rintro e w2 ⟨a, rfl, hc2, hk2⟩
 go_wp2_with fail
 refine (ctpConf_at hc2 MB).mono ?_
 rintro e w3 ⟨rfl, hP, hk3⟩
 have HP := hdd hP
 clear hP
 go_wp2_with fail
 go_ret
 refine ⟨_, a, rfl, Nat.le_trans hs1 hk2.size, HP.out, ?_, hk1.then (hk2.then hk3)⟩
 refine (CfgAt.weak (N := fun i => i < w.heap.size ∨ w2.heap.size ≤ i) hc2 (fun i hi h => ?_)).keep hk3 (fun _ x => x.elim)
 rcases h with h | h
 ·exact .inl (by omega)
 ·exact .inr h
theorem byteA (l : ByteArray) (j : Nat) (b : UInt8) (h : l.data.toList[j]? = some b) (c : Nat) : (bytesRow l c)[j]? = some (.int .u8 (b.toNat : Int)) := by
 have hj : j < l.data.toList.length := (List.getElem?_eq_some_iff.1 h).1
 have hb : l.data[j]? = some b := by simpa using h
 have hs : j < (l.data.map (fun b => Value.int .u8 (b.toNat : Int))).size := by simpa using hj
 unfold bytesRow
 rw [Array.getElem?_append_left hs, Array.getElem?_map, hb]
 rfl
def cvW (w : World) (l : ByteArray) : World := w.drew.alloc (.cells (bytesRow l (grownCap w l.size 0 5)) 5 ((bytesRow l (grownCap w l.size 0 5)).size, (bytesRow l (grownCap w l.size 0 5)).size + 1))
def cvV (w : World) (l : ByteArray) : Value := .slice (some ⟨w.heap.size, 0, none⟩) l.size (grownCap w l.size 0 5)
theorem cv_run (l : ByteArray) (w : World) : (convert 9 24 (.string l)).run Tryz.prog w = .ok (cvV w l) (cvW w l) :=
 run_bytes_of_string (P := Tryz.prog) w 9 24 5 l Tryz.underlying9 Tryz.underlying24 Tryz.underlying5
theorem cvW_keep (l : ByteArray) (w : World) : Keep (fun _ => False) w (cvW w l) := ((Keep.refl _ w).drew).alloc _
theorem cv_at (l : ByteArray) (w : World) (hl : l.size ≤ 140737488355328) : BytesAt (w.heap.size ≤ ·) (cvW w l) (cvV w l) l.data.toList := by
 have hge := grownCap_ge w l.size 0 5
 have hlen : l.data.toList.length = l.size := by simp
 by_cases h0 : l.data.toList = []
 ·rw [h0] at hlen ⊢
  exact .inl ⟨rfl, _, _, by rw [cvV, ← hlen]; rfl⟩
 ·refine .inr ⟨h0, w.heap.size, 0, _, by rw [hlen]; rfl, by rw [hlen]; exact hge, by rw [hlen]; exact hl, Nat.le_refl _, fun j b hj => ?_⟩
  have hblk : (cvW w l).heap[w.heap.size]? = _ := heap_alloc_new w.drew _
  rw [Nat.zero_add, cellAt hblk]
  exact byteA l j b hj _
def Rp.ReadP {St : Type} (K : Rp.Ctx St) (w : World) (k : Int) (s' : St) (N : Int) (S : List UInt8) (e : Ending) (w' : World) : Prop :=
 ∃ n v ev, e = .returned (.tuple #[gotV 0 0 0 0 0 n v, ev]) ∧ Rp.Post K w w' k ev s' ∧ (∃ a m c, v = .slice a m c) ∧ (k = 0 → n = N ∧ BytesAt (fun i => w.heap.size ≤ i ∧ ¬ K.M w' i) w' v S)
set_option maxRecDepth 100000 in
theorem Rp.read16 {St : Type} {a1 a2 a3 a4 a5 : Int} {sv : Value} (K : Rp.Ctx St) (s : St) (w : World) (h : K.Inv s w) :
  Calls Tryz.prog 91 #[K.V, .agg (stepJ 16 a1 a2 a3 a4 a5 sv)] w (Rp.ReadP K w (K.pr.scK 8 s) (K.pr.scS 8 s) (K.pr.scN 8 s) (K.pr.scB 8 s)) := by
 obtain ⟨hnam, hna, hnac⟩ := K.mI32
 go_enter Tryz.func91, Tryz.ntmps91
 go_wp2_with fail
 have hk0 : Keep (fun _ => False) w ((w.alloc (.cells (stepJ 16 a1 a2 a3 a4 a5 sv) 63 (0, 0))).alloc (.cells zGot 145 (0, 0))) := ((Keep.refl _ w).alloc _).alloc _
 have hU0 : ((w.alloc (.cells (stepJ 16 a1 a2 a3 a4 a5 sv) 63 (0, 0))).alloc (.cells zGot 145 (0, 0))).heap[w.heap.size + 1]? = some (.cells zGot 145 (0, 0)) := heap_alloc_at (by simp) _
 obtain ⟨U, hU⟩ : ∃ U, w.heap.size + 1 = U := ⟨_, rfl⟩
 rw [hU] at hU0 ⊢
 generalize (w.alloc (.cells (stepJ 16 a1 a2 a3 a4 a5 sv) 63 (0, 0))).alloc (.cells zGot 145 (0, 0)) = w1 at *
 have HU := hdd hU
 have HU0 := hdd hU0
 have hM := Rp.M_new h hk0
 have HM := hdd hM
 clear hU hU0 hM
 go_region_with (first | (go_at_call 37; refine (ctx_at _).mono ?_; rintro e w' ⟨rfl, rfl⟩) | (refine (K.readI32 (w := w1.drew) (h.fresh hk0.drew)).mono ?_; rintro e w2 ⟨n, ev, rfl, hp, hv, b1, b2⟩; have HP := hdd hp; have HV := hdd hv; clear hp hv))
 all_goals
  have hb := ((HP.out.keep.block U (by simpa using lt_of_heap HU0.out) (fun x => by have := HM.out U x; have := HU.out; omega)).trans HU0.out)
  have HB := hdd hb
  obtain ⟨u0, u1, u2, u3, u4, u5, u6⟩ := got_cells hb
  obtain ⟨f0, f1, f2, f3, f4, f5, f6⟩ := got_free hb
  clear hb
  go_wp2_with fail
  have hk2 : Keep (fun i => U = i) w2 (gotW w2 U 0 0 0 0 0 n nilB) := got_keep (Keep.refl _ w2) (fun _ => rfl) _ _ _ _ _ _ _
  refine ret_cell2 (U := U) (T := 145) Tryz.results91 rfl rfl rfl (got_set HB.out _ _ _ _ _ _ _) Tryz.underlying145 igot_size ?_
  refine ⟨n, nilB, ev, rfl, ?_, ⟨_, _, _, rfl⟩, fun hk => ⟨HV.out hk, .inl ⟨(K.b0 8 s (by decide) (by decide)), _, _, rfl⟩⟩⟩
  exact Rp.through h hk0.drew HP.out hk2 (fun i hi => by have := HU.out; have := lt_of_heap HU0.out; simp; omega)
set_option maxRecDepth 100000 in
theorem Rp.get8 {St : Type} (K : Rp.Ctx St) (deep : Int) (hd : 0 < deep) (s : St) (w : World) (h : K.Inv s w) :
  Calls Tryz.prog 66 #[K.V, .int .u8 8, .int .i64 deep] w fun e w' => ∃ n v ev, e = .returned (.tuple #[.agg (valC 8 n v 0 0 (.slice none 0 0) (.slice none 0 0)), ev]) ∧ Rp.Post K w w' (K.pr.scK 8 s) ev (K.pr.scS 8 s) ∧ (K.pr.scK 8 s = 0 → n = K.pr.scN 8 s ∧ BytesAt (fun i => w.heap.size ≤ i ∧ ¬ K.M w' i) w' v (K.pr.scB 8 s)) := by
 go_enter Tryz.func66, Tryz.ntmps66
 go_wp2_with fail
 obtain ⟨hk0, hR, hV, hG, hs⟩ := getW_facts w 8
 obtain ⟨n0, hn⟩ : ∃ n0, w.heap.size = n0 := ⟨_, rfl⟩
 rw [hn] at hR hV hG hs ⊢
 unfold getW at hk0 hR hV hG hs
 generalize ((w.alloc (.cells zVal 45 (0, 0))).alloc (.cells (valC 8 0 nilB 0 0 (.slice none 0 0) (.slice none 0 0)) 45 (0, 0))).alloc (.cells zGot 145 (0, 0)) = w1 at *
 have HN := hdd hn
 have HR := hdd hR
 have HV := hdd hV
 have HG := hdd hG
 have HS := hdd hs
 have HM := hdd (Rp.M_new h hk0)
 clear hn hR hV hG hs
 refine (Rp.read16 K s w1 (h.fresh hk0)).mono ?_
 rintro e w2 ⟨n, v, ev, rfl, hp, ⟨va, vm, vc, rfl⟩, hres⟩
 have hnew : ∀ i, n0 ≤ i → ¬ K.M w1 i := fun i hi x => by have := HM.out i x; have := HN.out; omega
 have hR2 := (hp.keep.block n0 (lt_of_heap HR.out) (hnew _ (by omega))).trans HR.out
 have hV2 := (hp.keep.block (n0 + 1) (lt_of_heap HV.out) (hnew _ (by omega))).trans HV.out
 have hG2 := (hp.keep.block (n0 + 1 + 1) (lt_of_heap HG.out) (hnew _ (by omega))).trans HG.out
 have HP := hdd hp
 have HRES := hdd hres
 have HR2 := hdd hR2
 have HV2 := hdd hV2
 have HG2 := hdd hG2
 obtain ⟨u0, u1, u2, u3, u4, u5, u6⟩ := got_cells hG2
 obtain ⟨f0, f1, f2, f3, f4, f5, f6⟩ := got_free hG2
 clear hp hres hR2 hV2 hG2 hnew
 go_wp2_with fail
 have hG3 := got_set HG2.out 0 0 0 0 0 n (.slice va vm vc)
 have hk3 : Keep (fun i => n0 + 1 + 1 = i) w2 (gotW w2 (n0 + 1 + 1) 0 0 0 0 0 n (.slice va vm vc)) := got_keep (Keep.refl _ w2) (fun _ => rfl) _ _ _ _ _ _ _
 clear u0 u1 u2 u3 u4 u5 u6 f0 f1 f2 f3 f4 f5 f6
 obtain ⟨w3, hw3⟩ : ∃ w3, gotW w2 (n0 + 1 + 1) 0 0 0 0 0 n (.slice va vm vc) = w3 := ⟨_, rfl⟩
 rw [hw3] at hG3 hk3
 unfold gotW at hw3
 rw [hw3]
 clear hw3
 have hV3 := (hk3.block (n0 + 1) (lt_of_heap HV2.out) (by omega)).trans HV2.out
 have hR3 := (hk3.block n0 (lt_of_heap HR2.out) (by omega)).trans HR2.out
 obtain ⟨u0, u1, u2, u3, u4, u5, u6⟩ := got_cells hG3
 obtain ⟨x0, x1, x2, x3, x4, x5, x6⟩ := got_cells hV3
 obtain ⟨y0, y1, y2, y3, y4, y5, y6⟩ := got_free hV3
 obtain ⟨r0, r1, r2, r3, r4, r5, r6⟩ := got_cells hR3
 obtain ⟨z0, z1, z2, z3, z4, z5, z6⟩ := got_free hR3
 have HV3 := hdd hV3
 have HR3 := hdd hR3
 clear hV3 hR3 hG3
 go_region
 all_goals
  go_wp2_with fail
  have hn0 := HN.out
  have hs1 := HS.out
  have hR4 : ((w3.setCell ⟨n0 + 1, 1, none⟩ (.int .i64 n)).setCell ⟨n0 + 1, 2, none⟩ (.slice va vm vc)).heap[n0]? = some (.cells zVal 45 (0, 0)) := (heap_set_other (p := ⟨n0 + 1, 2, none⟩) _ (by simp)).trans ((heap_set_other (p := ⟨n0 + 1, 1, none⟩) _ (by simp)).trans HR3.out)
  have hkN : Keep (fun i => n0 ≤ i ∧ i < n0 + 3) w2 w3 := hk3.weak (fun i _ e => by omega)
  have hkW := (((((((((hkN.set (n0 + 1) 1 (fun _ => by omega) (.int .i64 n)).set (n0 + 1) 2 (fun _ => by omega) (.slice va vm vc)).set n0 0 (fun _ => by omega) (.int .i64 8)).set n0 1 (fun _ => by omega) (.int .i64 n)).set n0 2 (fun _ => by omega) (.slice va vm vc)).set n0 3 (fun _ => by omega) (.int .i64 0)).set n0 4 (fun _ => by omega) (.int .i64 0)).set n0 5 (fun _ => by omega) (.slice none 0 0)).set n0 6 (fun _ => by omega) (.slice none 0 0)).drew
  have hR5 := val_set hR4 (.int .i64 8) (.int .i64 n) (.slice va vm vc) (.int .i64 0) (.int .i64 0) (.slice none 0 0) (.slice none 0 0)
  generalize ((((((((w3.setCell ⟨n0 + 1, 1, none⟩ (.int .i64 n)).setCell ⟨n0 + 1, 2, none⟩ (.slice va vm vc)).setCell ⟨n0, 0, none⟩ (.int .i64 8)).setCell ⟨n0, 1, none⟩ (.int .i64 n)).setCell ⟨n0, 2, none⟩ (.slice va vm vc)).setCell ⟨n0, 3, none⟩ (.int .i64 0)).setCell ⟨n0, 4, none⟩ (.int .i64 0)).setCell ⟨n0, 5, none⟩ (.slice none 0 0)).setCell ⟨n0, 6, none⟩ (.slice none 0 0) = w4 at *
  have hR6 : w4.drew.heap[n0]? = some (.cells #[.int .i64 8, .int .i64 n, .slice va vm vc, .int .i64 0, .int .i64 0, .slice none 0 0, .slice none 0 0] 45 (0, 0)) := hR5
  refine ret_cell2 (U := n0) (T := 45) Tryz.results66 rfl rfl rfl hR6 Tryz.underlying45 ival_size ?_
  refine ⟨n, _, ev, rfl, Rp.through h hk0 HP.out hkW (fun i hi => by omega), fun hz => ⟨(HRES.out hz).1, ?_⟩⟩
  exact ((HRES.out hz).2.keep hkW (fun i hi e => by have := hi.1; omega)).weak (fun i _ hi => ⟨by have := hi.1; omega, fun x => hi.2 (Rp.through_M h hk0 HP.out hkW (fun i hi => by omega) i x)⟩)
structure VB (TV : TypeId) (d B0 U : Nat) (A : Nat → Prop) (T K E : Int) (ids : List Int) (vs : List V) (iv lv : Value) (rows : List (List Value)) (w : World) : Prop where
 blk : w.heap[U]? = some (.cells (valC T 0 nilB K E iv lv) TV (0, 0))
 inA : A U
 base : ∀ i, A i → B0 ≤ i
 ids : w.ownsRow B0 3 1 iv ids.length (ids.map (Value.int .i64))
 parts : w.ownsRow B0 TV 7 lv vs.length rows.flatten
 inI : ∀ i, iv.ownBlock = some i → A i
 inL : ∀ i, lv.ownBlock = some i → A i
 len : rows.length = vs.length
 each : ∀ (j : Nat) (x : V), vs[j]? = some x → ∃ cs, rows[j]? = some cs ∧ ValAt d (fun i => A i ∧ i ≠ U ∧ iv.ownBlock ≠ some i ∧ lv.ownBlock ≠ some i) w cs x
 neI : iv.ownBlock ≠ some U
 neL : lv.ownBlock ≠ some U
 ne : iv.ownBlock = none ∨ iv.ownBlock ≠ lv.ownBlock
variable {TV : TypeId} {d B0 U : Nat} {A A' : Nat → Prop} {T K E : Int} {ids : List Int} {vs : List V} {iv lv : Value} {rows : List (List Value)} {w : World}
theorem ownsRow_keep {M : Nat → Prop} {w w' : World} {e : TypeId} {size n : Nat} {v : Value} {xs : List Value} (h : w.ownsRow B0 e size v n xs) (k : Keep M w w') (hM : ∀ i, v.ownBlock = some i → ¬ M i) : w'.ownsRow B0 e size v n xs := by
 refine ⟨h.1, ?_⟩
 rcases h.2 with hn | ⟨g, cap, cur, rfl, hb, hgg, rest⟩
 ·exact .inl hn
 ·exact .inr ⟨g, cap, cur, rfl, hb, (k.block g (lt_of_heap hgg) (hM g rfl)).trans hgg, rest⟩
theorem VB.keep {M : Nat → Prop} {w' : World} (h : VB TV d B0 U A T K E ids vs iv lv rows w) (k : Keep M w w') (hM : ∀ i, A i → ¬ M i) : VB TV d B0 U A T K E ids vs iv lv rows w' :=
 ⟨(k.block U (lt_of_heap h.blk) (hM U h.inA)).trans h.blk, h.inA, h.base, ownsRow_keep h.ids k (fun i e => hM i (h.inI i e)), ownsRow_keep h.parts k (fun i e => hM i (h.inL i e)), h.inI, h.inL, h.len,
  fun j x hj => let ⟨cs, h1, h2⟩ := h.each j x hj; ⟨cs, h1, h2.keep k (fun i hi => hM i hi.1)⟩, h.neI, h.neL, h.ne⟩
theorem VB.weak (h : VB TV d B0 U A T K E ids vs iv lv rows w) (hA : ∀ i, i < w.heap.size → A i → A' i) (hB : ∀ i, A' i → B0 ≤ i) : VB TV d B0 U A' T K E ids vs iv lv rows w :=
 ⟨h.blk, hA U (lt_of_heap h.blk) h.inA, hB, h.ids, h.parts, fun i e => hA i (h.ids.lt i e).2 (h.inI i e), fun i e => hA i (h.parts.lt i e).2 (h.inL i e), h.len,
  fun j x hj => let ⟨cs, h1, h2⟩ := h.each j x hj; ⟨cs, h1, h2.weak (fun i hi y => ⟨hA i hi y.1, y.2⟩)⟩, h.neI, h.neL, h.ne⟩
theorem flat7 : ∀ (rows : List (List Value)), (∀ cs ∈ rows, cs.length = 7) → ∀ (j : Nat) (cs : List Value), rows[j]? = some cs → ∀ (i : Nat) (v : Value), i < 7 → cs[i]? = some v → rows.flatten[j * 7 + i]? = some v
 | [], _, j, cs, hj, _, _, _, _ => by simp at hj
 | c0 :: r, hl, 0, cs, hj, i, v, hi, hv => by
  simp at hj
  subst hj
  have h7 := hl c0 (by simp)
  rw [List.flatten_cons, List.getElem?_append_left (by omega)]
  simpa using hv
 | c0 :: r, hl, j + 1, cs, hj, i, v, hi, hv => by
  have h7 := hl c0 (by simp)
  rw [List.flatten_cons, List.getElem?_append_right (by omega)]
  have := flat7 r (fun c hc => hl c (by simp [hc])) j cs (by simpa using hj) i v hi hv
  rw [h7, show (j + 1) * 7 + i - 7 = j * 7 + i by omega]
  exact this
theorem VB.grow {w1 w3 : World} {iv' lv' : Value} {ids' : List Int} {xs : List V} {css : List (List Value)} (h : VB TV d B0 U A T K E ids vs iv lv rows w1)
  (hxl : css.length = xs.length) (hx : ∀ (j : Nat) (x : V), xs[j]? = some x → ∃ cs, css[j]? = some cs ∧ ValAt d (fun i => A i ∧ i ≠ U ∧ iv.ownBlock ≠ some i ∧ lv.ownBlock ≠ some i) w1 cs x)
  (hi : w3.ownsRow B0 3 1 iv' ids'.length (ids'.map (Value.int .i64))) (hl : w3.ownsRow B0 TV 7 lv' (vs.length + xs.length) (rows.flatten ++ css.flatten))
  (hk : Keep (fun i => iv.ownBlock = some i ∨ lv.ownBlock = some i) w1 w3) (hni : ∀ i, iv'.ownBlock = some i → iv.ownBlock = some i ∨ w1.heap.size ≤ i) (hnl : ∀ i, lv'.ownBlock = some i → lv.ownBlock = some i ∨ w1.heap.size ≤ i)
  (hne : iv'.ownBlock = none ∨ iv'.ownBlock ≠ lv'.ownBlock) {w4 : World} (hblk : w4.heap[U]? = some (.cells (valC T 0 nilB K E iv' lv') TV (0, 0))) (hk4 : Keep (fun i => U = i) w3 w4)
  (hA : ∀ i, i < w1.heap.size → A i → A' i) (hN : ∀ i, w1.heap.size ≤ i → i < w3.heap.size → A' i) (hB : ∀ i, A' i → B0 ≤ i) :
  VB TV d B0 U A' T K E ids' (vs ++ xs) iv' lv' (rows ++ css) w4 := by
 have hU : U < w1.heap.size := lt_of_heap h.blk
 have hiU : ∀ i, iv'.ownBlock = some i → i ≠ U := fun i e he => by
  rcases hni i e with h1 | h1
  ·exact h.neI (he ▸ h1)
  ·omega
 have hlU : ∀ i, lv'.ownBlock = some i → i ≠ U := fun i e he => by
  rcases hnl i e with h1 | h1
  ·exact h.neL (he ▸ h1)
  ·omega
 have hsi : ∀ i, i < w1.heap.size → iv.ownBlock ≠ some i → iv'.ownBlock ≠ some i := fun i hi hn e => by
  rcases hni i e with h1 | h1
  ·exact hn h1
  ·omega
 have hsl : ∀ i, i < w1.heap.size → lv.ownBlock ≠ some i → lv'.ownBlock ≠ some i := fun i hi hn e => by
  rcases hnl i e with h1 | h1
  ·exact hn h1
  ·omega
 have hmove : ∀ {cs' : List Value} {y : V}, ValAt d (fun i => A i ∧ i ≠ U ∧ iv.ownBlock ≠ some i ∧ lv.ownBlock ≠ some i) w1 cs' y → ValAt d (fun i => A' i ∧ i ≠ U ∧ iv'.ownBlock ≠ some i ∧ lv'.ownBlock ≠ some i) w4 cs' y := fun {cs' y} hv => by
  have a1 : ValAt d (fun i => A' i ∧ i ≠ U ∧ iv.ownBlock ≠ some i ∧ lv.ownBlock ≠ some i ∧ iv'.ownBlock ≠ some i ∧ lv'.ownBlock ≠ some i) w1 cs' y := hv.weak (fun i hi x => ⟨hA i hi x.1, x.2.1, x.2.2.1, x.2.2.2, hsi i hi x.2.2.1, hsl i hi x.2.2.2⟩)
  have a2 := (a1.keep hk (fun i x e => e.elim x.2.2.1 x.2.2.2.1)).keep hk4 (fun i x e => x.2.1 e.symm)
  exact a2.weak (fun i _ x => ⟨x.1, x.2.1, x.2.2.2.2.1, x.2.2.2.2.2⟩)
 refine ⟨hblk, hA U hU h.inA, hB, ownsRow_keep hi hk4 (fun i e e2 => hiU i e e2.symm), ?_, fun i e => ?_, fun i e => ?_, by simp [h.len, hxl], ?_, fun e => hiU U e rfl, fun e => hlU U e rfl, hne⟩
 ·have hl2 : (vs ++ xs).length = vs.length + xs.length := by simp
  rw [List.flatten_append, hl2]
  exact ownsRow_keep hl hk4 (fun i e e2 => hlU i e e2.symm)
 ·rcases hni i e with h1 | h1
  ·exact hA i (h.ids.lt i h1).2 (h.inI i h1)
  ·exact hN i h1 (hi.lt i e).2
 ·rcases hnl i e with h1 | h1
  ·exact hA i (h.parts.lt i h1).2 (h.inL i h1)
  ·exact hN i h1 (hl.lt i e).2
 ·intro j y hj
  rw [List.getElem?_append] at hj
  split at hj
  ·rename_i hlt
   obtain ⟨cs', h1, h2⟩ := h.each j y hj
   exact ⟨cs', by rw [List.getElem?_append_left (by rw [h.len]; exact hlt)]; exact h1, hmove h2⟩
  ·rename_i hge
   obtain ⟨cs', h1, h2⟩ := hx _ y hj
   exact ⟨cs', by rw [List.getElem?_append_right (by rw [h.len]; omega), h.len]; exact h1, hmove h2⟩
theorem VB.val {w : World} (h : VB TV d B0 U A T K E ids vs iv lv rows w) (hid : ids.length ≤ 140737488355328) : ValAt (d + 1) A w (valC T 0 nilB K E iv lv).toList (.mk T 0 [] K E ids vs) := by
 refine ⟨nilB, iv, lv, rfl, .inl ⟨rfl, _, _, rfl⟩, ?_, ?_⟩
 ·rcases h.ids.2 with ⟨rfl, h0⟩ | ⟨g, cap, cur, rfl, hg, hgg, hnc, _, _, htake⟩
  ·exact .inl ⟨List.eq_nil_of_length_eq_zero h0, _, _, rfl⟩
  ·by_cases h0 : ids = []
   ·subst h0; exact .inl ⟨rfl, _, _, rfl⟩
   ·refine .inr ⟨h0, g, 0, cap, rfl, hnc, hid, h.inI g rfl, fun j b hj => ?_⟩
    rw [Nat.zero_add, cellAt hgg]
    have hj2 : (ids.map (Value.int .i64))[j]? = some (.int .i64 b) := by simp [hj]
    rw [← htake, List.getElem?_take] at hj2
    split at hj2
    ·simpa using hj2
    ·cases hj2
 ·rcases h.parts.2 with ⟨rfl, h0⟩ | ⟨g, cap, cur, rfl, hg, hgg, hnc, hcm, _, htake⟩
  ·exact .inl ⟨List.eq_nil_of_length_eq_zero h0, _, _, rfl⟩
  ·by_cases h0 : vs = []
   ·subst h0; exact .inl ⟨rfl, _, _, rfl⟩
   ·refine .inr ⟨h0, g, 0, cap, rfl, ⟨hnc, hcm⟩, h.inL g rfl, fun j x hj => ?_⟩
    obtain ⟨cs, h1, h2⟩ := h.each j x hj
    refine ⟨cs, h2.weak (fun i _ y => y.1), fun i v hi => ?_⟩
    have hi7 : i < 7 := by rw [← h2.len]; exact (List.getElem?_eq_some_iff.1 hi).1
    rw [Nat.zero_add, cellAt hgg]
    have hfl : rows.flatten[j * 7 + i]? = some v := flat7 rows (fun cs' hc => ?_) j cs h1 i v hi7 hi
    ·rw [← htake, List.getElem?_take] at hfl
     split at hfl
     ·simpa using hfl
     ·cases hfl
    ·obtain ⟨k, hk⟩ := List.mem_iff_getElem?.1 hc
     have hkl : k < vs.length := by rw [← h.len]; exact (List.getElem?_eq_some_iff.1 hk).1
     obtain ⟨cs2, e1, e2⟩ := h.each k _ (List.getElem?_eq_getElem hkl)
     rw [hk] at e1
     cases e1
     exact e2.len
end Go.Proofs.YtjekbomlpcdojaaGreatDoor
