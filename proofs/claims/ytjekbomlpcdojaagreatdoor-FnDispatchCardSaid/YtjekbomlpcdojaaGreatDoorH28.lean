/- Part 28 of the proof: Get2, Kn1, Law0. -/
import Derived.Test.YtjekbomlpcdojaaGreatDoorH26
import Derived.Test.YtjekbomlpcdojaaGreatDoorH22
import Derived.Test.YtjekbomlpcdojaaGreatDoorH11
import Derived.Test.YtjekbomlpcdojaaGreatDoorH20
import Derived.Test.YtjekbomlpcdojaaGreatDoorH23
import Derived.Test.YtjekbomlpcdojaaGreatDoorH8
import Derived.Test.YtjekbomlpcdojaaGreatDoorH14
import Derived.Deep.RegionWith
set_option linter.unusedVariables false
set_option linter.unusedSimpArgs false
set_option linter.unusedSectionVars false
set_option maxHeartbeats 16000000
namespace Go.Proofs.YtjekbomlpcdojaaGreatDoor
open Go Go.RowKit
abbrev five : List UInt8 := [0, 0, 1, 2, 9]
theorem five_K (K : Bin.Ctx) : (Bin.pr K).scK 8 five = 0 ∧ (Bin.pr K).scS 8 five = [9] ∧ (Bin.pr K).scN 8 five = 258 ∧ (Bin.pr K).scB 8 five = [] := by
 rw [Bin.k8, Bin.s8, Bin.n8, Bin.b8]
 decide +kernel
set_option maxRecDepth 100000 in
theorem impl_get_five {E : Env} {A : Nat → Prop} (v : Value) (w : World) (hg : Glob E w) (h : BytesAt A w v five) :
  Calls Tryz.prog 33 #[.agg (confC 0 plainC), .int .i64 8, v, .int .i64 1] w fun e w' => ∃ (Sa : Option Addr) (Sc : Nat), e = .returned (.tuple #[.agg (valC 8 258 (.slice Sa 0 Sc) 0 0 (.slice none 0 0) (.slice none 0 0)), .int .i64 0, .int .i64 1]) ∧ Keep (fun _ => False) w w' := by
 have h8 : ty8 8 = 8 := by decide
 have hk0 : Keep (fun _ => False) w ((w.alloc (.cells (confC 0 plainC) 23 (0, 0))).alloc (.cells zVal 45 (0, 0))) := ((Keep.refl _ w).alloc _).alloc _
 have hc0 : ((w.alloc (.cells (confC 0 plainC) 23 (0, 0))).alloc (.cells zVal 45 (0, 0))).heap[w.heap.size]? = some (.cells (confC 0 plainC) 23 (0, 0)) := (Below.heap_alloc _ _ _ (by simp)).trans (heap_alloc_new w _)
 have hv0 : ((w.alloc (.cells (confC 0 plainC) 23 (0, 0))).alloc (.cells zVal 45 (0, 0))).heap[w.heap.size + 1]? = some (.cells zVal 45 (0, 0)) := heap_alloc_at (by simp) _
 have hs0 : ((w.alloc (.cells (confC 0 plainC) 23 (0, 0))).alloc (.cells zVal 45 (0, 0))).heap.size = w.heap.size + 2 := by simp
 go_enter Tryz.func33, Tryz.ntmps33
 go_wp2_with fail
 obtain ⟨n0, hn⟩ : ∃ n0, w.heap.size = n0 := ⟨_, rfl⟩
 rw [hn] at hc0 hv0 hs0 ⊢
 generalize (w.alloc (.cells (confC 0 plainC) 23 (0, 0))).alloc (.cells zVal 45 (0, 0)) = w1 at *
 have HN := hdd hn
 have HC0 := hdd hc0
 have HV0 := hdd hv0
 have HS0 := hdd hs0
 clear hn hc0 hv0 hs0
 refine (holding_at (E := E) (h.keep hk0 (fun _ _ => id)) (Nat.le_trans hg.size hk0.size)).mono ?_
 rintro e w2 ⟨MB, B, D, rfl, hm, hk2, b1, b2, b3, b4, b5⟩
 obtain ⟨c0, c1, c2, c3, c4, c5, c6⟩ := conf_cells7 ((hk2.block n0 (lt_of_heap HC0.out) id).trans HC0.out)
 have hgk : Glob E w2 := hg.keep (hk0.then hk2) (fun _ x => x.elim)
 go_wp2_with fail
 refine (protocol_bin 0 (by decide) plainC MB w2).mono ?_
 rintro e w3 ⟨P, a, rfl, hP, hPb, hcfg, hk3⟩
 have HI := hdd (bin_inv hgk hm hP hPb hcfg hk3 (by unfold Cfg.ok; decide) (by simp))
 clear c0 c1 c2 c3 c4 c5 c6 hPb hcfg
 go_wp2_with fail
 refine (typ_at 8 _).mono ?_
 rintro e w' ⟨rfl, rfl⟩
 rw [h8]
 go_wp2_with fail
 refine (Rp.get8 (Bin.rp ⟨E, P, MB, B, D, a, plainC⟩) 1 (by decide) five _ HI.out).mono ?_
 rintro e w4 ⟨n, S, ev, rfl, hpost, hres⟩
 have hpost : Bin.Post ⟨E, P, MB, B, D, a, plainC⟩ _ w4 ((Bin.pr ⟨E, P, MB, B, D, a, plainC⟩).scK 8 five) ev ((Bin.pr ⟨E, P, MB, B, D, a, plainC⟩).scS 8 five) := Bin.Post.of hpost
 have hres : (Bin.pr ⟨E, P, MB, B, D, a, plainC⟩).scK 8 five = 0 → n = (Bin.pr ⟨E, P, MB, B, D, a, plainC⟩).scN 8 five ∧ ∃ A', BytesAt A' w4 S ((Bin.pr ⟨E, P, MB, B, D, a, plainC⟩).scB 8 five) := fun hz => ⟨(hres hz).1, _, (hres hz).2⟩
 obtain ⟨f1, f2, f3, f4⟩ := five_K ⟨E, P, MB, B, D, a, plainC⟩
 rw [f1, f2] at hpost
 rw [f1, f3, f4] at hres
 obtain ⟨rfl, _, hS⟩ := hres rfl
 obtain rfl := hpost.err.isNil
 have HPO := hdd (hpost.inv rfl)
 have HK := hdd hpost.keep.keep
 obtain ⟨Sa, Sc, rfl⟩ := hS.shapeL
 clear hpost hres hS f1 f2 f3 f4
 go_wp2_with fail
 have hk5 : Keep (fun _ => False) w4 (w4.alloc (.cells (valC 8 258 (.slice Sa 0 Sc) 0 0 (.slice none 0 0) (.slice none 0 0)) 45 (0, 0))) := (Keep.refl _ w4).alloc _
 have hV5 := heap_alloc_new w4 (.cells (valC 8 258 (.slice Sa 0 Sc) 0 0 (.slice none 0 0) (.slice none 0 0)) 45 (0, 0))
 obtain ⟨V, hV⟩ : ∃ V, w4.heap.size = V := ⟨_, rfl⟩
 rw [hV] at hV5 ⊢
 generalize w4.alloc (.cells (valC 8 258 (.slice Sa 0 Sc) 0 0 (.slice none 0 0) (.slice none 0 0)) 45 (0, 0)) = w5 at *
 have hI5 := HPO.out.fresh hk5
 have hmb : w5.cell? ⟨MB, 0, none⟩ = some (.pointer (some ⟨B, 0, none⟩)) := hI5.p.mem.mb
 have hkA : Keep (MB2 P B) w1 w5 := ((hk2.then hk3).weak (fun _ _ x => x.elim)).then (HK.out.then (hk5.weak (fun _ _ x => x.elim)))
 have hn1 := HS0.out
 have hR5 := (hkA.block (n0 + 1) (by omega) (by rintro (e | e) <;> omega)).trans HV0.out
 obtain ⟨x0, x1, x2, x3, x4, x5, x6⟩ := got_cells hV5
 obtain ⟨r0, r1, r2, r3, r4, r5, r6⟩ := got_cells hR5
 obtain ⟨z0, z1, z2, z3, z4, z5, z6⟩ := got_free hR5
 have hne1 : ¬ MB = n0 + 1 := by omega
 have hne2 : ¬ n0 + 1 = MB := by omega
 have hne3 : ¬ V = n0 + 1 := by have := hk2.size; have := hk3.size; have := HK.out.size; omega
 have hne4 : ¬ n0 + 1 = V := fun e => hne3 e.symm
 have hB1 : B ≠ n0 + 1 := by omega
 have hD1 : D ≠ n0 + 1 := by omega
 have hlen : ∀ W, Keep (fun i => i = n0 + 1) w5 W → Calls Tryz.prog 62 #[.pointer (some ⟨B, 0, none⟩)] W fun e w' => e = .returned (.int .i64 1) ∧ ∃ n, W.drewN n = w' := fun W hW => buf_len (hI5.p.mem.buf.keep hW hB1 hD1)
 have HLEN := hdd hlen
 have HR5 := hdd hR5
 have HKA := hdd hkA
 clear hlen hV5 hR5 hkA hI5 hn1 hV
 go_region_with (first | (go_at_call 38; refine (kind_nil _).mono ?_; rintro e w' ⟨rfl, rfl⟩) | (go_at_call 62; refine (HLEN.out _ (by exact (Keep.refl _ w5).drew)).mono ?_; rintro e w6 ⟨rfl, k, rfl⟩))
 all_goals
  go_wp2_with fail
  have hn0 := HN.out
  have hn1 := HS0.out
  have hR6 : (w5.drewN (1 + k)).heap[n0 + 1]? = some (.cells zVal 45 (0, 0)) := HR5.out
  have hR7 := val_set hR6 (.int .i64 8) (.int .i64 258) (.slice Sa 0 Sc) (.int .i64 0) (.int .i64 0) (.slice none 0 0) (.slice none 0 0)
  have hk5 : Keep (fun _ => False) w (w5.drewN (1 + k)) := (hk0.trans HKA.out (fun i hi e => MB2_new (P := P) (B := B) (n := w.heap.size) (by have := hk2.size; omega) (by omega) i hi e)).drewN _
  have hk7 := ((((((hk5.set (n0 + 1) 0 (fun h => by omega) (.int .i64 8)).set (n0 + 1) 1 (fun h => by omega) (.int .i64 258)).set (n0 + 1) 2 (fun h => by omega) (.slice Sa 0 Sc)).set (n0 + 1) 3 (fun h => by omega) (.int .i64 0)).set (n0 + 1) 4 (fun h => by omega) (.int .i64 0)).set (n0 + 1) 5 (fun h => by omega) (.slice none 0 0)).set (n0 + 1) 6 (fun h => by omega) (.slice none 0 0)
  exact ret_cell3 (U := n0 + 1) (T := 45) Tryz.results33 rfl rfl rfl rfl hR7 Tryz.underlying45 ival_size ⟨_, _, rfl, hk7⟩
theorem keepOf {B0 : Nat} {w w' : World} (h : Below B0 w w') : Keep (fun i => B0 ≤ i) w w' := ⟨h.os, h.tape, h.output, h.size, fun k _ hM => h.block k (by omega)⟩
theorem BytesAt.old {A : Nat → Prop} {w : World} {v : Value} {l : List UInt8} (h : BytesAt A w v l) : BytesAt (fun i => i < w.heap.size) w v l := h.weak (fun _ hi _ => hi)
theorem BytesAt.below {w w' : World} {v : Value} {l : List UInt8} (h : BytesAt (fun i => i < w.heap.size) w v l) (hb : Below w.heap.size w w') : BytesAt (fun i => i < w.heap.size) w' v l := h.keep (keepOf hb) (fun i hi e => by omega)
theorem BytesAt.lit {w : World} {g : Nat} {l : List UInt8} {T : TypeId} (h : w.heap[g]? = some (.cells (bcells l).toArray T (0, 0))) (hl : l.length ≤ 140737488355328) : BytesAt (fun _ => True) w (.slice (some ⟨g, 0, none⟩) l.length l.length) l := by
 by_cases h0 : l = []
 ·subst h0
  exact .inl ⟨rfl, _, _, rfl⟩
 ·exact .inr ⟨h0, g, 0, _, rfl, Nat.le_refl _, hl, trivial, fun j b hj => by rw [cellAt h]; simp [bcells, hj]⟩
set_option maxRecDepth 100000 in
theorem known_at {E : Env} (w : World) (hg : Glob E w) : Calls Tryz.prog 13 #[] w fun e w' => e = .returned (.bool true) ∧ Keep (fun _ => False) w w' := by
 go_enter Tryz.func13, Tryz.ntmps13
 go_wp2_with fail
 refine (impl_put_bin w).mono ?_
 rintro e w1 ⟨v1, rfl, hb1, hk1⟩
 have HB1 := hdd hb1.old
 clear hb1
 go_wp2_with fail
 refine (impl_put_cmp w1).mono ?_
 rintro e w2 ⟨v2, rfl, hb2, hk2⟩
 have HB2 := hdd hb2.old
 clear hb2
 go_wp2_with fail
 have hk20 : Keep (fun i => w.heap.size ≤ i) w w2 := (keepOf hk1).trans (keepOf hk2) (fun i hi h => by have := hk1.size; omega)
 have hg2 : Glob E w2 := hg.keep hk20 (fun i hi => Nat.le_trans hg.size hi)
 have hk3 : Keep (fun _ => False) w2 (w2.alloc (.cells (bcells five).toArray 5 (0, 0))) := (Keep.refl _ w2).alloc _
 have hb3 : BytesAt (fun _ => True) (w2.alloc (.cells (bcells five).toArray 5 (0, 0))) (.slice (some ⟨w2.heap.size, 0, none⟩) 5 5) five := BytesAt.lit (l := five) (heap_alloc_new w2 _) (by decide)
 refine (impl_get_five (E := E) (.slice (some ⟨w2.heap.size, 0, none⟩) 5 5) _ (hg2.keep hk3 (fun _ x => x.elim)) hb3).mono ?_
 rintro e w4 ⟨Sa, Sc, rfl, hk4⟩
 have hk34 := hk3.then hk4
 have HK20 := hdd hk20
 clear hb3 hk3 hk4 hg2 hk20
 go_wp2_with fail
 have hV := heap_alloc_new w4 (.cells (valC 8 258 (.slice Sa 0 Sc) 0 0 (.slice none 0 0) (.slice none 0 0)) 45 (0, 0))
 have hk5 : Keep (fun _ => False) w4 ((w4.alloc (.cells (valC 8 258 (.slice Sa 0 Sc) 0 0 (.slice none 0 0) (.slice none 0 0)) 45 (0, 0))).alloc (.cells #[.int .u8 0, .int .u8 0, .int .u8 1, .int .u8 2] 5 (0, 0))) := ((Keep.refl _ w4).alloc _).alloc _
 have hb5 : BytesAt (fun _ => True) ((w4.alloc (.cells (valC 8 258 (.slice Sa 0 Sc) 0 0 (.slice none 0 0) (.slice none 0 0)) 45 (0, 0))).alloc (.cells #[.int .u8 0, .int .u8 0, .int .u8 1, .int .u8 2] 5 (0, 0))) (.slice (some ⟨w4.heap.size + 1, 0, none⟩) 4 4) [0, 0, 1, 2] := BytesAt.lit (l := [0, 0, 1, 2]) (heap_alloc_at (by simp) _) (by decide)
 have hV5 : ((w4.alloc (.cells (valC 8 258 (.slice Sa 0 Sc) 0 0 (.slice none 0 0) (.slice none 0 0)) 45 (0, 0))).alloc (.cells #[.int .u8 0, .int .u8 0, .int .u8 1, .int .u8 2] 5 (0, 0))).heap[w4.heap.size]? = _ := (Below.heap_alloc _ _ _ (by simp)).trans hV
 obtain ⟨V, hVe⟩ : ∃ V, w4.heap.size = V := ⟨_, rfl⟩
 rw [hVe] at hb5 hV5 ⊢
 generalize (w4.alloc (.cells (valC 8 258 (.slice Sa 0 Sc) 0 0 (.slice none 0 0) (.slice none 0 0)) 45 (0, 0))).alloc (.cells #[.int .u8 0, .int .u8 0, .int .u8 1, .int .u8 2] 5 (0, 0)) = w5 at *
 clear hV hVe
 have hk25 := hk34.then hk5
 have h1 : BytesAt (fun _ => True) w5 v1 [0, 0, 1, 2] := (((HB1.out.below hk2).keep hk25 (fun _ _ => id)).weak (fun _ _ _ => trivial))
 have h2 : BytesAt (fun _ => True) w5 v2 [5] := ((HB2.out.keep hk25 (fun _ _ => id)).weak (fun _ _ _ => trivial))
 refine (equal_same h1 hb5).mono ?_
 rintro e w6 ⟨rfl, n, rfl⟩
 obtain ⟨x0, x1, x2, x3, x4, x5, x6⟩ := got_cells hV5
 clear hb5
 go_wp2_with fail
 have hb6 : BytesAt (fun _ => True) ((w5.drewN n).alloc (.cells #[.int .u8 5] 5 (0, 0))) (.slice (some ⟨w5.heap.size, 0, none⟩) 1 1) [5] := BytesAt.lit (l := [5]) (heap_alloc_at (by simp) _) (by decide)
 have hk6 : Keep (fun _ => False) w5 ((w5.drewN n).alloc (.cells #[.int .u8 5] 5 (0, 0))) := ((Keep.refl _ w5).drewN n).alloc _
 have hV6 := (hk6.block V (lt_of_heap hV5) id).trans hV5
 have h3 := h2.keep hk6 (fun _ _ => id)
 generalize (w5.drewN n).alloc (.cells #[.int .u8 5] 5 (0, 0)) = w6 at *
 refine (equal_same h3 hb6).mono ?_
 rintro e w7 ⟨rfl, m, rfl⟩
 clear x0 x1 x2 x3 x4 x5 x6
 obtain ⟨x0, x1, x2, x3, x4, x5, x6⟩ := got_cells hV6
 clear hb6 h3 h2 h1
 go_wp2_with fail
 go_ret
 exact ⟨rfl, (HK20.out.trans (hk25.then hk6) (fun _ _ x => x.elim)).weak (fun i hi h => by omega) |>.drewN m⟩
theorem sameKind_at (k x : Int) (h : Sk k x) (w : World) : Calls Tryz.prog 20 #[.int .i64 k, .int .i64 x] w fun e w' => e = .returned (.bool true) ∧ w = w' := by
 by_cases h2 : x = -2
 ·have t2 : (x == -2) = true := by simp [h2]
  have H2 := hdd h2
  clear h2 h
  go_enter Tryz.func20, Tryz.ntmps20
  go_wp2
  go_ret
  exact ⟨rfl, rfl⟩
 ·have t2 : (x == -2) = false := by simpa using h2
  by_cases h1 : x = -1
  ·have t1 : (x == -1) = true := by simp [h1]
   by_cases h0 : k = 0
   ·unfold Sk at h; omega
   ·have t0 : (k != 0) = true := by simpa using h0
    have H1 := hdd h1
    clear h1 h h2
    go_enter Tryz.func20, Tryz.ntmps20
    go_wp2
    go_ret
    exact ⟨rfl, rfl⟩
  ·have t1 : (x == -1) = false := by simpa using h1
   have he : k = x := by unfold Sk at h; omega
   subst he
   clear h
   go_enter Tryz.func20, Tryz.ntmps20
   go_wp2
   go_ret
   exact ⟨rfl, rfl⟩
end Go.Proofs.YtjekbomlpcdojaaGreatDoor
