/- Part 41 of the proof: Rg5, Rg6, SpCMg. -/
import Derived.Test.YthehmlbolajljaaGreatDoorQ31
import Derived.Test.YthehmlbolajljaaGreatDoorQ38
import Derived.Test.YthehmlbolajljaaGreatDoorQ40
set_option linter.unusedVariables false
set_option linter.unusedSimpArgs false
set_option linter.unusedSectionVars false
set_option maxHeartbeats 16000000
namespace Go.Proofs.YthehmlbolajljaaGreatDoor
open Go Go.RowKit
def Rdr.SRel {σ : Type} (r : Rdr σ) (w : World) (U : Nat) (S : List (Nat × Array Value × TypeId)) (d : Nat) (f : Int → σ → Int × σ × V) (tot : Int × σ × V) (b k : Nat) (wr : World) : Prop :=
 ∃ s1 ids vs iv lv rows, r.Inv s1 wr ∧ r.Frame w U S d 12 0 0 ids vs iv lv rows wr ∧ r.pr.len s1 < k ∧ gflds r.pr f k s1 ids vs = tot ∧ r.pr.one ≤ r.pr.dep s1 ∧ r.pr.len s1 + r.pr.dep s1 ≤ b ∧ ids.length = vs.length ∧ vs.length + r.pr.len s1 ≤ b
theorem rgflds_stop {σ : Type} {p : Pr σ} {f : Int → σ → Int × σ × V} {n : Nat} {s : σ} {ids : List Int} {l : List V} (h : p.fK s = 0) (h2 : p.fT s = 0) : gflds p f (n + 1) s ids l = (0, p.seS (p.fS s), .mk 12 0 [] 0 0 ids l) := by
 simp only [gflds]; rw [if_pos h, if_pos h2]
theorem rgflds_ok {σ : Type} {p : Pr σ} {f : Int → σ → Int × σ × V} {n : Nat} {s : σ} {ids : List Int} {l : List V} (h : p.fK s = 0) (h2 : ¬ p.fT s = 0) (h3 : (f (p.fT s) (p.fS s)).1 = 0) : gflds p f (n + 1) s ids l = gflds p f n (p.feS (f (p.fT s) (p.fS s)).2.1) (ids ++ [p.fI s]) (l ++ [(f (p.fT s) (p.fS s)).2.2]) := by
 simp only [gflds]; rw [if_pos h, if_neg h2, if_pos h3]
theorem rgflds_bad {σ : Type} {p : Pr σ} {f : Int → σ → Int × σ × V} {n : Nat} {s : σ} {ids : List Int} {l : List V} (h : p.fK s = 0) (h2 : ¬ p.fT s = 0) (h3 : ¬ (f (p.fT s) (p.fS s)).1 = 0) : gflds p f (n + 1) s ids l = ((f (p.fT s) (p.fS s)).1, (f (p.fT s) (p.fS s)).2.1, V.zero) := by
 simp only [gflds]; rw [if_pos h, if_neg h2, if_neg h3]
theorem rgflds_err {σ : Type} {p : Pr σ} {f : Int → σ → Int × σ × V} {n : Nat} {s : σ} {ids : List Int} {l : List V} (h : ¬ p.fK s = 0) : gflds p f (n + 1) s ids l = (p.fK s, p.fS s, V.zero) := by
 simp only [gflds]; rw [if_neg h]
section
variable {σ : Type} {r : Rdr σ} {s : σ} {w : World}
set_option maxRecDepth 100000 in
theorem Rdr.get_struct (ok : r.Ok) (d : Nat) (ih : r.Gets d) (deep : Int) (hdq : deep.toNat = d + 1) (hd : 0 < deep) (hhi : deep ≤ 9223372036854775807) (hR : r.Inv s w) (hroom : r.pr.Room s) :
  Calls Tryz.prog 91 #[.pointer (some ⟨r.R, 0, none⟩), .int .i64 deep] w (r.GetP (d + 1) w (gflds r.pr (gt r.pr d) (r.pr.len (r.pr.sbS s) + 1) (r.pr.sbS s) [] [])) := by
 obtain ⟨tot, htot⟩ : ∃ tot, gflds r.pr (gt r.pr d) (r.pr.len (r.pr.sbS s) + 1) (r.pr.sbS s) [] [] = tot := ⟨_, rfl⟩
 rw [htot]
 have HT := hdd htot
 have hR0 : r.pr.len s + r.pr.dep s < 1099511627776 := hroom
 have HRM := hdd hR0
 have hd1 : (deep - 1).toNat = d := by omega
 have HD := hdd hd1
 clear htot hroom hd1 hdq hR0
 have hk0 : Keep (fun _ => False) w ((w.alloc (.cells sVal 34 (0, 0))).alloc (.cells (valC 12 0 nilB 0 0 (.slice none 0 0) (.slice none 0 0)) 34 (0, 0))) := ((Keep.refl _ w).alloc _).alloc _
 have hR0 : ((w.alloc (.cells sVal 34 (0, 0))).alloc (.cells (valC 12 0 nilB 0 0 (.slice none 0 0) (.slice none 0 0)) 34 (0, 0))).heap[w.heap.size]? = some (.cells sVal 34 (0, 0)) := (Below.heap_alloc _ _ _ (by simp)).trans (heap_alloc_new w _)
 have hU0 : ((w.alloc (.cells sVal 34 (0, 0))).alloc (.cells (valC 12 0 nilB 0 0 (.slice none 0 0) (.slice none 0 0)) 34 (0, 0))).heap[w.heap.size + 1]? = some (.cells (valC 12 0 nilB 0 0 (.slice none 0 0) (.slice none 0 0)) 34 (0, 0)) := heap_alloc_at (by simp) _
 have hs0 : ((w.alloc (.cells sVal 34 (0, 0))).alloc (.cells (valC 12 0 nilB 0 0 (.slice none 0 0) (.slice none 0 0)) 34 (0, 0))).heap.size = w.heap.size + 2 := by simp
 go_enter Tryz.func91, Tryz.ntmps91
 go_wp2_with fail
 obtain ⟨n0, hn⟩ : ∃ n0, w.heap.size = n0 := ⟨_, rfl⟩
 rw [hn] at hU0 hR0 hs0 ⊢
 generalize (w.alloc (.cells sVal 34 (0, 0))).alloc (.cells (valC 12 0 nilB 0 0 (.slice none 0 0) (.slice none 0 0)) 34 (0, 0)) = w1 at *
 have hs2 : Calls _ _ _ w1 _ := ok.sb (ok.fresh hR hk0) (by have := HRM.out; omega)
 refine hs2.mono ?_
 rintro e w2 ⟨x, t', kt, size, id, N', S', rfl, ⟨a, m, cc, rfl⟩, hx, ⟨r', hr1, hr3⟩, hk, hv0⟩
 clear hv0
 have h0 : x = 0 ∨ x = -2 := by unfold Sk at hx; omega
 have hmn := ok.new hR hk0
 have hR2 := (hk.block n0 (lt_of_heap hR0) (hmn _ (by omega))).trans hR0
 have hU2 := (hk.block (n0 + 1) (lt_of_heap hU0) (hmn _ (by omega))).trans hU0
 have hnR := hk.not (i := n0) (lt_of_heap hR0) (hmn _ (by omega))
 have hnU := hk.not (i := n0 + 1) (lt_of_heap hU0) (hmn _ (by omega))
 have HN := hdd hn
 have HS0 := hdd hs0
 have HR2 := hdd hR2
 have HU2 := hdd hU2
 have HNR := hdd hnR
 have HNU := hdd hnU
 have HK := hdd hk
 clear hmn hR2 hU2 hnR hnU hn hs0 hR0 hU0 hk hs2
 rcases h0 with rfl | rfl
 ·obtain rfl := hr3 rfl
  clear hx hr3
  go_wp2_with fail
  have hk3 : Keep (fun _ => False) w2 (w2.alloc (.cells (gotA 0 t' kt size id N' (.slice a m cc)) 107 (0, 0))) := (Keep.refl _ w2).alloc _
  generalize w2.alloc (.cells (gotA 0 t' kt size id N' (.slice a m cc)) 107 (0, 0)) = w4 at *
  have hR4 := (hk3.block n0 (lt_of_heap HR2.out) (fun x => x)).trans HR2.out
  have hU4 := (hk3.block (n0 + 1) (lt_of_heap HU2.out) (fun x => x)).trans HU2.out
  have hm4 : ∀ i, r.M w4 i → r.M w2 i := (ok.turn hr1 hk3 (fun _ x => x.elim)).2
  have HK3 := hdd hk3
  have HR4 := hdd hR4
  have HU4 := hdd hU4
  have HM4 := hdd hm4
  clear hk3 hR4 hU4 hm4
  go_loopg [] (r.pr.len (r.pr.sbS s) + 1) (fun k wr => r.SRel w (n0 + 1) [(n0, sVal, 34)] d (gt r.pr d) tot (r.pr.len s + r.pr.dep s + r.pr.one) k wr)
  case atStart =>
   have hN := HN.out
   have e1 := ok.pr.dsb s
   have e2 := ok.pr.sb s
   refine ⟨_, [], [], _, _, [], ok.fresh hr1 HK3.out, ⟨((ok.kept hR hk0).then HK.out).then (ok.kept hr1 HK3.out), vb_start HU4.out ⟨by omega, by simp, fun q => HNU.out (HM4.out _ q)⟩ (fun i x => x.1), ?_⟩, Nat.lt_succ_self _, HT.out, by omega, by omega, rfl, by simp; omega⟩
   intro p hp
   simp only [List.mem_cons, List.not_mem_nil, or_false] at hp
   subst hp
   exact ⟨by show w.heap.size ≤ n0; omega, HR4.out, fun q => HNR.out (HM4.out _ q)⟩
  case round =>
   obtain ⟨s1, ids, vs, iv, lv, rows, hi1, hfr, hlt, hfl, hdp, hbd, hil, hvl⟩ := hrel
   cases gk with
   | zero => exact absurd hlt (Nat.not_lt_zero _)
   | succ k =>
   have HF := hdd hfl
   have HFR := hdd hfr
   have HNUM := hdd (And.intro hlt (And.intro hdp (And.intro hbd (And.intro hil hvl))))
   clear hfl hfr hlt hdp hbd hil hvl
   have hs4 : Calls _ _ _ _ _ := ok.f hi1
   go_wp2_with fail
   refine hs4.mono ?_
   rintro e w3 ⟨x, t, kt3, size3, id, N3, S3, rfl, ⟨a3, m3, c3, rfl⟩, hx, ⟨s3, h3, hr3⟩, hk4, hv⟩
   have HX := hdd hx
   have HF3 := hdd (HFR.out.call hk4)
   obtain ⟨hR1, hR2, hR3⟩ := HF3.out.still (n0, sVal, 34) (by simp)
   have HR3 := hdd hR2
   have HH3 := hdd h3
   clear hx hs4 hR1 hR2 hR3 h3 hk4
   by_cases hz : x = 0
   ·subst hz
    obtain rfl := hr3 rfl
    obtain ⟨ht, q1, q2, hid3, q3⟩ := hv rfl
    clear q1 q2 q3
    have HZ := hdd (show r.pr.fK s1 = 0 from Sk.zero HX.out)
    have HTT := hdd ht
    have HID := hdd hid3
    clear hv hr3 ht hid3
    have hk5 : Keep (fun _ => False) w3 (w3.alloc (.cells (gotA 0 t kt3 size3 id N3 (.slice a3 m3 c3)) 107 (0, 0))) := (Keep.refl _ w3).alloc _
    have hG5 := heap_alloc_new w3 (.cells (gotA 0 t kt3 size3 id N3 (.slice a3 m3 c3)) 107 (0, 0))
    by_cases ht0 : t = 0
    ·subst ht0
     obtain ⟨Ia, Im, Ic, rfl⟩ := rown_shape HFR.out.vb.ids
     obtain ⟨La, Lm, Lc, rfl⟩ := rown_shape HFR.out.vb.parts
     go_wp2_with fail
     obtain ⟨G, hG⟩ : ∃ G, w3.heap.size = G := ⟨_, rfl⟩
     rw [hG] at hG5 ⊢
     generalize w3.alloc (.cells (gotA 0 0 kt3 size3 id N3 (.slice a3 m3 c3)) 107 (0, 0)) = w5 at *
     have hltR := lt_of_heap HR3.out
     have hltU := lt_of_heap HF3.out.vb.blk
     have hR5 := (hk5.block n0 hltR (fun x => x)).trans HR3.out
     have hU5 := (hk5.block (n0 + 1) hltU (fun x => x)).trans HF3.out.vb.blk
     have hne3 : ¬ n0 = G := by omega
     have hne4 : ¬ G = n0 := by omega
     have hne5 : ¬ n0 + 1 = G := by omega
     have hne6 : ¬ G = n0 + 1 := by omega
     have HK5 := hdd hk5
     have HR5 := hdd hR5
     have HFD := hdd (Rdr.Frame.fresh ok HF3.out HH3.out hk5.drew)
     have HI := hdd (ok.fresh HH3.out hk5.drew)
     have HSE := hdd (ok.se HI.out (by rw [ok.pr.df s1 HZ.out]; exact HNUM.out.2.1) : Calls _ _ _ w5.drew _)
     obtain ⟨x0, x1, x2, x3, x4, x5, x6⟩ := got_cells hU5
     clear hk5 hG5 hU5 hR5 hG
     go_region_with (go_at_call 63; refine HSE.out.mono ?_; rintro e w6 ⟨y5, t5, kt5, size5, id5, N5, S5, rfl, ⟨a5, m5, cc5, rfl⟩, hx5, ⟨s5, h5, hr5⟩, hk6, _⟩; have hf := got_field0 y5 t5 kt5 size5 id5 N5 (.slice a5 m5 cc5); have HX5 := hdd hx5; have H5 := hdd h5; have HRR5 := hdd hr5; have HF5 := hdd (HFD.out.call hk6); clear hx5 h5 hr5 hk6; obtain ⟨hR1, hR2, hR3⟩ := HF5.out.still (n0, sVal, 34) (by simp); have HRR := hdd hR2; obtain ⟨p0, p1, p2, p3, p4, p5, p6⟩ := got_cells HF5.out.vb.blk; obtain ⟨r0, r1, r2, r3, r4, r5, r6⟩ := got_cells hR2; obtain ⟨z0, z1, z2, z3, z4, z5, z6⟩ := got_free hR2; clear hR1 hR2 hR3)
     all_goals
      go_wp2_with fail
      have hk9 := sval_keep (M := fun i => n0 = i) (Keep.refl _ w6) (R := n0) (fun _ => rfl) (.int .i64 12) (.int .i64 0) (.slice none 0 0) (.int .i64 0) (.int .i64 0) (.slice Ia Im Ic) (.slice La Lm Lc)
      refine ret_cell2 (U := n0) (T := 34) Tryz.results91 rfl rfl rfl (sval_set HRR.out (.int .i64 12) (.int .i64 0) (.slice none 0 0) (.int .i64 0) (.int .i64 0) (.slice Ia Im Ic) (.slice La Lm Lc)) Tryz.underlying34 sval_size ?_
      obtain ⟨q1, q2, q3⟩ := HF5.out.still (n0, sVal, 34) (by simp)
      obtain ⟨j1, j2⟩ := ok.turn H5.out hk9 (fun i e => by subst e; exact q3)
      have e1 : tot = (0, r.pr.seS (r.pr.fS s1), .mk 12 0 [] 0 0 ids vs) := by
       rw [← HF.out]
       exact rgflds_stop HZ.out HTT.out.symm
      rw [e1]
      refine ⟨12, 0, none, 0, 0, 0, 0, Ia, Im, Ic, La, Lm, Lc, y5, rfl, HX5.out, ⟨s5, j1, HRR5.out⟩, Kpt.turned HF5.out.kp hk9 (fun i e => by subst e; exact q1) j2, fun hz => ?_⟩
      have hv := HF5.out.vb.val (by have := HNUM.out; have := HRM.out; have := ok.pr.one1; omega)
      exact (hv.keep hk9 (fun i hi e => hi.2.1 (n0, sVal, 34) (by simp) e.symm)).weak (fun i _ hi => ⟨hi.1, fun q => hi.2.2 (j2 i q)⟩)
    ·have hne : ¬ r.pr.fT s1 = 0 := fun hh => ht0 (HTT.out.trans hh)
     have HNE := hdd hne
     clear hne
     obtain ⟨Ia, Im, Ic, rfl⟩ := rown_shape HFR.out.vb.ids
     obtain ⟨La, Lm, Lc, rfl⟩ := rown_shape HFR.out.vb.parts
     go_wp2_with fail
     have hF5 := Rdr.Frame.add ok HH3.out HF3.out (gotA 0 t kt3 size3 id N3 (.slice a3 m3 c3)) 107
     obtain ⟨G, hG⟩ : ∃ G, w3.heap.size = G := ⟨_, rfl⟩
     rw [hG] at hG5 hF5 ⊢
     generalize w3.alloc (.cells (gotA 0 t kt3 size3 id N3 (.slice a3 m3 c3)) 107 (0, 0)) = w5 at *
     refine (ih (deep - 1) t _ w5 HD.out (by omega) (by omega) (ok.fresh HH3.out hk5) (by have a1 := ok.pr.df s1 HZ.out; have a2 := ok.pr.f s1 HZ.out; have a3 := HNUM.out; have a4 := ok.pr.one1; have a5 := HRM.out; show _ + _ < _; omega)).mono ?_
     rintro e w9 ⟨T', N9, Sa, Sm, Sc, KT', E', Ja, Jm, Jc, Ma, Mm, Mc, x9, rfl, hx9, ⟨s9, h9, hr9⟩, hk9, hval⟩
     have HX9 := hdd hx9
     have HR9 := hdd hr9
     have HH9 := hdd h9
     have HVAL := hdd hval
     have HMN := hdd hF5.mine
     have HF5 := hdd hF5
     have HF9 := hdd (hF5.call hk9)
     have HK9 := hdd hk9
     have HK5 := hdd hk5
     obtain ⟨hR1, hR2, hR3⟩ := HF9.out.still (n0, sVal, 34) (by simp)
     have HRR := hdd hR2
     have HG := hdd hG
     clear hx9 hr9 h9 hval hF5 hk9 hk5 hG5 hR1 hR2 hR3 hG
     by_cases hz9 : x9 = 0
     ·subst hz9
      have hs0 := Sk.zero HX9.out
      obtain rfl := HR9.out rfl
      have HS9 := hdd hs0
      clear hs0
      go_wp2_with fail
      obtain ⟨w6, hw6⟩ : ∃ w6, w9.alloc (.cells (valC T' N9 (.slice Sa Sm Sc) KT' E' (.slice Ja Jm Jc) (.slice Ma Mm Mc)) 34 (0, 0)) = w6 := ⟨_, rfl⟩
      have hk6 : Keep (fun _ => False) w9 w6 := by rw [← hw6]; exact (Keep.refl _ w9).alloc _
      have hX6 : w6.heap[w9.heap.size]? = some (.cells (valC T' N9 (.slice Sa Sm Sc) KT' E' (.slice Ja Jm Jc) (.slice Ma Mm Mc)) 34 (0, 0)) := by rw [← hw6]; exact heap_alloc_new w9 _
      rw [hw6]
      clear hw6
      obtain ⟨X, hX⟩ : ∃ X, w9.heap.size = X := ⟨_, rfl⟩
      rw [hX] at hX6 ⊢
      obtain ⟨hG1, hG2, hG3⟩ := HF9.out.still (G, gotA 0 t kt3 size3 id N3 (.slice a3 m3 c3), 107) (by simp)
      have hG6 := (hk6.block G (lt_of_heap hG2) (fun x => x)).trans hG2
      have HV6 := hdd (HF9.out.vb.keep hk6 (fun _ _ x => x))
      have HO1 : Hid (∀ i, (Value.slice Ia Im Ic).ownBlock = some i → i < w6.heap.size) := hdd (fun i e => (HV6.out.ids.lt i e).2)
      have HB6 : Hid (w.heap.size ≤ w6.heap.size) := hdd (Nat.le_trans HF9.out.kp.size hk6.size)
      have HC : Hid (∀ W, Keep (fun i => (Value.slice Ia Im Ic).ownBlock = some i ∨ (Value.slice La Lm Lc).ownBlock = some i) w6 W → W.heap[n0 + 1]? = some (.cells (valC 12 0 nilB 0 0 (.slice Ia Im Ic) (.slice La Lm Lc)) 34 (0, 0)) ∧ W.heap[X]? = some (.cells (valC T' N9 (.slice Sa Sm Sc) KT' E' (.slice Ja Jm Jc) (.slice Ma Mm Mc)) 34 (0, 0)) ∧ W.heap[G]? = some (.cells (gotA 0 t kt3 size3 id N3 (.slice a3 m3 c3)) 107 (0, 0))) := hdd (fun W k =>
       ⟨(k.block _ (lt_of_heap HV6.out.blk) (fun e => e.elim HV6.out.neI HV6.out.neL)).trans HV6.out.blk,
        (k.block _ (lt_of_heap hX6) (fun e => e.elim (fun e => by have := (HF9.out.vb.ids.lt _ e).2; omega) (fun e => by have := (HF9.out.vb.parts.lt _ e).2; omega))).trans hX6,
        (k.block _ (lt_of_heap hG6) (fun e => e.elim (fun e => (HMN.out G (.inr (.inl e))).2.2.1 (G, gotA 0 t kt3 size3 id N3 (.slice a3 m3 c3), 107) (by simp) rfl) (fun e => (HMN.out G (.inr (.inr e))).2.2.1 (G, gotA 0 t kt3 size3 id N3 (.slice a3 m3 c3), 107) (by simp) rfl))).trans hG6⟩)
      have hmxv : vs.length + 1 ≤ 1099511627778 := by have := HNUM.out; have := HRM.out; have := ok.pr.one1; omega
      have hmxi : ids.length + 1 ≤ 1099511627778 := by have := HNUM.out; omega
      have hmx1 : ids.length + 1 ≤ maxLen := by simp only [maxLen]; omega
      have hmx2 : vs.length + 1 ≤ maxLen := by simp only [maxLen]; omega
      obtain ⟨vi, hvi, hvz, hvs, hvb⟩ := sval_info
      obtain ⟨ii, hii, hiz, his, hib⟩ := int_info
      have hone1 : ∀ u ∈ [Value.int .i64 id], u.oneCell' = true := by
       intro u hu
       simp only [List.mem_cons, List.not_mem_nil, or_false] at hu
       subst hu; rfl
      have hone2 : ∀ u ∈ (valC T' N9 (.slice Sa Sm Sc) KT' E' (.slice Ja Jm Jc) (.slice Ma Mm Mc)).toList, u.oneCell' = true := by
       intro u hu
       simp only [List.mem_cons, List.not_mem_nil, or_false] at hu
       rcases hu with rfl | rfl | rfl | rfl | rfl | rfl | rfl <;> rfl
      have HK6 := hdd hk6
      have HX := hdd hX
      clear hk6 hX6 hX hG1 hG2 hG3 hG6
      go_cut [] from 52 to 64 (fun wx => ∃ v5 v6 wy, wx = (wy.setCell ⟨n0 + 1, 5, none⟩ v5).setCell ⟨n0 + 1, 6, none⟩ v6 ∧ Grw 34 w.heap.size (.slice Ia Im Ic) (.slice La Lm Lc) w6 v5 v6 (ids.length + 1) (ids.map (Value.int .i64) ++ [.int .i64 id]) (vs.length + 1) (rows.flatten ++ (valC T' N9 (.slice Sa Sm Sc) KT' E' (.slice Ja Jm Jc) (.slice Ma Mm Mc)).toList) wy)
      case first =>
       refine wp_region_quiet (fun W => W.heap[n0 + 1]? = some (.cells (valC 12 0 nilB 0 0 (.slice Ia Im Ic) (.slice La Lm Lc)) 34 (0, 0)) ∧ W.heap[X]? = some (.cells (valC T' N9 (.slice Sa Sm Sc) KT' E' (.slice Ja Jm Jc) (.slice Ma Mm Mc)) 34 (0, 0)) ∧ W.heap[G]? = some (.cells (gotA 0 t kt3 size3 id N3 (.slice a3 m3 c3)) 107 (0, 0))) [12, 14] (by kernel_rfl) ?_
       have G0 := hdd ((Grw.start HV6.out).keep (Keep.refl (fun _ => False) w6).drew)
       generalize w6.drew = wd at *
       refine wpAnyP_plain 0 (some 52) (.pointer (some ⟨n0 + 1, 5, none⟩)) rfl (by kernel_rfl) (by kernel_rfl) (by kernel_rfl) (by kernel_rfl) (fun _ _ _ h => h) (fun W => ?_) (fun _ => HC.out _ G0.out.kp) ?_
       ·go_simp
       try simp only [Act.put, List.setIfInBounds_toArray, List.set_cons_zero, List.set_cons_succ]
       refine wpAnyP_load 1 [12, 14] (some 53) (.slice Ia Im Ic) rfl (by kernel_rfl) (by kernel_rfl) (by kernel_rfl) (by kernel_rfl) (fun _ _ _ h => h) (fun W hW => ?_) (HC.out _ G0.out.kp) ?_
       ·obtain ⟨p0, p1, p2, p3, p4, p5, p6⟩ := got_cells hW.1; go_simp
       try simp only [Act.put, List.setIfInBounds_toArray, List.set_cons_zero, List.set_cons_succ]
       refine wpAnyP_plain 2 (some 54) (.pointer (some ⟨G, 4, none⟩)) rfl (by kernel_rfl) (by kernel_rfl) (by kernel_rfl) (by kernel_rfl) (fun _ _ _ h => h) (fun W => ?_) (fun _ => HC.out _ G0.out.kp) ?_
       ·go_simp
       try simp only [Act.put, List.setIfInBounds_toArray, List.set_cons_zero, List.set_cons_succ]
       refine wpAnyP_load 3 [12, 14] (some 55) (.int .i64 id) rfl (by kernel_rfl) (by kernel_rfl) (by kernel_rfl) (by kernel_rfl) (fun _ _ _ h => h) (fun W hW => ?_) (HC.out _ G0.out.kp) ?_
       ·obtain ⟨p0, p1, p2, p3, p4, p5, p6⟩ := got_cells hW.2.2; go_simp
       try simp only [Act.put, List.setIfInBounds_toArray, List.set_cons_zero, List.set_cons_succ]
       refine wpAnyP_plain 6 (some 58) (.pointer (some ⟨n0 + 1, 6, none⟩)) rfl (by kernel_rfl) (by kernel_rfl) (by kernel_rfl) (by kernel_rfl) (fun _ _ _ h => h) (fun W => ?_) (fun _ => HC.out _ G0.out.kp) ?_
       ·go_simp
       try simp only [Act.put, List.setIfInBounds_toArray, List.set_cons_zero, List.set_cons_succ]
       refine wpAnyP_load 7 [12, 14] (some 59) (.slice La Lm Lc) rfl (by kernel_rfl) (by kernel_rfl) (by kernel_rfl) (by kernel_rfl) (fun _ _ _ h => h) (fun W hW => ?_) (HC.out _ G0.out.kp) ?_
       ·obtain ⟨p0, p1, p2, p3, p4, p5, p6⟩ := got_cells hW.1; go_simp
       try simp only [Act.put, List.setIfInBounds_toArray, List.set_cons_zero, List.set_cons_succ]
       refine wpAnyP_load 8 [9, 10, 12, 14] (some 60) (.agg (valC T' N9 (.slice Sa Sm Sc) KT' E' (.slice Ja Jm Jc) (.slice Ma Mm Mc))) rfl (by kernel_rfl) (by kernel_rfl) (by kernel_rfl) (by kernel_rfl) (fun _ _ _ h => h) (fun W hW => ?_) (HC.out _ G0.out.kp) ?_
       ·obtain ⟨p0, p1, p2, p3, p4, p5, p6⟩ := got_cells hW.2.1; go_simp
       try simp only [Act.put, List.setIfInBounds_toArray, List.set_cons_zero, List.set_cons_succ]
       refine wpAnyP_ready [4, 9] (by kernel_rfl) (by simp) ?_
       refine AllReadyP.cons (i := 4) (o := ⟨some 56, _, _, _, _, none⟩) rfl (fun K hK => ?_) ?_
       ·go_simp
        have hn1 := rnew_cells wd #[.int .i64 id] 3
        have hz1 : wd.heap.size < (wd.alloc (.cells #[.int .i64 id] 3 (0, 0))).heap.size := by simp
        have G1 := hdd (G0.out.alloc (.cells #[.int .i64 id] 3 (0, 0)))
        refine hK.out _ _ (fun _ => HC.out _ G1.out.kp) ?_
        clear hK K
        try simp only [Act.put, List.setIfInBounds_toArray, List.set_cons_zero, List.set_cons_succ]
        generalize wd.alloc (.cells #[.int .i64 id] 3 (0, 0)) = wa at *
        refine wpAnyP_ready [5, 9] (by kernel_rfl) (by simp) ?_
        refine AllReadyP.cons (i := 5) (o := ⟨some 57, _, _, _, _, none⟩) rfl (fun K hK => ?_) ?_
        ·have hb1 : w.heap.size ≤ wa.heap.size := by have := G1.out.kp.size; have := HB6.out; omega
         refine step_append_own_at rfl (.tmp 53) (.tmp 56) 26 rfl w.heap.size 3 ii (.int .i64 0) 1 8 Tryz.underlying26 hii hiz his hib rfl (by decide) (.slice Ia Im Ic) ids.length (ids.map (Value.int .i64)) rfl G1.out.own1 ⟨wd.heap.size, 0, none⟩ 1 1 [.int .i64 id] rfl rfl hn1 hone1 hmx1 (by omega) hb1 ?_
         intro v5 wb ho5 hg5 ha5
         have G2 := hdd (G1.out.app1 ho5 hg5 ha5)
         refine hK.out _ _ (fun _ => HC.out _ G2.out.kp) ?_
         clear hK K ho5 ha5
         try simp only [Act.put, List.setIfInBounds_toArray, List.set_cons_zero, List.set_cons_succ]
         refine wpAnyP_plain 11 (some 63) (.pointer (some ⟨n0 + 1, 5, none⟩)) rfl (by kernel_rfl) (by kernel_rfl) (by kernel_rfl) (by kernel_rfl) (fun _ _ _ h => h) (fun W => ?_) (fun _ => HC.out _ G2.out.kp) ?_
         ·go_simp
         try simp only [Act.put, List.setIfInBounds_toArray, List.set_cons_zero, List.set_cons_succ]
         refine wpAnyP_ready [9] (by kernel_rfl) (by simp) ?_
         refine AllReadyP.cons (i := 9) (o := ⟨some 61, _, _, _, _, none⟩) rfl (fun K hK => ?_) ?_
         ·go_simp
          have hn2 := rnew_cells wb (valC T' N9 (.slice Sa Sm Sc) KT' E' (.slice Ja Jm Jc) (.slice Ma Mm Mc)) 34
          have hz2 : wb.heap.size < (wb.alloc (.cells (valC T' N9 (.slice Sa Sm Sc) KT' E' (.slice Ja Jm Jc) (.slice Ma Mm Mc)) 34 (0, 0))).heap.size := by simp
          have G3 := hdd (G2.out.alloc (.cells (valC T' N9 (.slice Sa Sm Sc) KT' E' (.slice Ja Jm Jc) (.slice Ma Mm Mc)) 34 (0, 0)))
          refine hK.out _ _ (fun _ => HC.out _ G3.out.kp) ?_
          clear hK K
          try simp only [Act.put, List.setIfInBounds_toArray, List.set_cons_zero, List.set_cons_succ]
          generalize wb.alloc (.cells (valC T' N9 (.slice Sa Sm Sc) KT' E' (.slice Ja Jm Jc) (.slice Ma Mm Mc)) 34 (0, 0)) = we at *
          refine wpAnyP_ready [10] (by kernel_rfl) (by simp) ?_
          refine AllReadyP.cons (i := 10) (o := ⟨some 62, _, _, _, _, none⟩) rfl (fun K hK => ?_) ?_
          ·have hb2 : w.heap.size ≤ we.heap.size := by have := G3.out.kp.size; have := HB6.out; omega
           refine step_append_own_at rfl (.tmp 59) (.tmp 61) 32 rfl w.heap.size 34 vi (.agg sVal) 7 104 Tryz.underlying32 hvi hvz hvs hvb rfl (by decide) (.slice La Lm Lc) vs.length rows.flatten rfl G3.out.own2 ⟨wb.heap.size, 0, none⟩ 1 1 ((valC T' N9 (.slice Sa Sm Sc) KT' E' (.slice Ja Jm Jc) (.slice Ma Mm Mc))).toList rfl rfl hn2 hone2 hmx2 (by omega) hb2 ?_
           intro v6 wf ho6 hg6 ha6
           have G4 := hdd (G3.out.app2 ho6 hg6 ha6)
           refine hK.out _ _ (fun _ => HC.out _ G4.out.kp) ?_
           clear hK K ho6 hg6 ha6
           try simp only [Act.put, List.setIfInBounds_toArray, List.set_cons_zero, List.set_cons_succ]
           obtain ⟨e5a, e5m, e5c, rfl⟩ := rown_shape G4.out.own1
           obtain ⟨e6a, e6m, e6c, rfl⟩ := rown_shape G4.out.own2
           obtain ⟨p0, p1, p2, p3, p4, p5, p6⟩ := got_cells (HC.out _ G4.out.kp).1
           obtain ⟨q0, q1, q2, q3, q4, q5, q6⟩ := got_free (HC.out _ G4.out.kp).1
           refine wpAnyP_ready [12] (by kernel_rfl) (by simp) ?_
           refine AllReadyP.cons (i := 12) (o := ⟨none, _, _, _, _, none⟩) rfl (fun K hK => ?_) ?_
           ·go_simp
            refine hK.out _ _ (fun q => quiet_no q (by kernel_rfl)) ?_
            clear hK K
            try simp only [Act.put, List.setIfInBounds_toArray, List.set_cons_zero, List.set_cons_succ]
            refine wpAnyP_plain 13 (some 64) (.pointer (some ⟨n0 + 1, 6, none⟩)) rfl (by kernel_rfl) (by kernel_rfl) (by kernel_rfl) (by kernel_rfl) (fun _ _ _ h => h) (fun W => ?_) (fun q => quiet_no q (by kernel_rfl)) ?_
            ·go_simp
            try simp only [Act.put, List.setIfInBounds_toArray, List.set_cons_zero, List.set_cons_succ]
            refine wpAnyP_ready [14] (by kernel_rfl) (by simp) ?_
            refine AllReadyP.cons (i := 14) (o := ⟨none, _, _, _, _, none⟩) rfl (fun K hK => ?_) ?_
            ·go_simp
             refine hK.out _ _ (fun q => quiet_no q (by kernel_rfl)) ?_
             clear hK K
             refine wpAnyP_done (by kernel_rfl) ?_ _
             go_wp2_with fail
             go_simp
             go_meet
             exact ⟨_, _, wf, rfl, G4.out⟩
            ·exact AllReadyP.nil
           ·exact AllReadyP.nil
          ·exact AllReadyP.nil
         ·exact AllReadyP.nil
        ·refine AllReadyP.cons (i := 9) (o := ⟨some 61, _, _, _, _, none⟩) rfl (fun K hK => ?_) ?_
         ·go_simp
          have hn2 := rnew_cells wa (valC T' N9 (.slice Sa Sm Sc) KT' E' (.slice Ja Jm Jc) (.slice Ma Mm Mc)) 34
          have hz2 : wa.heap.size < (wa.alloc (.cells (valC T' N9 (.slice Sa Sm Sc) KT' E' (.slice Ja Jm Jc) (.slice Ma Mm Mc)) 34 (0, 0))).heap.size := by simp
          have G2 := hdd (G1.out.alloc (.cells (valC T' N9 (.slice Sa Sm Sc) KT' E' (.slice Ja Jm Jc) (.slice Ma Mm Mc)) 34 (0, 0)))
          have hn1 := news_alloc hn1 hz1 (.cells (valC T' N9 (.slice Sa Sm Sc) KT' E' (.slice Ja Jm Jc) (.slice Ma Mm Mc)) 34 (0, 0))
          refine hK.out _ _ (fun _ => HC.out _ G2.out.kp) ?_
          clear hK K
          try simp only [Act.put, List.setIfInBounds_toArray, List.set_cons_zero, List.set_cons_succ]
          generalize wa.alloc (.cells (valC T' N9 (.slice Sa Sm Sc) KT' E' (.slice Ja Jm Jc) (.slice Ma Mm Mc)) 34 (0, 0)) = wb at *
          refine wpAnyP_ready [5] (by kernel_rfl) (by simp) ?_
          refine AllReadyP.cons (i := 5) (o := ⟨some 57, _, _, _, _, none⟩) rfl (fun K hK => ?_) ?_
          ·have hb1 : w.heap.size ≤ wb.heap.size := by have := G2.out.kp.size; have := HB6.out; omega
           refine step_append_own_at rfl (.tmp 53) (.tmp 56) 26 rfl w.heap.size 3 ii (.int .i64 0) 1 8 Tryz.underlying26 hii hiz his hib rfl (by decide) (.slice Ia Im Ic) ids.length (ids.map (Value.int .i64)) rfl G2.out.own1 ⟨wd.heap.size, 0, none⟩ 1 1 [.int .i64 id] rfl rfl hn1 hone1 hmx1 (by omega) hb1 ?_
           intro v5 we ho5 hg5 ha5
           have G3 := hdd (G2.out.app1 ho5 hg5 ha5)
           have hn2 := news_kept hn2 hz2 ((Keep.refl (fun i => (Value.slice Ia Im Ic).ownBlock = some i) wb).grown hg5 (fun _ e _ => e)) (fun e => by have := HO1.out _ e; have := G0.out.kp.size; have := G1.out.kp.size; omega)
           refine hK.out _ _ (fun _ => HC.out _ G3.out.kp) ?_
           clear hK K ho5 ha5
           try simp only [Act.put, List.setIfInBounds_toArray, List.set_cons_zero, List.set_cons_succ]
           refine wpAnyP_plain 11 (some 63) (.pointer (some ⟨n0 + 1, 5, none⟩)) rfl (by kernel_rfl) (by kernel_rfl) (by kernel_rfl) (by kernel_rfl) (fun _ _ _ h => h) (fun W => ?_) (fun _ => HC.out _ G3.out.kp) ?_
           ·go_simp
           try simp only [Act.put, List.setIfInBounds_toArray, List.set_cons_zero, List.set_cons_succ]
           refine wpAnyP_ready [10] (by kernel_rfl) (by simp) ?_
           refine AllReadyP.cons (i := 10) (o := ⟨some 62, _, _, _, _, none⟩) rfl (fun K hK => ?_) ?_
           ·have hb2 : w.heap.size ≤ we.heap.size := by have := G3.out.kp.size; have := HB6.out; omega
            refine step_append_own_at rfl (.tmp 59) (.tmp 61) 32 rfl w.heap.size 34 vi (.agg sVal) 7 104 Tryz.underlying32 hvi hvz hvs hvb rfl (by decide) (.slice La Lm Lc) vs.length rows.flatten rfl G3.out.own2 ⟨wa.heap.size, 0, none⟩ 1 1 ((valC T' N9 (.slice Sa Sm Sc) KT' E' (.slice Ja Jm Jc) (.slice Ma Mm Mc))).toList rfl rfl hn2 hone2 hmx2 (by omega) hb2 ?_
            intro v6 wf ho6 hg6 ha6
            have G4 := hdd (G3.out.app2 ho6 hg6 ha6)
            refine hK.out _ _ (fun _ => HC.out _ G4.out.kp) ?_
            clear hK K ho6 hg6 ha6
            try simp only [Act.put, List.setIfInBounds_toArray, List.set_cons_zero, List.set_cons_succ]
            obtain ⟨e5a, e5m, e5c, rfl⟩ := rown_shape G4.out.own1
            obtain ⟨e6a, e6m, e6c, rfl⟩ := rown_shape G4.out.own2
            obtain ⟨p0, p1, p2, p3, p4, p5, p6⟩ := got_cells (HC.out _ G4.out.kp).1
            obtain ⟨q0, q1, q2, q3, q4, q5, q6⟩ := got_free (HC.out _ G4.out.kp).1
            refine wpAnyP_ready [12] (by kernel_rfl) (by simp) ?_
            refine AllReadyP.cons (i := 12) (o := ⟨none, _, _, _, _, none⟩) rfl (fun K hK => ?_) ?_
            ·go_simp
             refine hK.out _ _ (fun q => quiet_no q (by kernel_rfl)) ?_
             clear hK K
             try simp only [Act.put, List.setIfInBounds_toArray, List.set_cons_zero, List.set_cons_succ]
             refine wpAnyP_plain 13 (some 64) (.pointer (some ⟨n0 + 1, 6, none⟩)) rfl (by kernel_rfl) (by kernel_rfl) (by kernel_rfl) (by kernel_rfl) (fun _ _ _ h => h) (fun W => ?_) (fun q => quiet_no q (by kernel_rfl)) ?_
             ·go_simp
             try simp only [Act.put, List.setIfInBounds_toArray, List.set_cons_zero, List.set_cons_succ]
             refine wpAnyP_ready [14] (by kernel_rfl) (by simp) ?_
             refine AllReadyP.cons (i := 14) (o := ⟨none, _, _, _, _, none⟩) rfl (fun K hK => ?_) ?_
             ·go_simp
              refine hK.out _ _ (fun q => quiet_no q (by kernel_rfl)) ?_
              clear hK K
              refine wpAnyP_done (by kernel_rfl) ?_ _
              go_wp2_with fail
              go_simp
              go_meet
              exact ⟨_, _, wf, rfl, G4.out⟩
             ·exact AllReadyP.nil
            ·exact AllReadyP.nil
           ·exact AllReadyP.nil
          ·exact AllReadyP.nil
         ·exact AllReadyP.nil
       ·refine AllReadyP.cons (i := 9) (o := ⟨some 61, _, _, _, _, none⟩) rfl (fun K hK => ?_) ?_
        ·go_simp
         have hn2 := rnew_cells wd (valC T' N9 (.slice Sa Sm Sc) KT' E' (.slice Ja Jm Jc) (.slice Ma Mm Mc)) 34
         have hz2 : wd.heap.size < (wd.alloc (.cells (valC T' N9 (.slice Sa Sm Sc) KT' E' (.slice Ja Jm Jc) (.slice Ma Mm Mc)) 34 (0, 0))).heap.size := by simp
         have G1 := hdd (G0.out.alloc (.cells (valC T' N9 (.slice Sa Sm Sc) KT' E' (.slice Ja Jm Jc) (.slice Ma Mm Mc)) 34 (0, 0)))
         refine hK.out _ _ (fun _ => HC.out _ G1.out.kp) ?_
         clear hK K
         try simp only [Act.put, List.setIfInBounds_toArray, List.set_cons_zero, List.set_cons_succ]
         generalize wd.alloc (.cells (valC T' N9 (.slice Sa Sm Sc) KT' E' (.slice Ja Jm Jc) (.slice Ma Mm Mc)) 34 (0, 0)) = wa at *
         refine wpAnyP_ready [4] (by kernel_rfl) (by simp) ?_
         refine AllReadyP.cons (i := 4) (o := ⟨some 56, _, _, _, _, none⟩) rfl (fun K hK => ?_) ?_
         ·have hn2' := news_alloc hn2 hz2 (.cells #[.int .i64 id] 3 (0, 0))
          go_simp
          have hn1 := rnew_cells wa #[.int .i64 id] 3
          have hz1 : wa.heap.size < (wa.alloc (.cells #[.int .i64 id] 3 (0, 0))).heap.size := by simp
          have G2 := hdd (G1.out.alloc (.cells #[.int .i64 id] 3 (0, 0)))
          refine hK.out _ _ (fun _ => HC.out _ G2.out.kp) ?_
          clear hK K
          try simp only [Act.put, List.setIfInBounds_toArray, List.set_cons_zero, List.set_cons_succ]
          generalize wa.alloc (.cells #[.int .i64 id] 3 (0, 0)) = wb at *
          have hz2 := Nat.lt_trans hz2 hz1
          have hn2 := hn2'
          refine wpAnyP_ready [5] (by kernel_rfl) (by simp) ?_
          refine AllReadyP.cons (i := 5) (o := ⟨some 57, _, _, _, _, none⟩) rfl (fun K hK => ?_) ?_
          ·have hb1 : w.heap.size ≤ wb.heap.size := by have := G2.out.kp.size; have := HB6.out; omega
           refine step_append_own_at rfl (.tmp 53) (.tmp 56) 26 rfl w.heap.size 3 ii (.int .i64 0) 1 8 Tryz.underlying26 hii hiz his hib rfl (by decide) (.slice Ia Im Ic) ids.length (ids.map (Value.int .i64)) rfl G2.out.own1 ⟨wa.heap.size, 0, none⟩ 1 1 [.int .i64 id] rfl rfl hn1 hone1 hmx1 (by omega) hb1 ?_
           intro v5 we ho5 hg5 ha5
           have G3 := hdd (G2.out.app1 ho5 hg5 ha5)
           have hn2 := news_kept hn2 hz2 ((Keep.refl (fun i => (Value.slice Ia Im Ic).ownBlock = some i) wb).grown hg5 (fun _ e _ => e)) (fun e => by have := HO1.out _ e; have := G0.out.kp.size; have := G1.out.kp.size; omega)
           refine hK.out _ _ (fun _ => HC.out _ G3.out.kp) ?_
           clear hK K ho5 ha5
           try simp only [Act.put, List.setIfInBounds_toArray, List.set_cons_zero, List.set_cons_succ]
           refine wpAnyP_plain 11 (some 63) (.pointer (some ⟨n0 + 1, 5, none⟩)) rfl (by kernel_rfl) (by kernel_rfl) (by kernel_rfl) (by kernel_rfl) (fun _ _ _ h => h) (fun W => ?_) (fun _ => HC.out _ G3.out.kp) ?_
           ·go_simp
           try simp only [Act.put, List.setIfInBounds_toArray, List.set_cons_zero, List.set_cons_succ]
           refine wpAnyP_ready [10] (by kernel_rfl) (by simp) ?_
           refine AllReadyP.cons (i := 10) (o := ⟨some 62, _, _, _, _, none⟩) rfl (fun K hK => ?_) ?_
           ·have hb2 : w.heap.size ≤ we.heap.size := by have := G3.out.kp.size; have := HB6.out; omega
            refine step_append_own_at rfl (.tmp 59) (.tmp 61) 32 rfl w.heap.size 34 vi (.agg sVal) 7 104 Tryz.underlying32 hvi hvz hvs hvb rfl (by decide) (.slice La Lm Lc) vs.length rows.flatten rfl G3.out.own2 ⟨wd.heap.size, 0, none⟩ 1 1 ((valC T' N9 (.slice Sa Sm Sc) KT' E' (.slice Ja Jm Jc) (.slice Ma Mm Mc))).toList rfl rfl hn2 hone2 hmx2 (by omega) hb2 ?_
            intro v6 wf ho6 hg6 ha6
            have G4 := hdd (G3.out.app2 ho6 hg6 ha6)
            refine hK.out _ _ (fun _ => HC.out _ G4.out.kp) ?_
            clear hK K ho6 hg6 ha6
            try simp only [Act.put, List.setIfInBounds_toArray, List.set_cons_zero, List.set_cons_succ]
            obtain ⟨e5a, e5m, e5c, rfl⟩ := rown_shape G4.out.own1
            obtain ⟨e6a, e6m, e6c, rfl⟩ := rown_shape G4.out.own2
            obtain ⟨p0, p1, p2, p3, p4, p5, p6⟩ := got_cells (HC.out _ G4.out.kp).1
            obtain ⟨q0, q1, q2, q3, q4, q5, q6⟩ := got_free (HC.out _ G4.out.kp).1
            refine wpAnyP_ready [12] (by kernel_rfl) (by simp) ?_
            refine AllReadyP.cons (i := 12) (o := ⟨none, _, _, _, _, none⟩) rfl (fun K hK => ?_) ?_
            ·go_simp
             refine hK.out _ _ (fun q => quiet_no q (by kernel_rfl)) ?_
             clear hK K
             try simp only [Act.put, List.setIfInBounds_toArray, List.set_cons_zero, List.set_cons_succ]
             refine wpAnyP_plain 13 (some 64) (.pointer (some ⟨n0 + 1, 6, none⟩)) rfl (by kernel_rfl) (by kernel_rfl) (by kernel_rfl) (by kernel_rfl) (fun _ _ _ h => h) (fun W => ?_) (fun q => quiet_no q (by kernel_rfl)) ?_
             ·go_simp
             try simp only [Act.put, List.setIfInBounds_toArray, List.set_cons_zero, List.set_cons_succ]
             refine wpAnyP_ready [14] (by kernel_rfl) (by simp) ?_
             refine AllReadyP.cons (i := 14) (o := ⟨none, _, _, _, _, none⟩) rfl (fun K hK => ?_) ?_
             ·go_simp
              refine hK.out _ _ (fun q => quiet_no q (by kernel_rfl)) ?_
              clear hK K
              refine wpAnyP_done (by kernel_rfl) ?_ _
              go_wp2_with fail
              go_simp
              go_meet
              exact ⟨_, _, wf, rfl, G4.out⟩
             ·exact AllReadyP.nil
            ·exact AllReadyP.nil
           ·exact AllReadyP.nil
          ·exact AllReadyP.nil
         ·exact AllReadyP.nil
        ·exact AllReadyP.nil
      case rest =>
      obtain ⟨v5, v6, wy, rfl, hg⟩ := hcut
      obtain ⟨e5a, e5m, e5c, rfl⟩ := rown_shape hg.own1
      obtain ⟨e6a, e6m, e6c, rfl⟩ := rown_shape hg.own2
      clear hone1 hone2 hmx1 hmx2 hvi hvz hvs hvb hii hiz his hib
      have hM6 := (ok.turn HH9.out HK6.out (fun _ x => x.elim)).2
      obtain ⟨F8, I8⟩ := Rdr.Frame.two (x := (gt r.pr d t (r.pr.fS s1)).2.2) (id := id) ok (Rdr.Frame.fresh ok HF9.out HH9.out HK6.out) (ok.fresh HH9.out HK6.out)
       (((HVAL.out (by trivial)).keep HK6.out (fun _ _ => (fun y => y))).weak (fun i _ hi => ⟨fun j hj e => by have := (HMN.out j hj).2.1; have := hi.1; omega, by have := hi.1; have := HF5.out.kp.size; omega, fun p hp e => by have := lt_of_heap (HF5.out.still p hp).2.1; have := hi.1; omega, fun m => hi.2 (hM6 i m)⟩)) hg
      have a1 := gt_len ok.pr d _ _ HS9.out
      have a2 := gt_dep ok.pr d _ _ HS9.out
      have HA := hdd (And.intro a1 a2)
      have F8 := F8.drop
      clear hM6 a1 a2 hg
      generalize (wy.setCell ⟨n0 + 1, 5, none⟩ (.slice e5a e5m e5c)).setCell ⟨n0 + 1, 6, none⟩ (.slice e6a e6m e6c) = wz at *
      have HF8 := hdd F8
      have HI8 := hdd I8
      have HFE := hdd (ok.fe I8 : Calls _ _ _ wz _)
      clear F8 I8
      go_wp2_with fail
      refine HFE.out.mono ?_
      rintro e w3 ⟨y5, t5, kt5, size5, id5, N5, S5, rfl, ⟨a5, m5, cc5, rfl⟩, hx5, ⟨s5, h5, hr5⟩, hk7, _⟩
      have HF3 := hdd (HF8.out.call hk7)
      obtain ⟨hR1, hR2, hR3⟩ := HF3.out.still (n0, sVal, 34) (by simp)
      have HR3 := hdd hR2
      have HH3 := hdd h5
      clear h5 hk7 hR1 hR2 hR3
      have h0 : y5 = 0 ∨ y5 = -2 := by unfold Sk at hx5; omega
      clear hx5
      rcases h0 with rfl | rfl
      ·obtain rfl := hr5 rfl
       clear hr5
       go_wp2_with fail
       go_roundg k
       case measure => exact Nat.lt_succ_self _
       case rel =>
        have a1 := HA.out
        have a2 := HNUM.out
        have a3 := ok.pr.fe (gt r.pr d t (r.pr.fS s1)).2.1
        have a4 := ok.pr.dfe (gt r.pr d t (r.pr.fS s1)).2.1
        have a5 := ok.pr.f s1 HZ.out
        have a6 := ok.pr.df s1 HZ.out
        refine ⟨_, _, _, _, _, _, ok.fresh HH3.out ((Keep.refl (fun _ => False) w3).alloc _), Rdr.Frame.fresh ok HF3.out HH3.out ((Keep.refl (fun _ => False) w3).alloc _), by omega, ?_, by omega, by omega, by simp; omega, by simp; omega⟩
        rw [← HF.out]
        have e0 := rgflds_ok (p := r.pr) (f := gt r.pr d) (n := k) (s := s1) (ids := ids) (l := vs) HZ.out HNE.out (by rw [← HTT.out]; exact HS9.out)
        rw [← HTT.out, ← HID.out] at e0
        exact e0.symm
      ·clear hr5
       go_wp2_with fail
       have hk5 : Keep (fun _ => False) w3 (w3.alloc (.cells (gotA (-2) t5 kt5 size5 id5 N5 (.slice a5 m5 cc5)) 107 (0, 0))) := (Keep.refl _ w3).alloc _
       have hG5 := heap_alloc_new w3 (.cells (gotA (-2) t5 kt5 size5 id5 N5 (.slice a5 m5 cc5)) 107 (0, 0))
       obtain ⟨G2, hG2⟩ : ∃ G2, w3.heap.size = G2 := ⟨_, rfl⟩
       rw [hG2] at hG5 ⊢
       generalize w3.alloc (.cells (gotA (-2) t5 kt5 size5 id5 N5 (.slice a5 m5 cc5)) 107 (0, 0)) = w5b at *
       have hltR := lt_of_heap HR3.out
       have hltU := lt_of_heap HF3.out.vb.blk
       have hR5 := (hk5.block n0 hltR (fun x => x)).trans HR3.out
       have hU5 := (hk5.block (n0 + 1) hltU (fun x => x)).trans HF3.out.vb.blk
       have hne3 : ¬ n0 = G2 := by omega
       have hne4 : ¬ G2 = n0 := by omega
       have hne5 : ¬ n0 + 1 = G2 := by omega
       have hne6 : ¬ G2 = n0 + 1 := by omega
       have HK5 := hdd hk5
       have HR5 := hdd hR5
       obtain ⟨u0, u1, u2, u3, u4, u5, u6⟩ := got_cells hG5
       obtain ⟨x0, x1, x2, x3, x4, x5, x6⟩ := got_cells hU5
       obtain ⟨r0, r1, r2, r3, r4, r5, r6⟩ := got_cells hR5
       obtain ⟨z0, z1, z2, z3, z4, z5, z6⟩ := got_free hR5
       clear hk5 hG5 hU5 hR5 hG2
       go_region
       all_goals
        go_wp2_with fail
        have hk9 := sval_keep (M := fun i => n0 = i) (HK5.out.weak (fun _ _ e => e.elim)) (R := n0) (fun _ => rfl) (.int .i64 12) (.int .i64 0) (.slice none 0 0) (.int .i64 0) (.int .i64 0) (.slice e5a e5m e5c) (.slice e6a e6m e6c)
        have hR9 := sval_set HR5.out (.int .i64 12) (.int .i64 0) (.slice none 0 0) (.int .i64 0) (.int .i64 0) (.slice e5a e5m e5c) (.slice e6a e6m e6c)
        generalize ((((((w5b.setCell ⟨n0, 0, none⟩ (.int .i64 12)).setCell ⟨n0, 1, none⟩ (.int .i64 0)).setCell ⟨n0, 2, none⟩ (.slice none 0 0)).setCell ⟨n0, 3, none⟩ (.int .i64 0)).setCell ⟨n0, 4, none⟩ (.int .i64 0)).setCell ⟨n0, 5, none⟩ (.slice e5a e5m e5c)).setCell ⟨n0, 6, none⟩ (.slice e6a e6m e6c) = wq at *
        have hR10 : wq.drew.heap[n0]? = some (.cells (valC 12 0 nilB 0 0 (.slice e5a e5m e5c) (.slice e6a e6m e6c)) 34 (0, 0)) := hR9
        have hk10 := hk9.drew
        refine ret_cell2 (U := n0) (T := 34) Tryz.results91 rfl rfl rfl hR10 Tryz.underlying34 sval_size ?_
        obtain ⟨q1, q2, q3⟩ := HF3.out.still (n0, sVal, 34) (by simp)
        obtain ⟨j1, j2⟩ := ok.turn HH3.out hk10 (fun i e => by subst e; exact q3)
        exact ⟨12, 0, none, 0, 0, 0, 0, e5a, e5m, e5c, e6a, e6m, e6c, -2, rfl, .inl rfl, ⟨_, j1, fun hh => absurd hh (by decide)⟩, Kpt.turned HF3.out.kp hk10 (fun i e => by subst e; exact q1) j2, fun hh => absurd hh (by decide)⟩
     ·obtain ⟨x0, x1, x2, x3, x4, x5, x6⟩ := got_cells HF9.out.vb.blk
      obtain ⟨r0, r1, r2, r3, r4, r5, r6⟩ := got_cells HRR.out
      obtain ⟨z0, z1, z2, z3, z4, z5, z6⟩ := got_free HRR.out
      have HZ9 := hdd hz9
      have hUl := lt_of_heap HF9.out.vb.blk
      have hRl := lt_of_heap HRR.out
      go_wp2_with (with_reducible refine rList_named 50 rfl ?_)
      intro wn hwn
      have hk5 : Keep (fun _ => False) w9 wn := by rw [← hwn]; exact (Keep.refl _ w9).alloc _
      have hU5 := (hk5.block (n0 + 1) hUl (fun x => x)).trans HF9.out.vb.blk
      have hR5 := (hk5.block n0 hRl (fun x => x)).trans HRR.out
      clear hwn x0 x1 x2 x3 x4 x5 x6 r0 r1 r2 r3 r4 r5 r6 z0 z1 z2 z3 z4 z5 z6
      have HK7 := hdd hk5
      have HR5 := hdd hR5
      obtain ⟨x0, x1, x2, x3, x4, x5, x6⟩ := got_cells hU5
      obtain ⟨r0, r1, r2, r3, r4, r5, r6⟩ := got_cells hR5
      obtain ⟨z0, z1, z2, z3, z4, z5, z6⟩ := got_free hR5
      clear hU5 hR5 hk5
      go_wp2_with fail
      have hk9 := sval_keep (M := fun i => n0 = i) (HK7.out.weak (fun _ _ e => e.elim)) (R := n0) (fun _ => rfl) (.int .i64 12) (.int .i64 0) (.slice none 0 0) (.int .i64 0) (.int .i64 0) (.slice Ia Im Ic) (.slice La Lm Lc)
      refine ret_cell2 (U := n0) (T := 34) Tryz.results91 rfl rfl rfl (sval_set HR5.out (.int .i64 12) (.int .i64 0) (.slice none 0 0) (.int .i64 0) (.int .i64 0) (.slice Ia Im Ic) (.slice La Lm Lc)) Tryz.underlying34 sval_size ?_
      obtain ⟨q1, q2, q3⟩ := HF9.out.still (n0, sVal, 34) (by simp)
      obtain ⟨j1, j2⟩ := ok.turn HH9.out hk9 (fun i e => by subst e; exact q3)
      refine ⟨12, 0, none, 0, 0, 0, 0, Ia, Im, Ic, La, Lm, Lc, x9, rfl, ?_, ⟨s9, j1, fun hh => absurd hh HZ9.out⟩, Kpt.turned HF9.out.kp hk9 (fun i e => by subst e; exact q1) j2, fun hh => absurd hh HZ9.out⟩
      have hX := HX9.out
      by_cases hq : (gt r.pr d t (r.pr.fS s1)).1 = 0
      ·have := HZ9.out
       unfold Sk at hX ⊢; omega
      ·have e1 : tot = ((gt r.pr d t (r.pr.fS s1)).1, (gt r.pr d t (r.pr.fS s1)).2.1, V.zero) := by
        rw [← HF.out]
        have e0 := rgflds_bad (p := r.pr) (f := gt r.pr d) (n := k) (s := s1) (ids := ids) (l := vs) HZ.out HNE.out (by rw [← HTT.out]; exact hq)
        rw [← HTT.out] at e0
        exact e0
       rw [e1]; exact hX
   ·have HZ := hdd hz
    clear hv hr3
    obtain ⟨Ia, Im, Ic, rfl⟩ := rown_shape HFR.out.vb.ids
    obtain ⟨La, Lm, Lc, rfl⟩ := rown_shape HFR.out.vb.parts
    go_wp2_with fail
    have hk5 : Keep (fun _ => False) w3 (w3.alloc (.cells (gotA x t kt3 size3 id N3 (.slice a3 m3 c3)) 107 (0, 0))) := (Keep.refl _ w3).alloc _
    have hG5 := heap_alloc_new w3 (.cells (gotA x t kt3 size3 id N3 (.slice a3 m3 c3)) 107 (0, 0))
    obtain ⟨G, hG⟩ : ∃ G, w3.heap.size = G := ⟨_, rfl⟩
    rw [hG] at hG5 ⊢
    generalize w3.alloc (.cells (gotA x t kt3 size3 id N3 (.slice a3 m3 c3)) 107 (0, 0)) = w5 at *
    have hltR := lt_of_heap HR3.out
    have hltU := lt_of_heap HF3.out.vb.blk
    have hR5 := (hk5.block n0 hltR (fun x => x)).trans HR3.out
    have hU5 := (hk5.block (n0 + 1) hltU (fun x => x)).trans HF3.out.vb.blk
    have hne3 : ¬ n0 = G := by omega
    have hne4 : ¬ G = n0 := by omega
    have hne5 : ¬ n0 + 1 = G := by omega
    have hne6 : ¬ G = n0 + 1 := by omega
    have HK5 := hdd hk5
    have HR5 := hdd hR5
    obtain ⟨u0, u1, u2, u3, u4, u5, u6⟩ := got_cells hG5
    obtain ⟨x0, x1, x2, x3, x4, x5, x6⟩ := got_cells hU5
    obtain ⟨r0, r1, r2, r3, r4, r5, r6⟩ := got_cells hR5
    obtain ⟨z0, z1, z2, z3, z4, z5, z6⟩ := got_free hR5
    clear hk5 hG5 hU5 hR5 hG
    go_region
    all_goals
     go_wp2_with fail
     have hk9 := sval_keep (M := fun i => n0 = i) (HK5.out.weak (fun _ _ e => e.elim)) (R := n0) (fun _ => rfl) (.int .i64 12) (.int .i64 0) (.slice none 0 0) (.int .i64 0) (.int .i64 0) (.slice Ia Im Ic) (.slice La Lm Lc)
     have hR9 := sval_set HR5.out (.int .i64 12) (.int .i64 0) (.slice none 0 0) (.int .i64 0) (.int .i64 0) (.slice Ia Im Ic) (.slice La Lm Lc)
     generalize ((((((w5.setCell ⟨n0, 0, none⟩ (.int .i64 12)).setCell ⟨n0, 1, none⟩ (.int .i64 0)).setCell ⟨n0, 2, none⟩ (.slice none 0 0)).setCell ⟨n0, 3, none⟩ (.int .i64 0)).setCell ⟨n0, 4, none⟩ (.int .i64 0)).setCell ⟨n0, 5, none⟩ (.slice Ia Im Ic)).setCell ⟨n0, 6, none⟩ (.slice La Lm Lc) = wq at *
     have hR10 : wq.drew.heap[n0]? = some (.cells (valC 12 0 nilB 0 0 (.slice Ia Im Ic) (.slice La Lm Lc)) 34 (0, 0)) := hR9
     have hk10 := hk9.drew
     refine ret_cell2 (U := n0) (T := 34) Tryz.results91 rfl rfl rfl hR10 Tryz.underlying34 sval_size ?_
     obtain ⟨q1, q2, q3⟩ := HF3.out.still (n0, sVal, 34) (by simp)
     obtain ⟨j1, j2⟩ := ok.turn HH3.out hk10 (fun i e => by subst e; exact q3)
     refine ⟨12, 0, none, 0, 0, 0, 0, Ia, Im, Ic, La, Lm, Lc, x, rfl, ?_, ⟨s3, j1, fun hh => absurd hh HZ.out⟩, Kpt.turned HF3.out.kp hk10 (fun i e => by subst e; exact q1) j2, fun hh => absurd hh HZ.out⟩
     have hX := HX.out
     by_cases hq : r.pr.fK s1 = 0
     ·have := HZ.out
      unfold Sk at hX ⊢; omega
     ·have e1 : tot = (r.pr.fK s1, r.pr.fS s1, V.zero) := by rw [← HF.out]; exact rgflds_err hq
      rw [e1]; exact hX
 ·clear hx hr3
  go_wp2_with fail
  have hk5 : Keep (fun _ => False) w2 (w2.alloc (.cells (gotA (-2) t' kt size id N' (.slice a m cc)) 107 (0, 0))) := (Keep.refl _ w2).alloc _
  have hG5 := heap_alloc_new w2 (.cells (gotA (-2) t' kt size id N' (.slice a m cc)) 107 (0, 0))
  obtain ⟨G, hG⟩ : ∃ G, w2.heap.size = G := ⟨_, rfl⟩
  rw [hG] at hG5 ⊢
  generalize w2.alloc (.cells (gotA (-2) t' kt size id N' (.slice a m cc)) 107 (0, 0)) = w5 at *
  have hltR := lt_of_heap HR2.out
  have hltU := lt_of_heap HU2.out
  have hR5 := (hk5.block n0 hltR (fun x => x)).trans HR2.out
  have hU5 := (hk5.block (n0 + 1) hltU (fun x => x)).trans HU2.out
  have hne3 : ¬ n0 = G := by omega
  have hne4 : ¬ G = n0 := by omega
  have hne5 : ¬ n0 + 1 = G := by omega
  have hne6 : ¬ G = n0 + 1 := by omega
  have HK5 := hdd hk5
  have HR5 := hdd hR5
  obtain ⟨u0, u1, u2, u3, u4, u5, u6⟩ := got_cells hG5
  obtain ⟨x0, x1, x2, x3, x4, x5, x6⟩ := got_cells hU5
  obtain ⟨r0, r1, r2, r3, r4, r5, r6⟩ := got_cells hR5
  obtain ⟨z0, z1, z2, z3, z4, z5, z6⟩ := got_free hR5
  clear hk5 hG5 hU5 hR5 hG
  go_region
  all_goals
   go_wp2_with fail
   have hk9 := sval_keep (M := fun i => n0 = i) (HK5.out.weak (fun _ _ e => e.elim)) (R := n0) (fun _ => rfl) (.int .i64 12) (.int .i64 0) (.slice none 0 0) (.int .i64 0) (.int .i64 0) (.slice none 0 0) (.slice none 0 0)
   have hR9 := sval_set HR5.out (.int .i64 12) (.int .i64 0) (.slice none 0 0) (.int .i64 0) (.int .i64 0) (.slice none 0 0) (.slice none 0 0)
   generalize ((((((w5.setCell ⟨n0, 0, none⟩ (.int .i64 12)).setCell ⟨n0, 1, none⟩ (.int .i64 0)).setCell ⟨n0, 2, none⟩ (.slice none 0 0)).setCell ⟨n0, 3, none⟩ (.int .i64 0)).setCell ⟨n0, 4, none⟩ (.int .i64 0)).setCell ⟨n0, 5, none⟩ (.slice none 0 0)).setCell ⟨n0, 6, none⟩ (.slice none 0 0) = wq at *
   have hR10 : wq.drew.heap[n0]? = some (.cells (valC 12 0 nilB 0 0 (.slice none 0 0) (.slice none 0 0)) 34 (0, 0)) := hR9
   have hk10 := hk9.drew
   refine ret_cell2 (U := n0) (T := 34) Tryz.results91 rfl rfl rfl hR10 Tryz.underlying34 sval_size ?_
   have hn0 := HN.out
   obtain ⟨j1, j2⟩ := ok.turn hr1 hk10 (fun i e => by subst e; exact HNR.out)
   exact ⟨12, 0, none, 0, 0, 0, 0, none, 0, 0, none, 0, 0, -2, rfl, .inl rfl, ⟨_, j1, fun hh => absurd hh (by decide)⟩, Kpt.turned ((ok.kept hR hk0).then HK.out) hk10 (fun i e => by omega) j2, fun hh => absurd hh (by decide)⟩
end
section
variable {σ : Type} {r : Rdr σ} {s : σ} {w : World}
set_option maxRecDepth 100000 in
theorem Rdr.get12 (ok : r.Ok) (d : Nat) (ih : r.Gets d) (deep : Int) (hdq : deep.toNat = d + 1) (hd : 0 < deep) (hhi : deep ≤ 9223372036854775807) (hR : r.Inv s w) (hroom : r.pr.Room s) :
  Calls Tryz.prog 64 #[.pointer (some ⟨r.R, 0, none⟩), .int .i64 12, .int .i64 deep] w (r.GetP (d + 1) w (gflds r.pr (gt r.pr d) (r.pr.len (r.pr.sbS s) + 1) (r.pr.sbS s) [] [])) := by
 have hk0 : Keep (fun _ => False) w ((w.alloc (.cells sVal 34 (0, 0))).alloc (.cells (valC 12 0 nilB 0 0 (.slice none 0 0) (.slice none 0 0)) 34 (0, 0))) := ((Keep.refl _ w).alloc _).alloc _
 have hR0 : ((w.alloc (.cells sVal 34 (0, 0))).alloc (.cells (valC 12 0 nilB 0 0 (.slice none 0 0) (.slice none 0 0)) 34 (0, 0))).heap[w.heap.size]? = some (.cells sVal 34 (0, 0)) := (Below.heap_alloc _ _ _ (by simp)).trans (heap_alloc_new w _)
 have hU0 : ((w.alloc (.cells sVal 34 (0, 0))).alloc (.cells (valC 12 0 nilB 0 0 (.slice none 0 0) (.slice none 0 0)) 34 (0, 0))).heap[w.heap.size + 1]? = some (.cells (valC 12 0 nilB 0 0 (.slice none 0 0) (.slice none 0 0)) 34 (0, 0)) := heap_alloc_at (by simp) _
 have hs0 : ((w.alloc (.cells sVal 34 (0, 0))).alloc (.cells (valC 12 0 nilB 0 0 (.slice none 0 0) (.slice none 0 0)) 34 (0, 0))).heap.size = w.heap.size + 2 := by simp
 go_enter Tryz.func64, Tryz.ntmps64
 go_wp2_with fail
 refine (spec_op 12 _).mono ?_
 rintro e w1 ⟨rfl, hw1⟩
 rw [show opOf 12 = -1 by decide]
 rw [hw1] at hk0 hR0 hU0 hs0
 clear hw1
 obtain ⟨n0, hn⟩ : ∃ n0, w.heap.size = n0 := ⟨_, rfl⟩
 rw [hn] at hR0 hU0 hs0
 have HN := hdd hn
 have HR0 := hdd hR0
 have HS0 := hdd hs0
 clear hR0 hU0 hs0
 go_wp2_with fail
 clear hn
 refine (Rdr.get_struct ok d ih deep hdq hd hhi (ok.fresh hR hk0) hroom).mono ?_
 rintro e w3 ⟨T', N', Sa, Sm, Sc, KT', E', Ia, Im, Ic, La, Lm, Lc, x, rfl, hx, ⟨s2, h2, hr2⟩, hk, hval⟩
 have hmn := ok.new hR hk0
 have hn0 := HN.out
 have hs1 := HS0.out
 have hR3 := (hk.block n0 (lt_of_heap HR0.out) (hmn _ (by omega))).trans HR0.out
 have hnR := hk.not (i := n0) (lt_of_heap HR0.out) (hmn _ (by omega))
 have HX := hdd hx
 have HVAL := hdd hval
 have HR3 := hdd hR3
 have HNR := hdd hnR
 have H2 := hdd hr2
 have HK := hdd hk
 obtain ⟨r0, r1, r2, r3, r4, r5, r6⟩ := got_cells hR3
 obtain ⟨z0, z1, z2, z3, z4, z5, z6⟩ := got_free hR3
 clear hmn hn0 hs1 hR3 hnR hx hval hr2 hk
 go_wp2_with fail
 have hk9 := sval_keep (M := fun i => n0 = i) (Keep.refl _ w3) (R := n0) (fun _ => rfl) (.int .i64 T') (.int .i64 N') (.slice Sa Sm Sc) (.int .i64 KT') (.int .i64 E') (.slice Ia Im Ic) (.slice La Lm Lc)
 refine ret_cell2 (U := n0) (T := 34) Tryz.results64 rfl rfl rfl (sval_set HR3.out (.int .i64 T') (.int .i64 N') (.slice Sa Sm Sc) (.int .i64 KT') (.int .i64 E') (.slice Ia Im Ic) (.slice La Lm Lc)) Tryz.underlying34 sval_size ?_
 have hn0 := HN.out
 have hs1 := HS0.out
 obtain ⟨j1, j2⟩ := ok.turn h2 hk9 (fun i e => by subst e; exact HNR.out)
 refine ⟨T', N', Sa, Sm, Sc, KT', E', Ia, Im, Ic, La, Lm, Lc, x, rfl, HX.out, ⟨s2, j1, H2.out⟩, Kpt.turned ((ok.kept hR hk0).then HK.out) hk9 (fun i e => by omega) j2, fun hz => ?_⟩
 exact ((HVAL.out hz).keep hk9 (fun i hi e => by have := hi.1; omega)).weak (fun i _ hi => ⟨by have := hi.1; omega, fun q => hi.2 (j2 i q)⟩)
set_option maxRecDepth 100000 in
theorem Rdr.get13 (ok : r.Ok) (d : Nat) (ih : r.Gets d) (deep : Int) (hdq : deep.toNat = d + 1) (hd : 0 < deep) (hhi : deep ≤ 9223372036854775807) (hR : r.Inv s w) (hroom : r.pr.Room s) :
  Calls Tryz.prog 64 #[.pointer (some ⟨r.R, 0, none⟩), .int .i64 13, .int .i64 deep] w (r.GetP (d + 1) w (gt r.pr (d + 1) 13 s)) := by
 have hk0 : Keep (fun _ => False) w ((w.alloc (.cells sVal 34 (0, 0))).alloc (.cells (valC 13 0 nilB 0 0 (.slice none 0 0) (.slice none 0 0)) 34 (0, 0))) := ((Keep.refl _ w).alloc _).alloc _
 have hR0 : ((w.alloc (.cells sVal 34 (0, 0))).alloc (.cells (valC 13 0 nilB 0 0 (.slice none 0 0) (.slice none 0 0)) 34 (0, 0))).heap[w.heap.size]? = some (.cells sVal 34 (0, 0)) := (Below.heap_alloc _ _ _ (by simp)).trans (heap_alloc_new w _)
 have hU0 : ((w.alloc (.cells sVal 34 (0, 0))).alloc (.cells (valC 13 0 nilB 0 0 (.slice none 0 0) (.slice none 0 0)) 34 (0, 0))).heap[w.heap.size + 1]? = some (.cells (valC 13 0 nilB 0 0 (.slice none 0 0) (.slice none 0 0)) 34 (0, 0)) := heap_alloc_at (by simp) _
 have hs0 : ((w.alloc (.cells sVal 34 (0, 0))).alloc (.cells (valC 13 0 nilB 0 0 (.slice none 0 0) (.slice none 0 0)) 34 (0, 0))).heap.size = w.heap.size + 2 := by simp
 go_enter Tryz.func64, Tryz.ntmps64
 go_wp2_with fail
 refine (spec_op 13 _).mono ?_
 rintro e w1 ⟨rfl, hw1⟩
 rw [show opOf 13 = -1 by decide]
 rw [hw1] at hk0 hR0 hU0 hs0
 clear hw1
 obtain ⟨n0, hn⟩ : ∃ n0, w.heap.size = n0 := ⟨_, rfl⟩
 rw [hn] at hR0 hU0 hs0
 have HN := hdd hn
 have HR0 := hdd hR0
 have HS0 := hdd hs0
 clear hR0 hU0 hs0
 go_wp2_with fail
 clear hn
 refine (Rdr.get_map ok d ih deep hdq hd hhi (ok.fresh hR hk0) hroom).mono ?_
 rintro e w3 ⟨T', N', Sa, Sm, Sc, KT', E', Ia, Im, Ic, La, Lm, Lc, x, rfl, hx, ⟨s2, h2, hr2⟩, hk, hval⟩
 have hmn := ok.new hR hk0
 have hn0 := HN.out
 have hs1 := HS0.out
 have hR3 := (hk.block n0 (lt_of_heap HR0.out) (hmn _ (by omega))).trans HR0.out
 have hnR := hk.not (i := n0) (lt_of_heap HR0.out) (hmn _ (by omega))
 have HX := hdd hx
 have HVAL := hdd hval
 have HR3 := hdd hR3
 have HNR := hdd hnR
 have H2 := hdd hr2
 have HK := hdd hk
 obtain ⟨r0, r1, r2, r3, r4, r5, r6⟩ := got_cells hR3
 obtain ⟨z0, z1, z2, z3, z4, z5, z6⟩ := got_free hR3
 clear hmn hn0 hs1 hR3 hnR hx hval hr2 hk
 go_wp2_with fail
 have hk9 := sval_keep (M := fun i => n0 = i) (Keep.refl _ w3) (R := n0) (fun _ => rfl) (.int .i64 T') (.int .i64 N') (.slice Sa Sm Sc) (.int .i64 KT') (.int .i64 E') (.slice Ia Im Ic) (.slice La Lm Lc)
 refine ret_cell2 (U := n0) (T := 34) Tryz.results64 rfl rfl rfl (sval_set HR3.out (.int .i64 T') (.int .i64 N') (.slice Sa Sm Sc) (.int .i64 KT') (.int .i64 E') (.slice Ia Im Ic) (.slice La Lm Lc)) Tryz.underlying34 sval_size ?_
 have hn0 := HN.out
 have hs1 := HS0.out
 obtain ⟨j1, j2⟩ := ok.turn h2 hk9 (fun i e => by subst e; exact HNR.out)
 refine ⟨T', N', Sa, Sm, Sc, KT', E', Ia, Im, Ic, La, Lm, Lc, x, rfl, HX.out, ⟨s2, j1, H2.out⟩, Kpt.turned ((ok.kept hR hk0).then HK.out) hk9 (fun i e => by omega) j2, fun hz => ?_⟩
 exact ((HVAL.out hz).keep hk9 (fun i hi e => by have := hi.1; omega)).weak (fun i _ hi => ⟨by have := hi.1; omega, fun q => hi.2 (j2 i q)⟩)
set_option maxRecDepth 100000 in
theorem Rdr.get14 (ok : r.Ok) (d : Nat) (ih : r.Gets d) (deep : Int) (hdq : deep.toNat = d + 1) (hd : 0 < deep) (hhi : deep ≤ 9223372036854775807) (hR : r.Inv s w) (hroom : r.pr.Room s) :
  Calls Tryz.prog 64 #[.pointer (some ⟨r.R, 0, none⟩), .int .i64 14, .int .i64 deep] w (r.GetP (d + 1) w (gt r.pr (d + 1) 14 s)) := by
 have hk0 : Keep (fun _ => False) w ((w.alloc (.cells sVal 34 (0, 0))).alloc (.cells (valC 14 0 nilB 0 0 (.slice none 0 0) (.slice none 0 0)) 34 (0, 0))) := ((Keep.refl _ w).alloc _).alloc _
 have hR0 : ((w.alloc (.cells sVal 34 (0, 0))).alloc (.cells (valC 14 0 nilB 0 0 (.slice none 0 0) (.slice none 0 0)) 34 (0, 0))).heap[w.heap.size]? = some (.cells sVal 34 (0, 0)) := (Below.heap_alloc _ _ _ (by simp)).trans (heap_alloc_new w _)
 have hU0 : ((w.alloc (.cells sVal 34 (0, 0))).alloc (.cells (valC 14 0 nilB 0 0 (.slice none 0 0) (.slice none 0 0)) 34 (0, 0))).heap[w.heap.size + 1]? = some (.cells (valC 14 0 nilB 0 0 (.slice none 0 0) (.slice none 0 0)) 34 (0, 0)) := heap_alloc_at (by simp) _
 have hs0 : ((w.alloc (.cells sVal 34 (0, 0))).alloc (.cells (valC 14 0 nilB 0 0 (.slice none 0 0) (.slice none 0 0)) 34 (0, 0))).heap.size = w.heap.size + 2 := by simp
 go_enter Tryz.func64, Tryz.ntmps64
 go_wp2_with fail
 refine (spec_op 14 _).mono ?_
 rintro e w1 ⟨rfl, hw1⟩
 rw [show opOf 14 = -1 by decide]
 rw [hw1] at hk0 hR0 hU0 hs0
 clear hw1
 obtain ⟨n0, hn⟩ : ∃ n0, w.heap.size = n0 := ⟨_, rfl⟩
 rw [hn] at hR0 hU0 hs0
 have HN := hdd hn
 have HR0 := hdd hR0
 have HS0 := hdd hs0
 clear hR0 hU0 hs0
 go_wp2_with fail
 clear hn
 refine (Rdr.get_set ok d ih deep hdq hd hhi (ok.fresh hR hk0) hroom).mono ?_
 rintro e w3 ⟨T', N', Sa, Sm, Sc, KT', E', Ia, Im, Ic, La, Lm, Lc, x, rfl, hx, ⟨s2, h2, hr2⟩, hk, hval⟩
 have hmn := ok.new hR hk0
 have hn0 := HN.out
 have hs1 := HS0.out
 have hR3 := (hk.block n0 (lt_of_heap HR0.out) (hmn _ (by omega))).trans HR0.out
 have hnR := hk.not (i := n0) (lt_of_heap HR0.out) (hmn _ (by omega))
 have HX := hdd hx
 have HVAL := hdd hval
 have HR3 := hdd hR3
 have HNR := hdd hnR
 have H2 := hdd hr2
 have HK := hdd hk
 obtain ⟨r0, r1, r2, r3, r4, r5, r6⟩ := got_cells hR3
 obtain ⟨z0, z1, z2, z3, z4, z5, z6⟩ := got_free hR3
 clear hmn hn0 hs1 hR3 hnR hx hval hr2 hk
 go_wp2_with fail
 have hk9 := sval_keep (M := fun i => n0 = i) (Keep.refl _ w3) (R := n0) (fun _ => rfl) (.int .i64 T') (.int .i64 N') (.slice Sa Sm Sc) (.int .i64 KT') (.int .i64 E') (.slice Ia Im Ic) (.slice La Lm Lc)
 refine ret_cell2 (U := n0) (T := 34) Tryz.results64 rfl rfl rfl (sval_set HR3.out (.int .i64 T') (.int .i64 N') (.slice Sa Sm Sc) (.int .i64 KT') (.int .i64 E') (.slice Ia Im Ic) (.slice La Lm Lc)) Tryz.underlying34 sval_size ?_
 have hn0 := HN.out
 have hs1 := HS0.out
 obtain ⟨j1, j2⟩ := ok.turn h2 hk9 (fun i e => by subst e; exact HNR.out)
 refine ⟨T', N', Sa, Sm, Sc, KT', E', Ia, Im, Ic, La, Lm, Lc, x, rfl, HX.out, ⟨s2, j1, H2.out⟩, Kpt.turned ((ok.kept hR hk0).then HK.out) hk9 (fun i e => by omega) j2, fun hz => ?_⟩
 exact ((HVAL.out hz).keep hk9 (fun i hi e => by have := hi.1; omega)).weak (fun i _ hi => ⟨by have := hi.1; omega, fun q => hi.2 (j2 i q)⟩)
set_option maxRecDepth 100000 in
theorem Rdr.get15 (ok : r.Ok) (d : Nat) (ih : r.Gets d) (deep : Int) (hdq : deep.toNat = d + 1) (hd : 0 < deep) (hhi : deep ≤ 9223372036854775807) (hR : r.Inv s w) (hroom : r.pr.Room s) :
  Calls Tryz.prog 64 #[.pointer (some ⟨r.R, 0, none⟩), .int .i64 15, .int .i64 deep] w (r.GetP (d + 1) w (gt r.pr (d + 1) 15 s)) := by
 have hk0 : Keep (fun _ => False) w ((w.alloc (.cells sVal 34 (0, 0))).alloc (.cells (valC 15 0 nilB 0 0 (.slice none 0 0) (.slice none 0 0)) 34 (0, 0))) := ((Keep.refl _ w).alloc _).alloc _
 have hR0 : ((w.alloc (.cells sVal 34 (0, 0))).alloc (.cells (valC 15 0 nilB 0 0 (.slice none 0 0) (.slice none 0 0)) 34 (0, 0))).heap[w.heap.size]? = some (.cells sVal 34 (0, 0)) := (Below.heap_alloc _ _ _ (by simp)).trans (heap_alloc_new w _)
 have hU0 : ((w.alloc (.cells sVal 34 (0, 0))).alloc (.cells (valC 15 0 nilB 0 0 (.slice none 0 0) (.slice none 0 0)) 34 (0, 0))).heap[w.heap.size + 1]? = some (.cells (valC 15 0 nilB 0 0 (.slice none 0 0) (.slice none 0 0)) 34 (0, 0)) := heap_alloc_at (by simp) _
 have hs0 : ((w.alloc (.cells sVal 34 (0, 0))).alloc (.cells (valC 15 0 nilB 0 0 (.slice none 0 0) (.slice none 0 0)) 34 (0, 0))).heap.size = w.heap.size + 2 := by simp
 go_enter Tryz.func64, Tryz.ntmps64
 go_wp2_with fail
 refine (spec_op 15 _).mono ?_
 rintro e w1 ⟨rfl, hw1⟩
 rw [show opOf 15 = -1 by decide]
 rw [hw1] at hk0 hR0 hU0 hs0
 clear hw1
 obtain ⟨n0, hn⟩ : ∃ n0, w.heap.size = n0 := ⟨_, rfl⟩
 rw [hn] at hR0 hU0 hs0
 have HN := hdd hn
 have HR0 := hdd hR0
 have HS0 := hdd hs0
 clear hR0 hU0 hs0
 go_wp2_with fail
 clear hn
 refine (Rdr.get_list ok d ih deep hdq hd hhi (ok.fresh hR hk0) hroom).mono ?_
 rintro e w3 ⟨T', N', Sa, Sm, Sc, KT', E', Ia, Im, Ic, La, Lm, Lc, x, rfl, hx, ⟨s2, h2, hr2⟩, hk, hval⟩
 have hmn := ok.new hR hk0
 have hn0 := HN.out
 have hs1 := HS0.out
 have hR3 := (hk.block n0 (lt_of_heap HR0.out) (hmn _ (by omega))).trans HR0.out
 have hnR := hk.not (i := n0) (lt_of_heap HR0.out) (hmn _ (by omega))
 have HX := hdd hx
 have HVAL := hdd hval
 have HR3 := hdd hR3
 have HNR := hdd hnR
 have H2 := hdd hr2
 have HK := hdd hk
 obtain ⟨r0, r1, r2, r3, r4, r5, r6⟩ := got_cells hR3
 obtain ⟨z0, z1, z2, z3, z4, z5, z6⟩ := got_free hR3
 clear hmn hn0 hs1 hR3 hnR hx hval hr2 hk
 go_wp2_with fail
 have hk9 := sval_keep (M := fun i => n0 = i) (Keep.refl _ w3) (R := n0) (fun _ => rfl) (.int .i64 T') (.int .i64 N') (.slice Sa Sm Sc) (.int .i64 KT') (.int .i64 E') (.slice Ia Im Ic) (.slice La Lm Lc)
 refine ret_cell2 (U := n0) (T := 34) Tryz.results64 rfl rfl rfl (sval_set HR3.out (.int .i64 T') (.int .i64 N') (.slice Sa Sm Sc) (.int .i64 KT') (.int .i64 E') (.slice Ia Im Ic) (.slice La Lm Lc)) Tryz.underlying34 sval_size ?_
 have hn0 := HN.out
 have hs1 := HS0.out
 obtain ⟨j1, j2⟩ := ok.turn h2 hk9 (fun i e => by subst e; exact HNR.out)
 refine ⟨T', N', Sa, Sm, Sc, KT', E', Ia, Im, Ic, La, Lm, Lc, x, rfl, HX.out, ⟨s2, j1, H2.out⟩, Kpt.turned ((ok.kept hR hk0).then HK.out) hk9 (fun i e => by omega) j2, fun hz => ?_⟩
 exact ((HVAL.out hz).keep hk9 (fun i hi e => by have := hi.1; omega)).weak (fun i _ hi => ⟨by have := hi.1; omega, fun q => hi.2 (j2 i q)⟩)
set_option maxRecDepth 100000 in
theorem Rdr.get_other (ok : r.Ok) (d : Nat) (deep t : Int) (hd : 0 < deep) (hR : r.Inv s w) (hsc : isSc t = false) (h12 : ¬ t = 12) (h13 : ¬ t = 13) (h14 : ¬ t = 14) (h15 : ¬ t = 15) :
  Calls Tryz.prog 64 #[.pointer (some ⟨r.R, 0, none⟩), .int .i64 t, .int .i64 deep] w (r.GetP (d + 1) w (51, s, V.zero)) := by
 have ho : opOf t = -1 := by
  rcases opOf_sc t with h | h
  ·rw [hsc] at h; exact absurd h.1 (by decide)
  ·exact h.2
 have HO := hdd ho
 have hk0 : Keep (fun _ => False) w ((w.alloc (.cells sVal 34 (0, 0))).alloc (.cells (valC t 0 nilB 0 0 (.slice none 0 0) (.slice none 0 0)) 34 (0, 0))) := ((Keep.refl _ w).alloc _).alloc _
 have hR0 : ((w.alloc (.cells sVal 34 (0, 0))).alloc (.cells (valC t 0 nilB 0 0 (.slice none 0 0) (.slice none 0 0)) 34 (0, 0))).heap[w.heap.size]? = some (.cells sVal 34 (0, 0)) := (Below.heap_alloc _ _ _ (by simp)).trans (heap_alloc_new w _)
 have hU0 : ((w.alloc (.cells sVal 34 (0, 0))).alloc (.cells (valC t 0 nilB 0 0 (.slice none 0 0) (.slice none 0 0)) 34 (0, 0))).heap[w.heap.size + 1]? = some (.cells (valC t 0 nilB 0 0 (.slice none 0 0) (.slice none 0 0)) 34 (0, 0)) := heap_alloc_at (by simp) _
 have hs0 : ((w.alloc (.cells sVal 34 (0, 0))).alloc (.cells (valC t 0 nilB 0 0 (.slice none 0 0) (.slice none 0 0)) 34 (0, 0))).heap.size = w.heap.size + 2 := by simp
 clear ho
 go_enter Tryz.func64, Tryz.ntmps64
 go_wp2_with fail
 refine (spec_op t _).mono ?_
 rintro e w1 ⟨rfl, hw1⟩
 rw [HO.out]
 rw [hw1] at hk0 hR0 hU0 hs0
 clear hw1
 obtain ⟨n0, hn⟩ : ∃ n0, w.heap.size = n0 := ⟨_, rfl⟩
 rw [hn] at hR0 hU0 hs0
 have HN := hdd hn
 have HR0 := hdd hR0
 have HS0 := hdd hs0
 obtain ⟨x0, x1, x2, x3, x4, x5, x6⟩ := got_cells hU0
 obtain ⟨r0, r1, r2, r3, r4, r5, r6⟩ := got_cells hR0
 obtain ⟨z0, z1, z2, z3, z4, z5, z6⟩ := got_free hR0
 clear hR0 hU0 hs0
 go_wp2_with fail
 have hk9 := sval_keep (M := fun i => n0 = i) (Keep.refl _ w1) (R := n0) (fun _ => rfl) (.int .i64 t) (.int .i64 0) (.slice none 0 0) (.int .i64 0) (.int .i64 0) (.slice none 0 0) (.slice none 0 0)
 refine ret_cell2 (U := n0) (T := 34) Tryz.results64 rfl rfl rfl (sval_set HR0.out (.int .i64 t) (.int .i64 0) (.slice none 0 0) (.int .i64 0) (.int .i64 0) (.slice none 0 0) (.slice none 0 0)) Tryz.underlying34 sval_size ?_
 have hn0 := HN.out
 have hs1 := HS0.out
 have hmn := ok.new hR hk0
 obtain ⟨j1, j2⟩ := ok.turn (ok.fresh hR hk0) hk9 (fun i e => by subst e; exact hmn _ (by omega))
 exact ⟨t, 0, none, 0, 0, 0, 0, none, 0, 0, none, 0, 0, 51, rfl, .inr (.inr rfl), ⟨s, j1, fun hh => by cases hh⟩, Kpt.turned (ok.kept hR hk0) hk9 (fun i e => by omega) j2, fun hh => by cases hh⟩
theorem Rdr.GetP.leaf {d : Nat} {w w' : World} {e : Ending} {k : Int} {T N KT E : Int} {S : List UInt8} {IDs : List Int} (h : r.GetP 1 w (k, s, .mk T N S KT E IDs []) e w') : r.GetP (d + 1) w (k, s, .mk T N S KT E IDs []) e w' := by
 obtain ⟨T1, N1, a1, a2, a3, a4, a5, b1, b2, b3, c1, c2, c3, x, h1, h2, h3, h4, h5⟩ := h
 refine ⟨T1, N1, a1, a2, a3, a4, a5, b1, b2, b3, c1, c2, c3, x, h1, h2, h3, h4, fun hz => ?_⟩
 obtain ⟨sv, iv, lv, q1, q2, q3, q4⟩ := h5 hz
 exact ⟨sv, iv, lv, q1, q2, q3, .inl (q4.elim (fun x => x) (fun x => absurd rfl x.1))⟩
end
theorem Rdr.gets {σ : Type} {r : Rdr σ} (ok : r.Ok) (d : Nat) : r.Gets d := by
 induction d with
 | zero => exact Rdr.get_zero ok
 | succ d ih =>
  intro deep t s w hd hlo hhi hR hroom
  have hd0 : 0 < deep := by omega
  by_cases hsc : isSc t = true
  ·have e : gt r.pr (d + 1) t s = (r.pr.scK t s, r.pr.scS t s, .mk t (r.pr.scN t s) (r.pr.scB t s) 0 0 [] []) := by simp only [gt]; rw [if_pos hsc]
   rw [e]
   exact (Rdr.get_scalar ok deep t hd0 hsc hR).mono (fun e w' q => q.leaf)
  ·by_cases h12 : t = 12
   ·subst h12
    have e : gt r.pr (d + 1) 12 s = gflds r.pr (gt r.pr d) (r.pr.len (r.pr.sbS s) + 1) (r.pr.sbS s) [] [] := by simp [gt, isSc]
    rw [e]
    exact Rdr.get12 ok d ih deep hd hd0 hhi hR hroom
   ·by_cases h13 : t = 13
    ·subst h13; exact Rdr.get13 ok d ih deep hd hd0 hhi hR hroom
    ·by_cases h14 : t = 14
     ·subst h14; exact Rdr.get14 ok d ih deep hd hd0 hhi hR hroom
     ·by_cases h15 : t = 15
      ·subst h15; exact Rdr.get15 ok d ih deep hd hd0 hhi hR hroom
      ·have e : gt r.pr (d + 1) t s = (51, s, V.zero) := by
        simp only [gt]; rw [if_neg hsc, if_neg h12, if_neg h13, if_neg (by omega)]
       rw [e]
       exact Rdr.get_other ok d deep t hd0 hR (by simpa using hsc) h12 h13 h14 h15
section
variable {R TB DT : Nat} {c : Cfg} {n : Int} {s s2 s' : Cmp.St} {fv : Value} {v v2 : Int} {w w1 w' : World}
set_option maxRecDepth 100000 in
theorem c_msg (h : RdC R TB DT c n s fv v w) :
  Calls Tryz.prog 100 #[.pointer (some ⟨R, 0, none⟩)] w (GC R TB DT c n s fv w (cmK c s) (cmS s) (cmT s) 0 0 0 (cmN s) (cmB s)) := by
 obtain ⟨rem, last, outer, pend, val⟩ := s
 have hk0 : Keep (fun _ => False) w (w.alloc (.cells zGot 107)) := (Keep.refl _ w).alloc _
 have hU0 := heap_alloc_new w (.cells zGot 107)
 have hTU := h.ltT
 have hRU := h.ltR
 have HH := hdd h
 go_enter Tryz.func100, Tryz.ntmps100
 go_wp2_with fail
 have hsA : (w.alloc (.cells zGot 107)).heap.size = w.heap.size + 1 := by simp
 generalize w.alloc (.cells zGot 107) = wA at *
 obtain ⟨U, hU⟩ : ∃ U, w.heap.size = U := ⟨_, rfl⟩
 rw [hU] at hU0 hTU hRU hsA ⊢
 have HUS := hdd hU
 clear hU
 have hA := h.fresh hk0
 refine (rd_byte hA.p).mono ?_
 rintro e w1 ⟨b0, x, rfl, hx, hp1, hk1, hb⟩
 have hs1 : U + 1 ≤ w1.heap.size := by have := hk1.size; omega
 have HU := hdd ((hk1.block U (lt_of_heap hU0) (by omega)).trans hU0)
 have HK := hdd ((hk0.weak (fun _ _ x => x.elim) : Keep (RT R TB) w wA).then (hk1.weak (fun _ _ x => .inr x)))
 have H1 := hdd (hA.took hp1 hk1)
 obtain ⟨u0, u1, u2, u3, u4, u5, u6⟩ := got_cells HU.out
 obtain ⟨f0, f1, f2, f3, f4, f5, f6⟩ := got_free HU.out
 clear hU0 hp1 hk1
 cases rem with
 | nil =>
  have hx1 : x = -1 := by rcases hx with ⟨hx, _⟩ | ⟨_, hx⟩; exact hx; exact absurd rfl hx
  subst hx1
  clear hx hb
  go_wp2_with fail
  exact gc_ret (U := U) Tryz.results100 rfl rfl (Nat.le_of_eq HUS.out) HH.out H1.out HK.out HU.out ⟨_, _, _, rfl⟩ (.inr (.inl ⟨rfl, by simp [cmK], cmK_lt _ _⟩)) (fun hz => by cases hz)
 | cons b r =>
  have hx1 : x = 0 := by rcases hx with ⟨_, hx⟩ | ⟨hx, _⟩; cases hx; exact hx
  subst hx1
  have hb0 := hb b r rfl
  subst hb0
  have hb8 := b.toNat_lt
  clear hx hb
  by_cases hid : b.toNat = 130
  ·have hidi : (b.toNat : Int) = 130 := by omega
   rw [hidi]
   go_wp2_with fail
   refine (rd_byte H1.out.p).mono ?_
   rintro e w2 ⟨b0, x, rfl, hx, hp2, hk2, hb⟩
   have hs2 : U + 1 ≤ w2.heap.size := by have := hk2.size; omega
   have HU2 := hdd ((hk2.block U (lt_of_heap HU.out) (by omega)).trans HU.out)
   have HK2 := hdd (HK.out.then (hk2.weak (fun _ _ x => .inr x)))
   have H2 := hdd (H1.out.took hp2 hk2)
   clear u0 u1 u2 u3 u4 u5 u6 f0 f1 f2 f3 f4 f5 f6 hp2 hk2
   obtain ⟨u0, u1, u2, u3, u4, u5, u6⟩ := got_cells HU2.out
   obtain ⟨f0, f1, f2, f3, f4, f5, f6⟩ := got_free HU2.out
   cases r with
   | nil =>
    have hx1 : x = -1 := by rcases hx with ⟨hx, _⟩ | ⟨_, hx⟩; exact hx; exact absurd rfl hx
    subst hx1
    have HKK : Hid (cmK c ⟨[b], last, outer, pend, val⟩ = 1) := hdd (by simp only [cmK]; rw [if_pos hid])
    clear hx hb
    go_wp2_with fail
    exact gc_ret (U := U) Tryz.results100 rfl rfl (Nat.le_of_eq HUS.out) HH.out H2.out HK2.out HU2.out ⟨_, _, _, rfl⟩ (.inr (.inl ⟨rfl, by rw [HKK.out]; decide, cmK_lt _ _⟩)) (fun hz => by cases hz)
   | cons b1 r1 =>
    have hx1 : x = 0 := by rcases hx with ⟨_, hx⟩ | ⟨hx, _⟩; cases hx; exact hx
    subst hx1
    have hb0 := hb b1 r1 rfl
    subst hb0
    have h31 := u8_and31 b1
    have hb18 := b1.toNat_lt
    clear hx hb
    by_cases hver : b1.toNat % 32 = 1
    ·have hveri : ((b1.toNat % 32 : Nat) : Int) = 1 := by omega
     rw [hveri] at h31
     have HKA : Hid (cmK c ⟨b :: b1 :: r1, last, outer, pend, val⟩ = if vK r1 = 0 then cstrK (vR r1) c else pk (vK r1)) := hdd (by simp only [cmK]; rw [if_pos hid, if_pos hver])
     go_wp2_with fail
     refine (rd_varint H2.out.p 32 (.inl rfl)).mono ?_
     rintro e w3 ⟨N, x, r', rfl, hp3, hl3, hk3, hx, hN⟩
     have hs3 : U + 1 ≤ w3.heap.size := by have := hk3.size; omega
     have HU3 := hdd ((hk3.block U (lt_of_heap HU2.out) (by omega)).trans HU2.out)
     have HK3 := hdd (HK2.out.then (hk3.weak (fun _ _ x => .inr x)))
     have H3 := hdd (H2.out.took hp3 hk3)
     clear u0 u1 u2 u3 u4 u5 u6 f0 f1 f2 f3 f4 f5 f6 hp3 hk3
     obtain ⟨u0, u1, u2, u3, u4, u5, u6⟩ := got_cells HU3.out
     obtain ⟨f0, f1, f2, f3, f4, f5, f6⟩ := got_free HU3.out
     rcases hx with ⟨rfl, rfl⟩ | ⟨rfl, rfl, hvv⟩ | ⟨rfl, hvv, hnn, hr⟩
     ·go_wp2_with fail
      exact gc_ret (U := U) Tryz.results100 rfl rfl (Nat.le_of_eq HUS.out) HH.out H3.out HK3.out HU3.out ⟨_, _, _, rfl⟩ (.inl rfl) (fun hz => by cases hz)
     ·have HV : Hid (¬ vK r1 = 0) := hdd hvv
      clear hvv
      go_wp2_with fail
      exact gc_ret (U := U) Tryz.results100 rfl rfl (Nat.le_of_eq HUS.out) HH.out H3.out HK3.out HU3.out ⟨_, _, _, rfl⟩ (.inr (.inl ⟨rfl, by rw [HKA.out, if_neg HV.out]; exact pk_ne HV.out, cmK_lt _ _⟩)) (fun hz => by cases hz)
     ·have HV : Hid (vK r1 = 0) := hdd hvv
      have HKB : Hid (cmK c ⟨b :: b1 :: r1, last, outer, pend, val⟩ = cstrK (vR r1) c) := hdd (HKA.out.trans (if_pos hvv))
      have hr2 : r' = vR r1 := hr
      subst hr2
      have HNN : Hid (N = vN r1) := hdd hnn
      have hN2 : N < 4294967296 := by simpa using hN
      clear hvv hnn hr hN
      go_wp2_with fail
      refine (rd_text H3.out.p).mono ?_
      rintro e w4 ⟨S, x, r', rfl, hx, hp4, hl4, hr, hk4, hb, Sa, Sm, Sc, rfl⟩
      have HU4 := hdd ((hk4.block U (lt_of_heap HU3.out) (by omega)).trans HU3.out)
      have HK4 := hdd (HK3.out.then (hk4.weak (fun _ _ x => .inr x)))
      have H4 := hdd (H3.out.took hp4 hk4)
      have HX := hdd hx
      have HR := hdd hr
      have HB := hdd hb
      clear u0 u1 u2 u3 u4 u5 u6 f0 f1 f2 f3 f4 f5 f6 hp4 hk4 hx hr hb
      obtain ⟨u0, u1, u2, u3, u4, u5, u6⟩ := got_cells HU4.out
      obtain ⟨f0, f1, f2, f3, f4, f5, f6⟩ := got_free HU4.out
      by_cases hx0 : x = 0
      ·subst hx0
       have HSH : Hid (IntKind.i32.wrap (N : Int) = v32 r1) := hdd (by rw [i32_w32, HNN.out, v32_eq])
       obtain ⟨sq, hsq⟩ : ∃ sq, IntKind.i32.wrap (N : Int) = sq := ⟨_, rfl⟩
       have hsb := v32_bd r1
       rw [← HSH.out, hsq] at hsb
       obtain ⟨hsb1, hsb2⟩ := hsb
       go_wp2_with fail
       refine gc_ret (U := U) Tryz.results100 rfl rfl (Nat.le_of_eq HUS.out) HH.out H4.out HK4.out HU4.out ⟨_, _, _, rfl⟩ (by rw [HKB.out]; exact HX.out) (fun _ => ⟨?_, rfl, rfl, rfl, rfl, hsq.symm.trans HSH.out, ?_⟩)
       ·rw [HR.out (by trivial)]
        rfl
       ·exact (HB.out (by trivial)).weak (fun i _ hi => by omega)
      ·have hxb : (x == 0) = false := by simpa using hx0
       have HX0 := hdd hx0
       go_wp2_with fail
       exact gc_ret (U := U) Tryz.results100 rfl rfl (Nat.le_of_eq HUS.out) HH.out H4.out HK4.out HU4.out ⟨_, _, _, rfl⟩ (by rw [HKB.out]; exact HX.out) (fun hz => absurd hz HX0.out)
    ·have hveri : ¬ ((b1.toNat % 32 : Nat) : Int) = 1 := by omega
     have HKA : Hid (cmK c ⟨b :: b1 :: r1, last, outer, pend, val⟩ = 14) := hdd (by simp only [cmK]; rw [if_pos hid, if_neg hver])
     obtain ⟨m, hm⟩ : ∃ m : Int, ((b1.toNat % 32 : Nat) : Int) = m := ⟨_, rfl⟩
     rw [hm] at h31 hveri
     clear hm hver
     go_wp2_with fail
     exact gc_ret (U := U) Tryz.results100 rfl rfl (Nat.le_of_eq HUS.out) HH.out H2.out HK2.out HU2.out ⟨_, _, _, rfl⟩ (.inr (.inl ⟨rfl, by rw [HKA.out]; decide, cmK_lt _ _⟩)) (fun hz => by cases hz)
  ·have hidi : ¬ (b.toNat : Int) = 130 := by omega
   have HKA : Hid (cmK c ⟨b :: r, last, outer, pend, val⟩ = 14) := hdd (by simp only [cmK]; rw [if_neg hid])
   clear hid
   go_wp2_with fail
   exact gc_ret (U := U) Tryz.results100 rfl rfl (Nat.le_of_eq HUS.out) HH.out H1.out HK.out HU.out ⟨_, _, _, rfl⟩ (.inr (.inl ⟨rfl, by rw [HKA.out]; decide, cmK_lt _ _⟩)) (fun hz => by cases hz)
set_option maxRecDepth 100000 in
theorem c_d0_false (hp : s.pend = false) (h : RdC R TB DT c n s fv v w) :
  Calls Tryz.prog 88 #[.pointer (some ⟨R, 0, none⟩), .agg (stepA 0)] w (GC R TB DT c n s fv w (cmK c s) (cmS s) (cmT s) 0 0 0 (cmN s) (cmB s)) := by
 have hTU := h.ltT
 have hRU := h.ltR
 have HH := hdd h
 obtain ⟨c9, c10, c11, c12⟩ := h.ccells
 rw [hp] at c11
 have hk0 : Keep (fun _ => False) w ((w.alloc (.cells (stepA 0) 173)).alloc (.cells zGot 107)) := ((Keep.refl _ w).alloc _).alloc _
 have hU0 := heap_alloc_new (w.alloc (.cells (stepA 0) 173)) (.cells zGot 107)
 go_enter Tryz.func88, Tryz.ntmps88
 go_wp2_with fail
 obtain ⟨U, hU⟩ : ∃ U, w.heap.size + 1 = U := ⟨_, rfl⟩
 have hsA : ((w.alloc (.cells (stepA 0) 173)).alloc (.cells zGot 107)).heap.size = U + 1 := by simp [← hU]
 rw [show (w.alloc (.cells (stepA 0) 173)).heap.size = U by simp [← hU]] at hU0
 generalize (w.alloc (.cells (stepA 0) 173)).alloc (.cells zGot 107) = wA at *
 rw [hU]
 have HUS := hdd hU
 clear hU
 have hA := h.fresh hk0
 refine (c_msg hA).mono ?_
 rintro e w1 ⟨x, t, kt, size, id, N', S', rfl, ⟨Sa, Sm, Sc, rfl⟩, hx, h1, hk1, hv⟩
 have HU := hdd ((hk1.block U (lt_of_heap hU0) (by have := HUS.out; rintro (e | e) <;> omega)).trans hU0)
 have HK := hdd hk1
 have H1 := hdd h1
 have HX := hdd hx
 have HV := hdd hv
 have HK0 := hdd hk0
 obtain ⟨u0, u1, u2, u3, u4, u5, u6⟩ := got_cells HU.out
 obtain ⟨f0, f1, f2, f3, f4, f5, f6⟩ := got_free HU.out
 clear hx hv hU0 h1 hk1 hk0
 go_wp2_with fail
 exact gc_thru (U := U) Tryz.results88 rfl rfl (by have := HUS.out; omega) hsA HH.out HK0.out HU.out ⟨_, _, _, rfl⟩ HX.out H1.out HK.out HV.out
set_option maxRecDepth 100000 in
theorem c_d1_false (hp : s.pend = false) (h : RdC R TB DT c n s fv v w) :
  Calls Tryz.prog 88 #[.pointer (some ⟨R, 0, none⟩), .agg (stepA 1)] w (GC R TB DT c n s fv w 0 s 0 0 0 0 0 []) := by
 have hTU := h.ltT
 have hRU := h.ltR
 have HH := hdd h
 obtain ⟨c9, c10, c11, c12⟩ := h.ccells
 rw [hp] at c11
 go_enter Tryz.func88, Tryz.ntmps88
 go_wp2_with fail
 exact gc_ret_new (U := w.heap.size + 1) Tryz.results88 rfl rfl (by simp) HH.out (HH.out.fresh ((Keep.refl _ w).alloc _)) ((Keep.refl _ w).alloc _) ⟨_, _, _, rfl⟩ (.inr (.inr rfl)) (fun _ => ⟨rfl, rfl, rfl, rfl, rfl, rfl, fun w2 => BytesAt.nil _ w2⟩)
end
end Go.Proofs.YthehmlbolajljaaGreatDoor
