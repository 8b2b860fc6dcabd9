/- Part 31 of the proof: Rg1, Rg2, Rg3, Rg4. -/
import Derived.Test.YthehmlbolajljaaGreatDoorQ30
import Derived.Test.YthehmlbolajljaaGreatDoorQ20
import Derived.Deep.RegionWith
import Derived.Deep.Cut
import Derived.Deep.CutBlock
import Derived.Deep.LoopGhost
set_option linter.unusedVariables false
set_option linter.unusedSimpArgs false
set_option linter.unusedSectionVars false
set_option maxHeartbeats 16000000
namespace Go.Proofs.YthehmlbolajljaaGreatDoor
open Go Go.RowKit
section
variable {σ : Type} {r : Rdr σ} {s : σ} {w : World}
abbrev sVal : Array Value := valC 0 0 nilB 0 0 (.slice none 0 0) (.slice none 0 0)
theorem sval_set {w : World} {U : Nat} {v0 v1 v2 v3 v4 v5 v6 : Value} {T : TypeId} (h : w.heap[U]? = some (.cells #[v0, v1, v2, v3, v4, v5, v6] T (0, 0))) (x0 x1 x2 x3 x4 x5 x6 : Value) :
  (((((((w.setCell ⟨U, 0, none⟩ x0).setCell ⟨U, 1, none⟩ x1).setCell ⟨U, 2, none⟩ x2).setCell ⟨U, 3, none⟩ x3).setCell ⟨U, 4, none⟩ x4).setCell ⟨U, 5, none⟩ x5).setCell ⟨U, 6, none⟩ x6).heap[U]? = some (.cells #[x0, x1, x2, x3, x4, x5, x6] T (0, 0)) := by
 have h0 := heap_set_same (i := 0) h x0
 have h1 := heap_set_same (i := 1) h0 x1
 have h2 := heap_set_same (i := 2) h1 x2
 have h3 := heap_set_same (i := 3) h2 x3
 have h4 := heap_set_same (i := 4) h3 x4
 have h5 := heap_set_same (i := 5) h4 x5
 have h6 := heap_set_same (i := 6) h5 x6
 simpa using h6
theorem sval_keep {M : Nat → Prop} {a w : World} {R : Nat} (h : Keep M a w) (hR : R < a.heap.size → M R) (x0 x1 x2 x3 x4 x5 x6 : Value) :
  Keep M a (((((((w.setCell ⟨R, 0, none⟩ x0).setCell ⟨R, 1, none⟩ x1).setCell ⟨R, 2, none⟩ x2).setCell ⟨R, 3, none⟩ x3).setCell ⟨R, 4, none⟩ x4).setCell ⟨R, 5, none⟩ x5).setCell ⟨R, 6, none⟩ x6) :=
 ((((((h.set R 0 hR x0).set R 1 hR x1).set R 2 hR x2).set R 3 hR x3).set R 4 hR x4).set R 5 hR x5).set R 6 hR x6
set_option maxRecDepth 100000 in
theorem Rdr.get_zero (ok : r.Ok) : r.Gets 0 := by
 intro deep t s w hd hlo hhi hR _
 have hle : deep ≤ 0 := by omega
 go_enter Tryz.func64, Tryz.ntmps64
 go_wp2_with fail
 refine ret_cell2 (U := w.heap.size) (T := 34) Tryz.results64 rfl rfl rfl (heap_alloc_new w _) Tryz.underlying34 sval_size ?_
 have hk : Keep (fun _ => False) w (w.alloc (.cells sVal 34 (0, 0))) := (Keep.refl _ w).alloc _
 exact ⟨0, 0, none, 0, 0, 0, 0, none, 0, 0, none, 0, 0, 50, rfl, .inr (.inr rfl), ⟨_, ok.fresh hR hk, fun hh => by cases hh⟩, ok.kept hR hk, fun hh => by cases hh⟩
set_option maxRecDepth 100000 in
theorem Rdr.get_scalar (ok : r.Ok) (deep t : Int) (hd : 0 < deep) (ht : isSc t = true) (hR : r.Inv s w) :
  Calls Tryz.prog 64 #[.pointer (some ⟨r.R, 0, none⟩), .int .i64 t, .int .i64 deep] w (r.GetP 1 w (r.pr.scK t s, r.pr.scS t s, .mk t (r.pr.scN t s) (r.pr.scB t s) 0 0 [] [])) := by
 obtain ⟨_, ho1, ho2⟩ : isSc t = true ∧ 13 ≤ opOf t ∧ opOf t ≤ 21 := by
  rcases opOf_sc t with h | h
  ·exact h
  ·rw [ht] at h; exact absurd h.1 (by decide)
 have hstep : ∀ W, r.Inv s W → Calls _ _ _ W _ := fun W hW => ok.sc t ht hW
 obtain ⟨o, ho⟩ : ∃ o, opOf t = o := ⟨_, rfl⟩
 rw [ho] at hstep ho1 ho2
 have HO := hdd ho
 have HST := hdd hstep
 clear ho hstep
 have hk0 : Keep (fun _ => False) w ((w.alloc (.cells sVal 34 (0, 0))).alloc (.cells (valC t 0 nilB 0 0 (.slice none 0 0) (.slice none 0 0)) 34 (0, 0))) := ((Keep.refl _ w).alloc _).alloc _
 have hR0 : ((w.alloc (.cells sVal 34 (0, 0))).alloc (.cells (valC t 0 nilB 0 0 (.slice none 0 0) (.slice none 0 0)) 34 (0, 0))).heap[w.heap.size]? = some (.cells sVal 34 (0, 0)) := (Below.heap_alloc _ _ _ (by simp)).trans (heap_alloc_new w _)
 have hU0 : ((w.alloc (.cells sVal 34 (0, 0))).alloc (.cells (valC t 0 nilB 0 0 (.slice none 0 0) (.slice none 0 0)) 34 (0, 0))).heap[w.heap.size + 1]? = some (.cells (valC t 0 nilB 0 0 (.slice none 0 0) (.slice none 0 0)) 34 (0, 0)) := heap_alloc_at (by simp) _
 have hs0 : ((w.alloc (.cells sVal 34 (0, 0))).alloc (.cells (valC t 0 nilB 0 0 (.slice none 0 0) (.slice none 0 0)) 34 (0, 0))).heap.size = w.heap.size + 2 := by simp
 go_enter Tryz.func64, Tryz.ntmps64
 go_wp2_with fail
 refine (spec_op t _).mono ?_
 rintro e w1 ⟨rfl, hw1⟩
 rw [HO.out]
 rw [hw1] at hk0 hR0 hU0 hs0
 clear hw1
 obtain ⟨n0, hn⟩ : ∃ n0, w.heap.size = n0 := ⟨_, rfl⟩
 rw [hn] at hU0 hR0 hs0
 have HN := hdd hn
 have HU0 := hdd hU0
 have HR0 := hdd hR0
 have HS0 := hdd hs0
 clear hU0 hR0 hs0
 go_wp2_with fail
 clear hn
 refine (HST.out w1 (ok.fresh hR hk0)).mono ?_
 rintro e w2 ⟨x, t', kt, size, idn, N', S', rfl, ⟨a, m, cc, rfl⟩, hx, ⟨s2, h2, hr2⟩, hk, hv⟩
 have hn0 := HN.out
 have hs1 := HS0.out
 have hmn := ok.new hR hk0
 have hU2 := (hk.block (n0 + 1) (by omega) (hmn _ (by omega))).trans HU0.out
 have hR2 := (hk.block n0 (by omega) (hmn _ (by omega))).trans HR0.out
 have hnU := hk.not (i := n0 + 1) (by omega) (hmn _ (by omega))
 have hnR := hk.not (i := n0) (by omega) (hmn _ (by omega))
 have HK := hdd hk
 have HX := hdd hx
 have HV := hdd hv
 have H2 := hdd hr2
 have HNU := hdd (And.intro hnU hnR)
 have HU2 := hdd hU2
 have HR2 := hdd hR2
 clear hk hx hv hr2 hnU hnR hmn hU2 hR2 hn0 hs1
 go_wp2_with fail
 have hk3 : Keep (fun _ => False) w2 (w2.alloc (.cells (gotA x t' kt size idn N' (.slice a m cc)) 107 (0, 0))) := (Keep.refl _ w2).alloc _
 have hG3 := heap_alloc_new w2 (.cells (gotA x t' kt size idn N' (.slice a m cc)) 107 (0, 0))
 obtain ⟨G, hG⟩ : ∃ G, w2.heap.size = G := ⟨_, rfl⟩
 rw [hG] at hG3 ⊢
 generalize w2.alloc (.cells (gotA x t' kt size idn N' (.slice a m cc)) 107 (0, 0)) = w3 at *
 have hU3 := (hk3.block (n0 + 1) (lt_of_heap HU2.out) id).trans HU2.out
 have hR3 := (hk3.block n0 (lt_of_heap HR2.out) id).trans HR2.out
 have hltU := lt_of_heap HU2.out
 have hltR := lt_of_heap HR2.out
 have HK3 := hdd hk3
 have HG3 := hdd hG3
 have HU3 := hdd hU3
 have HR3 := hdd hR3
 have HGS := hdd hG
 obtain ⟨u0, u1, u2, u3, u4, u5, u6⟩ := got_cells hG3
 obtain ⟨x0, x1, x2, x3, x4, x5, x6⟩ := got_cells hU3
 obtain ⟨y0, y1, y2, y3, y4, y5, y6⟩ := got_free hU3
 have hne1 : ¬ n0 + 1 = G := by omega
 have hne2 : ¬ G = n0 + 1 := by omega
 have hne3 : ¬ n0 = G := by omega
 have hne4 : ¬ G = n0 := by omega
 clear hk3 hG3 hU3 hR3 hG
 go_cut [] from 24 to 29 (fun wx => wx.heap[n0 + 1]? = some (.cells (valC t N' (.slice a m cc) 0 0 (.slice none 0 0) (.slice none 0 0)) 34 (0, 0)) ∧ Keep (fun i => n0 + 1 = i) w3 wx)
 case first =>
  go_region
  all_goals
   go_wp2_with fail
   go_simp
   go_meet
   refine ⟨?_, ?_⟩
   ·first
    | (have q := heap_set_same (i := 2) (heap_set_same (i := 1) HU3.out (.int .i64 N')) (.slice a m cc); simp at q; exact q)
    | (have q := heap_set_same (i := 1) (heap_set_same (i := 2) HU3.out (.slice a m cc)) (.int .i64 N'); simp at q; exact q)
   ·first
    | exact (((Keep.refl _ w3).drew.set (n0 + 1) 1 (fun _ => rfl) (.int .i64 N')).set (n0 + 1) 2 (fun _ => rfl) (.slice a m cc))
    | exact (((Keep.refl _ w3).drew.set (n0 + 1) 2 (fun _ => rfl) (.slice a m cc)).set (n0 + 1) 1 (fun _ => rfl) (.int .i64 N'))
    | exact (((Keep.refl _ w3).set (n0 + 1) 1 (fun _ => rfl) (.int .i64 N')).set (n0 + 1) 2 (fun _ => rfl) (.slice a m cc)).drew
    | exact (((Keep.refl _ w3).set (n0 + 1) 2 (fun _ => rfl) (.slice a m cc)).set (n0 + 1) 1 (fun _ => rfl) (.int .i64 N')).drew
 case rest =>
 obtain ⟨hU4, hk4⟩ := hcut
 have hG4 := (hk4.block G (lt_of_heap HG3.out) (by omega)).trans HG3.out
 have hR4 := (hk4.block n0 (lt_of_heap HR3.out) (by omega)).trans HR3.out
 have HU4 := hdd hU4
 have HK4 := hdd hk4
 have HR4 := hdd hR4
 clear u0 u1 u2 u3 u4 u5 u6 x0 x1 x2 x3 x4 x5 x6 y0 y1 y2 y3 y4 y5 y6
 obtain ⟨u0, u1, u2, u3, u4, u5, u6⟩ := got_cells hG4
 obtain ⟨x0, x1, x2, x3, x4, x5, x6⟩ := got_cells hU4
 obtain ⟨r0, r1, r2, r3, r4, r5, r6⟩ := got_cells hR4
 obtain ⟨z0, z1, z2, z3, z4, z5, z6⟩ := got_free hR4
 clear hU4 hk4 hG4 hR4
 go_wp2_with fail
 go_region
 all_goals
  go_wp2_with fail
  have hk9 : Keep (fun i => n0 = i ∨ n0 + 1 = i) w2 (((((((wc.setCell ⟨n0, 0, none⟩ (.int .i64 t)).setCell ⟨n0, 1, none⟩ (.int .i64 N')).setCell ⟨n0, 2, none⟩ (.slice a m cc)).setCell ⟨n0, 3, none⟩ (.int .i64 0)).setCell ⟨n0, 4, none⟩ (.int .i64 0)).setCell ⟨n0, 5, none⟩ (.slice none 0 0)).setCell ⟨n0, 6, none⟩ (.slice none 0 0)) := sval_keep (((HK3.out.weak (fun _ _ e => e.elim)).then (HK4.out.weak (fun _ _ e => .inr e)))) (fun _ => .inl rfl) _ _ _ _ _ _ _
  have hR9 := sval_set HR4.out (.int .i64 t) (.int .i64 N') (.slice a m cc) (.int .i64 0) (.int .i64 0) (.slice none 0 0) (.slice none 0 0)
  generalize ((((((wc.setCell ⟨n0, 0, none⟩ (.int .i64 t)).setCell ⟨n0, 1, none⟩ (.int .i64 N')).setCell ⟨n0, 2, none⟩ (.slice a m cc)).setCell ⟨n0, 3, none⟩ (.int .i64 0)).setCell ⟨n0, 4, none⟩ (.int .i64 0)).setCell ⟨n0, 5, none⟩ (.slice none 0 0)).setCell ⟨n0, 6, none⟩ (.slice none 0 0) = w9 at *
  have hR10 : w9.drew.heap[n0]? = some (.cells (valC t N' (.slice a m cc) 0 0 (.slice none 0 0) (.slice none 0 0)) 34 (0, 0)) := hR9
  have hk10 := hk9.drew
  refine ret_cell2 (U := n0) (T := 34) Tryz.results64 rfl rfl rfl hR10 Tryz.underlying34 sval_size ?_
  have hn0 := HN.out
  have hs1 := HS0.out
  obtain ⟨j1, j2⟩ := ok.turn h2 hk10 (fun i e => by rcases e with rfl | rfl; exact HNU.out.2; exact HNU.out.1)
  refine ⟨t, N', a, m, cc, 0, 0, none, 0, 0, none, 0, 0, x, rfl, HX.out, ⟨s2, j1, H2.out⟩, Kpt.turned ((ok.kept hR hk0).then HK.out) hk10 (fun i e => by omega) j2, fun hz => ?_⟩
  obtain ⟨_, _, _, _, v5, v6⟩ := HV.out hz
  subst v5
  exact ⟨_, _, _, rfl, (v6.keep hk10 (fun i hi e => by have := hi.1; omega)).weak (fun i _ hi => ⟨by have := hi.1; omega, fun q => hi.2 (j2 i q)⟩), .inl ⟨rfl, _, _, rfl⟩, .inl ⟨rfl, _, _, rfl⟩⟩
end
def Rdr.GRel {σ : Type} (r : Rdr σ) (w : World) (U : Nat) (S : List (Nat × Array Value × TypeId)) (d : Nat) (T KT E : Int) (f : σ → List V → Nat → Int × σ × List V) (n m : Int) (tot : Int × σ × List V) (k : Nat) (v : Value) (wr : World) : Prop :=
 ∃ i s1 vs lv rows, v = .int .i64 i ∧ 0 ≤ i ∧ k = (n - i).toNat ∧ (vs.length : Int) ≤ m * i ∧ r.Inv s1 wr ∧ r.Frame w U S d T KT E [] vs (.slice none 0 0) lv rows wr ∧ f s1 vs k = tot ∧ r.pr.Room s1
theorem rnew_cells (w : World) (cs : Array Value) (T : TypeId) : ∀ j u, cs.toList[j]? = some u → (w.alloc (.cells cs T)).cell? ((⟨w.heap.size, 0, none⟩ : Addr).add j) = some u := by
 intro j u hj
 rw [Addr.add_lit, Nat.zero_add, cellAt (heap_alloc_new w _)]
 simpa using hj
theorem rown_shape {w : World} {B n size : Nat} {e : TypeId} {v : Value} {xs : List Value} (h : w.ownsRow B e size v n xs) : ∃ a m c, v = .slice a m c := by
 rcases h.2 with ⟨rfl, _⟩ | ⟨g, cap, cur, rfl, _⟩
 ·exact ⟨_, _, _, rfl⟩
 ·exact ⟨_, _, _, rfl⟩
theorem rList_named {P : Program} {w : World} {ops : Array Oper} {rest : List Oper} {o : Oper} {a : Act} {Q : Exit → Act → World → Prop} (t : Nat) (_ : o.dst = some t) (h : ∀ W, w = W → wpList P ops Q (o :: rest) a W) : wpList P ops Q (o :: rest) a w := h w rfl
theorem rgseq_ok {σ : Type} {f : σ → Int × σ × V} {n : Nat} {s : σ} {l : List V} (h : (f s).1 = 0) : gseq f (n + 1) s l = gseq f n (f s).2.1 (l ++ [(f s).2.2]) := by show (if _ then _ else _) = _; rw [if_pos h]
theorem rgseq_bad {σ : Type} {f : σ → Int × σ × V} {n : Nat} {s : σ} {l : List V} (h : ¬ (f s).1 = 0) : gseq f (n + 1) s l = ((f s).1, (f s).2.1, l) := by show (if _ then _ else _) = _; rw [if_neg h]
theorem rgend_ok {σ : Type} {g : σ → σ} {mk : List V → V} {q : Int × σ × List V} (h : q.1 = 0) : gend g mk q = (0, g q.2.1, mk q.2.2) := by show (if _ then _ else _) = _; rw [if_pos h]
theorem rgend_bad {σ : Type} {g : σ → σ} {mk : List V → V} {q : Int × σ × List V} (h : ¬ q.1 = 0) : gend g mk q = (q.1, q.2.1, V.zero) := by show (if _ then _ else _) = _; rw [if_neg h]
section
variable {σ : Type} {r : Rdr σ} {s : σ} {w : World}
set_option maxRecDepth 100000 in
theorem Rdr.get_list (ok : r.Ok) (d : Nat) (ih : r.Gets d) (deep : Int) (hdq : deep.toNat = d + 1) (hd : 0 < deep) (hhi : deep ≤ 9223372036854775807) (hR : r.Inv s w) (hroom : r.pr.Room s) :
  Calls Tryz.prog 92 #[.pointer (some ⟨r.R, 0, none⟩), .int .i64 15, .int .i64 deep] w (r.GetP (d + 1) w (gt r.pr (d + 1) 15 s)) := by
 obtain ⟨res, hres⟩ : ∃ res, gt r.pr (d + 1) 15 s = res := ⟨_, rfl⟩
 rw [hres]
 have HRES := hdd hres
 have HRM := hdd hroom
 have hd1 : (deep - 1).toNat = d := by omega
 have HD := hdd hd1
 have HDD := hdd hdq
 clear hres hroom hd1 hdq
 have hk0 : Keep (fun _ => False) w (w.alloc (.cells sVal 34 (0, 0))) := (Keep.refl _ w).alloc _
 have hR0 := heap_alloc_new w (.cells sVal 34 (0, 0))
 have hs0 : (w.alloc (.cells sVal 34 (0, 0))).heap.size = w.heap.size + 1 := by simp
 have HST := hdd (fun W (hW : r.Inv s W) => (ok.l hW : Calls _ _ _ W _))
 go_enter Tryz.func92, Tryz.ntmps92
 go_wp2_with fail
 obtain ⟨n0, hn⟩ : ∃ n0, w.heap.size = n0 := ⟨_, rfl⟩
 rw [hn] at hR0 hs0 ⊢
 generalize w.alloc (.cells sVal 34 (0, 0)) = w1 at *
 have HN := hdd hn
 have HR0 := hdd hR0
 have HS0 := hdd hs0
 clear hn hR0 hs0
 refine (spec_many 15 w1).mono ?_
 rintro e w' ⟨rfl, rfl⟩
 rw [show manyOf 15 = 9 by decide]
 go_wp2_with fail
 refine (HST.out w1 (ok.fresh hR hk0)).mono ?_
 rintro e w2 ⟨x, t, kt, n, idn, N', S', rfl, ⟨a, m, cc, rfl⟩, hx, ⟨s2, h2, hr2⟩, hk, hv⟩
 have hmn := ok.new hR hk0
 have hs1 := HS0.out
 have hN := HN.out
 have hR2 := (hk.block n0 (by omega) (hmn _ (by omega))).trans HR0.out
 have hnR := hk.not (i := n0) (by omega) (hmn _ (by omega))
 have HK := hdd hk
 have HX := hdd hx
 have HNR := hdd hnR
 have HR2 := hdd hR2
 clear hk hx hmn hs1 hN hR2 hnR
 by_cases hz : x = 0
 ·subst hz
  have hK : r.pr.lK s = 0 := Sk.zero HX.out
  obtain ⟨ht, _, hn, _⟩ := hv rfl
  obtain rfl := hr2 rfl
  have HZ := hdd hK
  have HTT := hdd ht
  have HNN := hdd hn
  clear hv hr2 ht hn hK
  by_cases hbig : 100000 < n
  ·have e0 : res = (52, r.pr.lS s, V.zero) := by
    rw [← HRES.out]
    have hb2 : r.pr.lN s > 100000 := by rw [← HNN.out]; omega
    simp [gt, isSc, HZ.out, hb2]
   have E0 := hdd e0
   clear e0
   have hltR := lt_of_heap HR2.out
   go_wp2_with (with_reducible refine rList_named 29 rfl ?_)
   intro w3 hw3
   have hk3 : Keep (fun _ => False) w2 w3 := by rw [← hw3]; exact (Keep.refl _ w2).alloc _
   have hR3 := (hk3.block n0 hltR (fun x => x)).trans HR2.out
   clear hw3
   have HK3 := hdd hk3
   have HR3 := hdd hR3
   obtain ⟨r0, r1, r2, r3, r4, r5, r6⟩ := got_cells hR3
   obtain ⟨z0, z1, z2, z3, z4, z5, z6⟩ := got_free hR3
   clear hk3 hR3
   go_wp2_with fail
   have hk9 := sval_keep (M := fun i => n0 = i) (HK3.out.weak (fun _ _ e => e.elim)) (R := n0) (fun _ => rfl) (.int .i64 0) (.int .i64 0) (.slice none 0 0) (.int .i64 0) (.int .i64 0) (.slice none 0 0) (.slice none 0 0)
   refine ret_cell2 (U := n0) (T := 34) Tryz.results92 rfl rfl rfl (sval_set HR3.out (.int .i64 0) (.int .i64 0) (.slice none 0 0) (.int .i64 0) (.int .i64 0) (.slice none 0 0) (.slice none 0 0)) Tryz.underlying34 sval_size ?_
   have hn0 := HN.out
   obtain ⟨j1, j2⟩ := ok.turn h2 hk9 (fun i e => by subst e; exact HNR.out)
   rw [E0.out]
   exact ⟨0, 0, none, 0, 0, 0, 0, none, 0, 0, none, 0, 0, 52, rfl, .inr (.inr rfl), ⟨_, j1, fun hh => by cases hh⟩, Kpt.turned ((ok.kept hR hk0).then HK.out) hk9 (fun i e => by omega) j2, fun hh => by cases hh⟩
  ·obtain ⟨tot, htot⟩ : ∃ tot, gseq (gt r.pr d t) n.toNat (r.pr.lS s) [] = tot := ⟨_, rfl⟩
   have hrt : res = gend r.pr.leS (fun l => .mk 15 0 [] 0 t [] l) tot := by
    rw [← HRES.out, ← htot, HTT.out, HNN.out]
    have hb2 : ¬ r.pr.lN s > 100000 := by rw [← HNN.out]; omega
    simp [gt, isSc, HZ.out, hb2]
   have HT := hdd htot
   have HRT := hdd hrt
   clear htot hrt
   go_wp2_with fail
   have hk3 : Keep (fun _ => False) w2 ((w2.alloc (.cells (gotA 0 t 0 n 0 0 (.slice a m cc)) 107 (0, 0))).alloc (.cells (valC 15 0 nilB 0 t (.slice none 0 0) (.slice none 0 0)) 34 (0, 0))) := ((Keep.refl _ w2).alloc _).alloc _
   have hG4 : ((w2.alloc (.cells (gotA 0 t 0 n 0 0 (.slice a m cc)) 107 (0, 0))).alloc (.cells (valC 15 0 nilB 0 t (.slice none 0 0) (.slice none 0 0)) 34 (0, 0))).heap[w2.heap.size]? = some (.cells (gotA 0 t 0 n 0 0 (.slice a m cc)) 107 (0, 0)) := (Below.heap_alloc _ _ _ (by simp)).trans (heap_alloc_new w2 _)
   have hU4 : ((w2.alloc (.cells (gotA 0 t 0 n 0 0 (.slice a m cc)) 107 (0, 0))).alloc (.cells (valC 15 0 nilB 0 t (.slice none 0 0) (.slice none 0 0)) 34 (0, 0))).heap[w2.heap.size + 1]? = some (.cells (valC 15 0 nilB 0 t (.slice none 0 0) (.slice none 0 0)) 34 (0, 0)) := heap_alloc_at (by simp) _
   have hs4 : ((w2.alloc (.cells (gotA 0 t 0 n 0 0 (.slice a m cc)) 107 (0, 0))).alloc (.cells (valC 15 0 nilB 0 t (.slice none 0 0) (.slice none 0 0)) 34 (0, 0))).heap.size = w2.heap.size + 2 := by simp
   generalize (w2.alloc (.cells (gotA 0 t 0 n 0 0 (.slice a m cc)) 107 (0, 0))).alloc (.cells (valC 15 0 nilB 0 t (.slice none 0 0) (.slice none 0 0)) 34 (0, 0)) = w4 at *
   have hR4 := (hk3.block n0 (lt_of_heap HR2.out) (fun x => x)).trans HR2.out
   have hltR := lt_of_heap HR2.out
   obtain ⟨G, hG⟩ : ∃ G, w2.heap.size = G := ⟨_, rfl⟩
   rw [hG] at hG4 hU4 hs4 hltR ⊢
   have HG := hdd hG
   have HK3 := hdd hk3
   have HG4 := hdd hG4
   have HU4 := hdd hU4
   have HS4 := hdd hs4
   have HR4 := hdd hR4
   clear hG hk3 hG4 hU4 hs4 hR4
   go_loopg [10] n.toNat (fun k v wr => r.GRel w (G + 1) [(n0, sVal, 34), (G, gotA 0 t 0 n 0 0 (.slice a m cc), 107)] d 15 0 t (fun q l k => gseq (gt r.pr d t) k q l) n 1 tot k v wr)
   case atStart =>
    have hN := HN.out
    have hs1 := HS0.out
    have hsz := HK.out.size
    have hG := HG.out
    have hs4 := HS4.out
    have hnew := ok.new h2 HK3.out
    have hkp := ((ok.kept hR hk0).then HK.out).then (ok.kept h2 HK3.out)
    have hm4 : ∀ i, r.M w4 i → r.M w2 i := (ok.turn h2 HK3.out (fun _ x => x.elim)).2
    refine ⟨0, _, [], _, [], rfl, by omega, by rw [Int.sub_zero], by simp, ok.fresh h2 HK3.out, ⟨hkp, vb_start HU4.out ⟨by omega, ?_, hnew _ (by omega)⟩ (fun i x => x.1), ?_⟩, by show gseq _ _ _ _ = _; exact HT.out, ?_⟩
    ·intro p hp
     simp only [List.mem_cons, List.not_mem_nil, or_false] at hp
     rcases hp with rfl | rfl
     ·show G + 1 ≠ n0; omega
     ·show G + 1 ≠ G; omega
    ·intro p hp
     simp only [List.mem_cons, List.not_mem_nil, or_false] at hp
     rcases hp with rfl | rfl
     ·exact ⟨by show w.heap.size ≤ n0; omega, HR4.out, fun q => HNR.out (hm4 _ q)⟩
     ·exact ⟨by show w.heap.size ≤ G; omega, HG4.out, hnew _ (by show w2.heap.size ≤ G; omega)⟩
    ·have a1 := ok.pr.l s HZ.out
     have a2 := ok.pr.dl s HZ.out
     have a3 : _ + _ < _ := HRM.out
     show _ + _ < _
     omega
   case round =>
    obtain ⟨i, s1, vs, lv, rows, rfl, hi0, hk, hvl, hi1, hfr, hgs, hrm⟩ := hrel
    obtain ⟨hG1, hG2, hG3⟩ := hfr.still (G, gotA 0 t 0 n 0 0 (.slice a m cc), 107) (by simp)
    obtain ⟨u0, u1, u2, u3, u4, u5, u6⟩ := got_cells hG2
    by_cases hin : i < n
    ·cases gk with
     | zero => omega
     | succ k =>
     have HK9 := hdd hk
     have HGS := hdd hgs
     have HFR := hdd hfr
     have HVL := hdd hvl
     clear hk hgs hfr hvl hG1 hG2 hG3
     go_wp2_with fail
     refine (ih (deep - 1) t s1 wr HD.out (by omega) (by omega) hi1 hrm).mono ?_
     rintro e w3 ⟨T', N9, Sa, Sm, Sc, KT', E', Ia, Im, Ic, La, Lm, Lc, x3, rfl, hx3, ⟨s3, h3, hr3⟩, hk3, hval⟩
     have HF3 := hdd (HFR.out.call hk3)
     have HX3 := hdd hx3
     have HR3 := hdd hr3
     have HVAL := hdd hval
     have HK3' := hdd hk3
     obtain ⟨hR1, hR2, hR3⟩ := HF3.out.still (n0, sVal, 34) (by simp)
     have HRR := hdd hR2
     clear hx3 hr3 hval hk3 hR1 hR2 hR3
     by_cases hz3 : x3 = 0
     ·subst hz3
      have hs0 := Sk.zero HX3.out
      obtain rfl := HR3.out rfl
      have HS3 := hdd hs0
      have hU5 := HF3.out.vb.blk
      have hUl := lt_of_heap hU5
      have hU6 := (Below.heap_alloc w3 (.cells (valC T' N9 (.slice Sa Sm Sc) KT' E' (.slice Ia Im Ic) (.slice La Lm Lc)) 34 (0, 0)) _ hUl).trans hU5
      have hne3 : ¬ G + 1 = w3.heap.size := by omega
      have hne4 : ¬ w3.heap.size = G + 1 := by omega
      obtain ⟨x0, x1, x2, x3, x4, x5, x6⟩ := got_cells hU6
      clear hs0 hU6 hU5
      obtain ⟨vi, hvi, hvz, hvs, hvb⟩ := sval_info
      have hvs1 : vs.length + 1 ≤ 100000 := by have := HVL.out; omega
      have hnews := rnew_cells (w3.alloc (.cells (valC T' N9 (.slice Sa Sm Sc) KT' E' (.slice Ia Im Ic) (.slice La Lm Lc)) 34)) (valC T' N9 (.slice Sa Sm Sc) KT' E' (.slice Ia Im Ic) (.slice La Lm Lc)) 34
      rw [show (w3.alloc (.cells (valC T' N9 (.slice Sa Sm Sc) KT' E' (.slice Ia Im Ic) (.slice La Lm Lc)) 34)).heap.size = w3.heap.size + 1 by simp] at hnews
      have hone : ∀ u ∈ ((valC T' N9 (.slice Sa Sm Sc) KT' E' (.slice Ia Im Ic) (.slice La Lm Lc))).toList, u.oneCell' = true := by
       intro u hu
       simp only [List.mem_cons, List.not_mem_nil, or_false] at hu
       rcases hu with rfl | rfl | rfl | rfl | rfl | rfl | rfl <;> rfl
      have hb0 : w.heap.size ≤ ((w3.alloc (.cells (valC T' N9 (.slice Sa Sm Sc) KT' E' (.slice Ia Im Ic) (.slice La Lm Lc)) 34)).alloc (.cells (valC T' N9 (.slice Sa Sm Sc) KT' E' (.slice Ia Im Ic) (.slice La Lm Lc)) 34)).heap.size := by have := HF3.out.kp.size; simp; omega
      have hmx : vs.length + 1 ≤ maxLen := by simp only [maxLen]; omega
      go_wp2_with (at_builtin; refine wpList_append_own_at _ rfl (.tmp 80) (.tmp 82) 32 rfl w.heap.size 34 vi (.agg sVal) 7 104 Tryz.underlying32 hvi hvz hvs hvb rfl (by decide) lv vs.length rows.flatten rfl ((HF3.out.vb.parts.alloc _).alloc _) ⟨w3.heap.size + 1, 0, none⟩ 1 1 ((valC T' N9 (.slice Sa Sm Sc) KT' E' (.slice Ia Im Ic) (.slice La Lm Lc))).toList rfl rfl hnews hone hmx (by omega) hb0 ?_)
      intro v' w7 hown hgrow hnil hat
      obtain ⟨va, vm, vc, rfl⟩ := rown_shape hown
      have hmn := HFR.out.mine
      have hkk : Keep (fun _ => False) w3 ((w3.alloc (.cells (valC T' N9 (.slice Sa Sm Sc) KT' E' (.slice Ia Im Ic) (.slice La Lm Lc)) 34)).alloc (.cells (valC T' N9 (.slice Sa Sm Sc) KT' E' (.slice Ia Im Ic) (.slice La Lm Lc)) 34)) := ((Keep.refl _ w3).alloc _).alloc _
      have hk7 : Keep (fun i => lv.ownBlock = some i) w3 w7 := (hkk.weak (fun _ _ x => x.elim)).grown hgrow (fun k e _ => e)
      have hU7 := (hk7.block (G + 1) hUl HF3.out.vb.neL).trans HF3.out.vb.blk
      have HOWN := hdd hown
      have HGROW := hdd hgrow
      have HAT := hdd hat
      have HKK := hdd hkk
      have HMN := hdd hmn
      clear x0 x1 x2 x3 x4 x5 x6 hnews hone hb0 hmx hown hgrow hat hnil hk7 hkk hmn hvi hvz hvs hvb
      obtain ⟨x0, x1, x2, x3, x4, x5, x6⟩ := got_cells hU7
      obtain ⟨y0, y1, y2, y3, y4, y5, y6⟩ := got_free hU7
      clear hU7
      go_wp2_with fail
      go_roundg k
      case measure => exact Nat.lt_succ_self _
      case rel =>
       have hM6 := (ok.turn h3 HKK.out (fun _ x => x.elim)).2
       obtain ⟨F8, I8⟩ := Rdr.Frame.part (x := (gt r.pr d t s1).2.2) ok (Rdr.Frame.fresh ok HF3.out h3 HKK.out) (ok.fresh h3 HKK.out)
        (((HVAL.out (by trivial)).keep HKK.out (fun _ _ => id)).weak (fun i _ hi => ⟨fun j hj e => by have := (HMN.out j hj).2.1; have := hi.1; omega, by have := hi.1; have := HFR.out.kp.size; omega, fun p hp e => by have := lt_of_heap (HFR.out.still p hp).2.1; have := hi.1; omega, fun q => hi.2 (hM6 i q)⟩)) HOWN.out HGROW.out (by simpa using HAT.out)
       refine ⟨i + 1, _, _, _, _, rfl, by omega, by have := HK9.out; omega, by have := HVL.out; simp; omega, I8, F8, ?_, ?_⟩
       ·show gseq _ _ _ _ = _
        rw [← HGS.out]
        exact (rgseq_ok HS3.out).symm
       ·have a1 := gt_len ok.pr d _ _ HS3.out
        have a2 := gt_dep ok.pr d _ _ HS3.out
        have a3 : _ + _ < _ := hrm
        show _ + _ < _
        omega
     ·obtain ⟨x0, x1, x2, x3', x4, x5, x6⟩ := got_cells HF3.out.vb.blk
      obtain ⟨r0, r1, r2, r3, r4, r5, r6⟩ := got_cells HRR.out
      obtain ⟨z0, z1, z2, z3, z4, z5, z6⟩ := got_free HRR.out
      obtain ⟨Ma, Mm, Mc, rfl⟩ := rown_shape HFR.out.vb.parts
      have HZ3 := hdd hz3
      have hUl := lt_of_heap HF3.out.vb.blk
      have hRl := lt_of_heap HRR.out
      go_wp2_with (with_reducible refine rList_named 77 rfl ?_)
      intro w5 hw5
      have hk5 : Keep (fun _ => False) w3 w5 := by rw [← hw5]; exact (Keep.refl _ w3).alloc _
      have hU5 := (hk5.block (G + 1) hUl (fun x => x)).trans HF3.out.vb.blk
      have hR5 := (hk5.block n0 hRl (fun x => x)).trans HRR.out
      clear hw5 x0 x1 x2 x3' x4 x5 x6 r0 r1 r2 r3 r4 r5 r6 z0 z1 z2 z3 z4 z5 z6
      have HK5 := hdd hk5
      have HR5 := hdd hR5
      obtain ⟨x0, x1, x2, x3', x4, x5, x6⟩ := got_cells hU5
      obtain ⟨r0, r1, r2, r3, r4, r5, r6⟩ := got_cells hR5
      obtain ⟨z0, z1, z2, z3, z4, z5, z6⟩ := got_free hR5
      clear hU5 hR5 hk5
      go_wp2_with fail
      have hk9 := sval_keep (M := fun i => n0 = i) (HK5.out.weak (fun _ _ e => e.elim)) (R := n0) (fun _ => rfl) (.int .i64 15) (.int .i64 0) (.slice none 0 0) (.int .i64 0) (.int .i64 t) (.slice none 0 0) (.slice Ma Mm Mc)
      refine ret_cell2 (U := n0) (T := 34) Tryz.results92 rfl rfl rfl (sval_set HR5.out (.int .i64 15) (.int .i64 0) (.slice none 0 0) (.int .i64 0) (.int .i64 t) (.slice none 0 0) (.slice Ma Mm Mc)) Tryz.underlying34 sval_size ?_
      obtain ⟨q1, q2, q3⟩ := HF3.out.still (n0, sVal, 34) (by simp)
      obtain ⟨j1, j2⟩ := ok.turn h3 hk9 (fun i e => by subst e; exact q3)
      refine ⟨15, 0, none, 0, 0, 0, t, none, 0, 0, Ma, Mm, Mc, x3, rfl, ?_, ⟨s3, j1, fun hh => absurd hh HZ3.out⟩, Kpt.turned HF3.out.kp hk9 (fun i e => by subst e; exact q1) j2, fun hh => absurd hh HZ3.out⟩
      have hX := HX3.out
      by_cases hq : (gt r.pr d t s1).1 = 0
      ·have := HZ3.out
       unfold Sk at hX ⊢; omega
      ·have e1 : res = ((gt r.pr d t s1).1, (gt r.pr d t s1).2.1, V.zero) := by
        rw [HRT.out, ← HGS.out]
        show gend _ _ (gseq _ _ _ _) = _
        rw [rgseq_bad hq]
        exact rgend_bad hq
       rw [e1]; exact hX
    ·have hgk : gk = 0 := by omega
     subst hgk
     obtain ⟨La, Lm, Lc, rfl⟩ := rown_shape hfr.vb.parts
     have HGS := hdd hgs
     have HFD := hdd (Rdr.Frame.fresh ok hfr hi1 ((Keep.refl (fun _ => False) wr).drew))
     have HI := hdd (ok.fresh hi1 ((Keep.refl (fun _ => False) wr).drew))
     have HSE := hdd (ok.le HI.out : Calls _ _ _ wr.drew _)
     obtain ⟨x0, x1, x2, x3, x4, x5, x6⟩ := got_cells hfr.vb.blk
     clear hk hgs hfr hG1 hG2 hG3 hvl
     go_wp2_with fail
     go_region_with (first | (go_at_call 115; refine (spec_many 15 _).mono ?_; rintro e w' ⟨rfl, rfl⟩; rw [show manyOf 15 = 9 by decide]) | (go_at_call 63; refine HSE.out.mono ?_; rintro e w5 ⟨y5, t5, kt5, size5, id5, N5, S5, rfl, ⟨a5, m5, cc5, rfl⟩, hx5, ⟨s5, h5, hr5⟩, hk5, _⟩; have hf := got_field0 y5 t5 kt5 size5 id5 N5 (.slice a5 m5 cc5); have HX5 := hdd hx5; have H5 := hdd h5; have HR5 := hdd hr5; have HK5 := hdd hk5; have HF5 := hdd (HFD.out.call hk5); clear hx5 h5 hr5 hk5; obtain ⟨hR1, hR2, hR3⟩ := HF5.out.still (n0, sVal, 34) (by simp); have HRR := hdd hR2; obtain ⟨p0, p1, p2, p3, p4, p5, p6⟩ := got_cells HF5.out.vb.blk; obtain ⟨r0, r1, r2, r3, r4, r5, r6⟩ := got_cells hR2; obtain ⟨z0, z1, z2, z3, z4, z5, z6⟩ := got_free hR2; clear hR1 hR2 hR3))
     all_goals
      go_wp2_with fail
      have hk9 := sval_keep (M := fun i => n0 = i) (Keep.refl _ w5) (R := n0) (fun _ => rfl) (.int .i64 15) (.int .i64 0) (.slice none 0 0) (.int .i64 0) (.int .i64 t) (.slice none 0 0) (.slice La Lm Lc)
      refine ret_cell2 (U := n0) (T := 34) Tryz.results92 rfl rfl rfl (sval_set HRR.out (.int .i64 15) (.int .i64 0) (.slice none 0 0) (.int .i64 0) (.int .i64 t) (.slice none 0 0) (.slice La Lm Lc)) Tryz.underlying34 sval_size ?_
      obtain ⟨q1, q2, q3⟩ := HF5.out.still (n0, sVal, 34) (by simp)
      obtain ⟨j1, j2⟩ := ok.turn H5.out hk9 (fun i e => by subst e; exact q3)
      have e1 : res = (0, r.pr.leS s1, .mk 15 0 [] 0 t [] vs) := by
       have e2 : tot = (0, s1, vs) := by rw [← HGS.out]; rfl
       rw [HRT.out, e2]
       exact rgend_ok rfl
      rw [e1]
      refine ⟨15, 0, none, 0, 0, 0, t, none, 0, 0, La, Lm, Lc, y5, rfl, HX5.out, ⟨s5, j1, HR5.out⟩, Kpt.turned HF5.out.kp hk9 (fun i e => by subst e; exact q1) j2, fun hz => ?_⟩
      have hv := HF5.out.vb.val (by simp)
      exact (hv.keep hk9 (fun i hi e => hi.2.1 (n0, sVal, 34) (by simp) e.symm)).weak (fun i _ hi => ⟨hi.1, fun q => hi.2.2 (j2 i q)⟩)
 ·have HZ := hdd hz
  have H2 := hdd hr2
  clear hv hr2
  go_wp2_with fail
  have hk3 : Keep (fun _ => False) w2 (w2.alloc (.cells (gotA x t kt n idn N' (.slice a m cc)) 107 (0, 0))) := (Keep.refl _ w2).alloc _
  have hG3 := heap_alloc_new w2 (.cells (gotA x t kt n idn N' (.slice a m cc)) 107 (0, 0))
  obtain ⟨G, hG⟩ : ∃ G, w2.heap.size = G := ⟨_, rfl⟩
  rw [hG] at hG3 ⊢
  generalize w2.alloc (.cells (gotA x t kt n idn N' (.slice a m cc)) 107 (0, 0)) = w3 at *
  have hR3 := (hk3.block n0 (lt_of_heap HR2.out) (fun x => x)).trans HR2.out
  have hltR := lt_of_heap HR2.out
  have hne3 : ¬ n0 = G := by omega
  have hne4 : ¬ G = n0 := by omega
  have HK3 := hdd hk3
  have HR3 := hdd hR3
  obtain ⟨u0, u1, u2, u3, u4, u5, u6⟩ := got_cells hG3
  obtain ⟨r0, r1, r2, r3, r4, r5, r6⟩ := got_cells hR3
  obtain ⟨z0, z1, z2, z3, z4, z5, z6⟩ := got_free hR3
  clear hk3 hG3 hR3 hG
  go_region
  all_goals
   go_wp2_with fail
   have hk9 := sval_keep (M := fun i => n0 = i) (HK3.out.weak (fun _ _ e => e.elim)) (R := n0) (fun _ => rfl) (.int .i64 0) (.int .i64 0) (.slice none 0 0) (.int .i64 0) (.int .i64 0) (.slice none 0 0) (.slice none 0 0)
   have hR9 := sval_set HR3.out (.int .i64 0) (.int .i64 0) (.slice none 0 0) (.int .i64 0) (.int .i64 0) (.slice none 0 0) (.slice none 0 0)
   generalize ((((((w3.setCell ⟨n0, 0, none⟩ (.int .i64 0)).setCell ⟨n0, 1, none⟩ (.int .i64 0)).setCell ⟨n0, 2, none⟩ (.slice none 0 0)).setCell ⟨n0, 3, none⟩ (.int .i64 0)).setCell ⟨n0, 4, none⟩ (.int .i64 0)).setCell ⟨n0, 5, none⟩ (.slice none 0 0)).setCell ⟨n0, 6, none⟩ (.slice none 0 0) = w9 at *
   have hR10 : w9.drew.heap[n0]? = some (.cells sVal 34 (0, 0)) := hR9
   have hk10 := hk9.drew
   refine ret_cell2 (U := n0) (T := 34) Tryz.results92 rfl rfl rfl hR10 Tryz.underlying34 sval_size ?_
   have hn0 := HN.out
   obtain ⟨j1, j2⟩ := ok.turn h2 hk10 (fun i e => by subst e; exact HNR.out)
   refine ⟨0, 0, none, 0, 0, 0, 0, none, 0, 0, none, 0, 0, x, rfl, ?_, ⟨s2, j1, fun hh => absurd hh HZ.out⟩, Kpt.turned ((ok.kept hR hk0).then HK.out) hk10 (fun i e => by omega) j2, fun hh => absurd hh HZ.out⟩
   have hX := HX.out
   by_cases hq : r.pr.lK s = 0
   ·have := HZ.out
    unfold Sk at hX ⊢; omega
   ·have e1 : res = (r.pr.lK s, r.pr.lS s, V.zero) := by
     rw [← HRES.out]
     simp [gt, isSc, hq]
    rw [e1]; exact hX
end
section
variable {σ : Type} {r : Rdr σ} {s : σ} {w : World}
set_option maxRecDepth 100000 in
theorem Rdr.get_set (ok : r.Ok) (d : Nat) (ih : r.Gets d) (deep : Int) (hdq : deep.toNat = d + 1) (hd : 0 < deep) (hhi : deep ≤ 9223372036854775807) (hR : r.Inv s w) (hroom : r.pr.Room s) :
  Calls Tryz.prog 92 #[.pointer (some ⟨r.R, 0, none⟩), .int .i64 14, .int .i64 deep] w (r.GetP (d + 1) w (gt r.pr (d + 1) 14 s)) := by
 obtain ⟨res, hres⟩ : ∃ res, gt r.pr (d + 1) 14 s = res := ⟨_, rfl⟩
 rw [hres]
 have HRES := hdd hres
 have HRM := hdd hroom
 have hd1 : (deep - 1).toNat = d := by omega
 have HD := hdd hd1
 have HDD := hdd hdq
 clear hres hroom hd1 hdq
 have hk0 : Keep (fun _ => False) w (w.alloc (.cells sVal 34 (0, 0))) := (Keep.refl _ w).alloc _
 have hR0 := heap_alloc_new w (.cells sVal 34 (0, 0))
 have hs0 : (w.alloc (.cells sVal 34 (0, 0))).heap.size = w.heap.size + 1 := by simp
 have HST := hdd (fun W (hW : r.Inv s W) => (ok.t hW : Calls _ _ _ W _))
 go_enter Tryz.func92, Tryz.ntmps92
 go_wp2_with fail
 obtain ⟨n0, hn⟩ : ∃ n0, w.heap.size = n0 := ⟨_, rfl⟩
 rw [hn] at hR0 hs0 ⊢
 generalize w.alloc (.cells sVal 34 (0, 0)) = w1 at *
 have HN := hdd hn
 have HR0 := hdd hR0
 have HS0 := hdd hs0
 clear hn hR0 hs0
 refine (spec_many 14 w1).mono ?_
 rintro e w' ⟨rfl, rfl⟩
 rw [show manyOf 14 = 11 by decide]
 go_wp2_with fail
 refine (HST.out w1 (ok.fresh hR hk0)).mono ?_
 rintro e w2 ⟨x, t, kt, n, idn, N', S', rfl, ⟨a, m, cc, rfl⟩, hx, ⟨s2, h2, hr2⟩, hk, hv⟩
 have hmn := ok.new hR hk0
 have hs1 := HS0.out
 have hN := HN.out
 have hR2 := (hk.block n0 (by omega) (hmn _ (by omega))).trans HR0.out
 have hnR := hk.not (i := n0) (by omega) (hmn _ (by omega))
 have HK := hdd hk
 have HX := hdd hx
 have HNR := hdd hnR
 have HR2 := hdd hR2
 clear hk hx hmn hs1 hN hR2 hnR
 by_cases hz : x = 0
 ·subst hz
  have hK : r.pr.lK s = 0 := Sk.zero HX.out
  obtain ⟨ht, _, hn, _⟩ := hv rfl
  obtain rfl := hr2 rfl
  have HZ := hdd hK
  have HTT := hdd ht
  have HNN := hdd hn
  clear hv hr2 ht hn hK
  by_cases hbig : 100000 < n
  ·have e0 : res = (52, r.pr.lS s, V.zero) := by
    rw [← HRES.out]
    have hb2 : r.pr.lN s > 100000 := by rw [← HNN.out]; omega
    simp [gt, isSc, HZ.out, hb2]
   have E0 := hdd e0
   clear e0
   have hltR := lt_of_heap HR2.out
   go_wp2_with (with_reducible refine rList_named 29 rfl ?_)
   intro w3 hw3
   have hk3 : Keep (fun _ => False) w2 w3 := by rw [← hw3]; exact (Keep.refl _ w2).alloc _
   have hR3 := (hk3.block n0 hltR (fun x => x)).trans HR2.out
   clear hw3
   have HK3 := hdd hk3
   have HR3 := hdd hR3
   obtain ⟨r0, r1, r2, r3, r4, r5, r6⟩ := got_cells hR3
   obtain ⟨z0, z1, z2, z3, z4, z5, z6⟩ := got_free hR3
   clear hk3 hR3
   go_wp2_with fail
   have hk9 := sval_keep (M := fun i => n0 = i) (HK3.out.weak (fun _ _ e => e.elim)) (R := n0) (fun _ => rfl) (.int .i64 0) (.int .i64 0) (.slice none 0 0) (.int .i64 0) (.int .i64 0) (.slice none 0 0) (.slice none 0 0)
   refine ret_cell2 (U := n0) (T := 34) Tryz.results92 rfl rfl rfl (sval_set HR3.out (.int .i64 0) (.int .i64 0) (.slice none 0 0) (.int .i64 0) (.int .i64 0) (.slice none 0 0) (.slice none 0 0)) Tryz.underlying34 sval_size ?_
   have hn0 := HN.out
   obtain ⟨j1, j2⟩ := ok.turn h2 hk9 (fun i e => by subst e; exact HNR.out)
   rw [E0.out]
   exact ⟨0, 0, none, 0, 0, 0, 0, none, 0, 0, none, 0, 0, 52, rfl, .inr (.inr rfl), ⟨_, j1, fun hh => by cases hh⟩, Kpt.turned ((ok.kept hR hk0).then HK.out) hk9 (fun i e => by omega) j2, fun hh => by cases hh⟩
  ·obtain ⟨tot, htot⟩ : ∃ tot, gseq (gt r.pr d t) n.toNat (r.pr.lS s) [] = tot := ⟨_, rfl⟩
   have hrt : res = gend r.pr.leS (fun l => .mk 14 0 [] 0 t [] l) tot := by
    rw [← HRES.out, ← htot, HTT.out, HNN.out]
    have hb2 : ¬ r.pr.lN s > 100000 := by rw [← HNN.out]; omega
    simp [gt, isSc, HZ.out, hb2]
   have HT := hdd htot
   have HRT := hdd hrt
   clear htot hrt
   go_wp2_with fail
   have hk3 : Keep (fun _ => False) w2 ((w2.alloc (.cells (gotA 0 t 0 n 0 0 (.slice a m cc)) 107 (0, 0))).alloc (.cells (valC 14 0 nilB 0 t (.slice none 0 0) (.slice none 0 0)) 34 (0, 0))) := ((Keep.refl _ w2).alloc _).alloc _
   have hG4 : ((w2.alloc (.cells (gotA 0 t 0 n 0 0 (.slice a m cc)) 107 (0, 0))).alloc (.cells (valC 14 0 nilB 0 t (.slice none 0 0) (.slice none 0 0)) 34 (0, 0))).heap[w2.heap.size]? = some (.cells (gotA 0 t 0 n 0 0 (.slice a m cc)) 107 (0, 0)) := (Below.heap_alloc _ _ _ (by simp)).trans (heap_alloc_new w2 _)
   have hU4 : ((w2.alloc (.cells (gotA 0 t 0 n 0 0 (.slice a m cc)) 107 (0, 0))).alloc (.cells (valC 14 0 nilB 0 t (.slice none 0 0) (.slice none 0 0)) 34 (0, 0))).heap[w2.heap.size + 1]? = some (.cells (valC 14 0 nilB 0 t (.slice none 0 0) (.slice none 0 0)) 34 (0, 0)) := heap_alloc_at (by simp) _
   have hs4 : ((w2.alloc (.cells (gotA 0 t 0 n 0 0 (.slice a m cc)) 107 (0, 0))).alloc (.cells (valC 14 0 nilB 0 t (.slice none 0 0) (.slice none 0 0)) 34 (0, 0))).heap.size = w2.heap.size + 2 := by simp
   generalize (w2.alloc (.cells (gotA 0 t 0 n 0 0 (.slice a m cc)) 107 (0, 0))).alloc (.cells (valC 14 0 nilB 0 t (.slice none 0 0) (.slice none 0 0)) 34 (0, 0)) = w4 at *
   have hR4 := (hk3.block n0 (lt_of_heap HR2.out) (fun x => x)).trans HR2.out
   have hltR := lt_of_heap HR2.out
   obtain ⟨G, hG⟩ : ∃ G, w2.heap.size = G := ⟨_, rfl⟩
   rw [hG] at hG4 hU4 hs4 hltR ⊢
   have HG := hdd hG
   have HK3 := hdd hk3
   have HG4 := hdd hG4
   have HU4 := hdd hU4
   have HS4 := hdd hs4
   have HR4 := hdd hR4
   clear hG hk3 hG4 hU4 hs4 hR4
   go_loopg [10] n.toNat (fun k v wr => r.GRel w (G + 1) [(n0, sVal, 34), (G, gotA 0 t 0 n 0 0 (.slice a m cc), 107)] d 14 0 t (fun q l k => gseq (gt r.pr d t) k q l) n 1 tot k v wr)
   case atStart =>
    have hN := HN.out
    have hs1 := HS0.out
    have hsz := HK.out.size
    have hG := HG.out
    have hs4 := HS4.out
    have hnew := ok.new h2 HK3.out
    have hkp := ((ok.kept hR hk0).then HK.out).then (ok.kept h2 HK3.out)
    have hm4 : ∀ i, r.M w4 i → r.M w2 i := (ok.turn h2 HK3.out (fun _ x => x.elim)).2
    refine ⟨0, _, [], _, [], rfl, by omega, by rw [Int.sub_zero], by simp, ok.fresh h2 HK3.out, ⟨hkp, vb_start HU4.out ⟨by omega, ?_, hnew _ (by omega)⟩ (fun i x => x.1), ?_⟩, by show gseq _ _ _ _ = _; exact HT.out, ?_⟩
    ·intro p hp
     simp only [List.mem_cons, List.not_mem_nil, or_false] at hp
     rcases hp with rfl | rfl
     ·show G + 1 ≠ n0; omega
     ·show G + 1 ≠ G; omega
    ·intro p hp
     simp only [List.mem_cons, List.not_mem_nil, or_false] at hp
     rcases hp with rfl | rfl
     ·exact ⟨by show w.heap.size ≤ n0; omega, HR4.out, fun q => HNR.out (hm4 _ q)⟩
     ·exact ⟨by show w.heap.size ≤ G; omega, HG4.out, hnew _ (by show w2.heap.size ≤ G; omega)⟩
    ·have a1 := ok.pr.l s HZ.out
     have a2 := ok.pr.dl s HZ.out
     have a3 : _ + _ < _ := HRM.out
     show _ + _ < _
     omega
   case round =>
    obtain ⟨i, s1, vs, lv, rows, rfl, hi0, hk, hvl, hi1, hfr, hgs, hrm⟩ := hrel
    obtain ⟨hG1, hG2, hG3⟩ := hfr.still (G, gotA 0 t 0 n 0 0 (.slice a m cc), 107) (by simp)
    obtain ⟨u0, u1, u2, u3, u4, u5, u6⟩ := got_cells hG2
    by_cases hin : i < n
    ·cases gk with
     | zero => omega
     | succ k =>
     have HK9 := hdd hk
     have HGS := hdd hgs
     have HFR := hdd hfr
     have HVL := hdd hvl
     clear hk hgs hfr hvl hG1 hG2 hG3
     go_wp2_with fail
     refine (ih (deep - 1) t s1 wr HD.out (by omega) (by omega) hi1 hrm).mono ?_
     rintro e w3 ⟨T', N9, Sa, Sm, Sc, KT', E', Ia, Im, Ic, La, Lm, Lc, x3, rfl, hx3, ⟨s3, h3, hr3⟩, hk3, hval⟩
     have HF3 := hdd (HFR.out.call hk3)
     have HX3 := hdd hx3
     have HR3 := hdd hr3
     have HVAL := hdd hval
     have HK3' := hdd hk3
     obtain ⟨hR1, hR2, hR3⟩ := HF3.out.still (n0, sVal, 34) (by simp)
     have HRR := hdd hR2
     clear hx3 hr3 hval hk3 hR1 hR2 hR3
     by_cases hz3 : x3 = 0
     ·subst hz3
      have hs0 := Sk.zero HX3.out
      obtain rfl := HR3.out rfl
      have HS3 := hdd hs0
      have hU5 := HF3.out.vb.blk
      have hUl := lt_of_heap hU5
      have hU6 := (Below.heap_alloc w3 (.cells (valC T' N9 (.slice Sa Sm Sc) KT' E' (.slice Ia Im Ic) (.slice La Lm Lc)) 34 (0, 0)) _ hUl).trans hU5
      have hne3 : ¬ G + 1 = w3.heap.size := by omega
      have hne4 : ¬ w3.heap.size = G + 1 := by omega
      obtain ⟨x0, x1, x2, x3, x4, x5, x6⟩ := got_cells hU6
      clear hs0 hU6 hU5
      obtain ⟨vi, hvi, hvz, hvs, hvb⟩ := sval_info
      have hvs1 : vs.length + 1 ≤ 100000 := by have := HVL.out; omega
      have hnews := rnew_cells (w3.alloc (.cells (valC T' N9 (.slice Sa Sm Sc) KT' E' (.slice Ia Im Ic) (.slice La Lm Lc)) 34)) (valC T' N9 (.slice Sa Sm Sc) KT' E' (.slice Ia Im Ic) (.slice La Lm Lc)) 34
      rw [show (w3.alloc (.cells (valC T' N9 (.slice Sa Sm Sc) KT' E' (.slice Ia Im Ic) (.slice La Lm Lc)) 34)).heap.size = w3.heap.size + 1 by simp] at hnews
      have hone : ∀ u ∈ ((valC T' N9 (.slice Sa Sm Sc) KT' E' (.slice Ia Im Ic) (.slice La Lm Lc))).toList, u.oneCell' = true := by
       intro u hu
       simp only [List.mem_cons, List.not_mem_nil, or_false] at hu
       rcases hu with rfl | rfl | rfl | rfl | rfl | rfl | rfl <;> rfl
      have hb0 : w.heap.size ≤ ((w3.alloc (.cells (valC T' N9 (.slice Sa Sm Sc) KT' E' (.slice Ia Im Ic) (.slice La Lm Lc)) 34)).alloc (.cells (valC T' N9 (.slice Sa Sm Sc) KT' E' (.slice Ia Im Ic) (.slice La Lm Lc)) 34)).heap.size := by have := HF3.out.kp.size; simp; omega
      have hmx : vs.length + 1 ≤ maxLen := by simp only [maxLen]; omega
      go_wp2_with (at_builtin; refine wpList_append_own_at _ rfl (.tmp 80) (.tmp 82) 32 rfl w.heap.size 34 vi (.agg sVal) 7 104 Tryz.underlying32 hvi hvz hvs hvb rfl (by decide) lv vs.length rows.flatten rfl ((HF3.out.vb.parts.alloc _).alloc _) ⟨w3.heap.size + 1, 0, none⟩ 1 1 ((valC T' N9 (.slice Sa Sm Sc) KT' E' (.slice Ia Im Ic) (.slice La Lm Lc))).toList rfl rfl hnews hone hmx (by omega) hb0 ?_)
      intro v' w7 hown hgrow hnil hat
      obtain ⟨va, vm, vc, rfl⟩ := rown_shape hown
      have hmn := HFR.out.mine
      have hkk : Keep (fun _ => False) w3 ((w3.alloc (.cells (valC T' N9 (.slice Sa Sm Sc) KT' E' (.slice Ia Im Ic) (.slice La Lm Lc)) 34)).alloc (.cells (valC T' N9 (.slice Sa Sm Sc) KT' E' (.slice Ia Im Ic) (.slice La Lm Lc)) 34)) := ((Keep.refl _ w3).alloc _).alloc _
      have hk7 : Keep (fun i => lv.ownBlock = some i) w3 w7 := (hkk.weak (fun _ _ x => x.elim)).grown hgrow (fun k e _ => e)
      have hU7 := (hk7.block (G + 1) hUl HF3.out.vb.neL).trans HF3.out.vb.blk
      have HOWN := hdd hown
      have HGROW := hdd hgrow
      have HAT := hdd hat
      have HKK := hdd hkk
      have HMN := hdd hmn
      clear x0 x1 x2 x3 x4 x5 x6 hnews hone hb0 hmx hown hgrow hat hnil hk7 hkk hmn hvi hvz hvs hvb
      obtain ⟨x0, x1, x2, x3, x4, x5, x6⟩ := got_cells hU7
      obtain ⟨y0, y1, y2, y3, y4, y5, y6⟩ := got_free hU7
      clear hU7
      go_wp2_with fail
      go_roundg k
      case measure => exact Nat.lt_succ_self _
      case rel =>
       have hM6 := (ok.turn h3 HKK.out (fun _ x => x.elim)).2
       obtain ⟨F8, I8⟩ := Rdr.Frame.part (x := (gt r.pr d t s1).2.2) ok (Rdr.Frame.fresh ok HF3.out h3 HKK.out) (ok.fresh h3 HKK.out)
        (((HVAL.out (by trivial)).keep HKK.out (fun _ _ => id)).weak (fun i _ hi => ⟨fun j hj e => by have := (HMN.out j hj).2.1; have := hi.1; omega, by have := hi.1; have := HFR.out.kp.size; omega, fun p hp e => by have := lt_of_heap (HFR.out.still p hp).2.1; have := hi.1; omega, fun q => hi.2 (hM6 i q)⟩)) HOWN.out HGROW.out (by simpa using HAT.out)
       refine ⟨i + 1, _, _, _, _, rfl, by omega, by have := HK9.out; omega, by have := HVL.out; simp; omega, I8, F8, ?_, ?_⟩
       ·show gseq _ _ _ _ = _
        rw [← HGS.out]
        exact (rgseq_ok HS3.out).symm
       ·have a1 := gt_len ok.pr d _ _ HS3.out
        have a2 := gt_dep ok.pr d _ _ HS3.out
        have a3 : _ + _ < _ := hrm
        show _ + _ < _
        omega
     ·obtain ⟨x0, x1, x2, x3', x4, x5, x6⟩ := got_cells HF3.out.vb.blk
      obtain ⟨r0, r1, r2, r3, r4, r5, r6⟩ := got_cells HRR.out
      obtain ⟨z0, z1, z2, z3, z4, z5, z6⟩ := got_free HRR.out
      obtain ⟨Ma, Mm, Mc, rfl⟩ := rown_shape HFR.out.vb.parts
      have HZ3 := hdd hz3
      have hUl := lt_of_heap HF3.out.vb.blk
      have hRl := lt_of_heap HRR.out
      go_wp2_with (with_reducible refine rList_named 77 rfl ?_)
      intro w5 hw5
      have hk5 : Keep (fun _ => False) w3 w5 := by rw [← hw5]; exact (Keep.refl _ w3).alloc _
      have hU5 := (hk5.block (G + 1) hUl (fun x => x)).trans HF3.out.vb.blk
      have hR5 := (hk5.block n0 hRl (fun x => x)).trans HRR.out
      clear hw5 x0 x1 x2 x3' x4 x5 x6 r0 r1 r2 r3 r4 r5 r6 z0 z1 z2 z3 z4 z5 z6
      have HK5 := hdd hk5
      have HR5 := hdd hR5
      obtain ⟨x0, x1, x2, x3', x4, x5, x6⟩ := got_cells hU5
      obtain ⟨r0, r1, r2, r3, r4, r5, r6⟩ := got_cells hR5
      obtain ⟨z0, z1, z2, z3, z4, z5, z6⟩ := got_free hR5
      clear hU5 hR5 hk5
      go_wp2_with fail
      have hk9 := sval_keep (M := fun i => n0 = i) (HK5.out.weak (fun _ _ e => e.elim)) (R := n0) (fun _ => rfl) (.int .i64 14) (.int .i64 0) (.slice none 0 0) (.int .i64 0) (.int .i64 t) (.slice none 0 0) (.slice Ma Mm Mc)
      refine ret_cell2 (U := n0) (T := 34) Tryz.results92 rfl rfl rfl (sval_set HR5.out (.int .i64 14) (.int .i64 0) (.slice none 0 0) (.int .i64 0) (.int .i64 t) (.slice none 0 0) (.slice Ma Mm Mc)) Tryz.underlying34 sval_size ?_
      obtain ⟨q1, q2, q3⟩ := HF3.out.still (n0, sVal, 34) (by simp)
      obtain ⟨j1, j2⟩ := ok.turn h3 hk9 (fun i e => by subst e; exact q3)
      refine ⟨14, 0, none, 0, 0, 0, t, none, 0, 0, Ma, Mm, Mc, x3, rfl, ?_, ⟨s3, j1, fun hh => absurd hh HZ3.out⟩, Kpt.turned HF3.out.kp hk9 (fun i e => by subst e; exact q1) j2, fun hh => absurd hh HZ3.out⟩
      have hX := HX3.out
      by_cases hq : (gt r.pr d t s1).1 = 0
      ·have := HZ3.out
       unfold Sk at hX ⊢; omega
      ·have e1 : res = ((gt r.pr d t s1).1, (gt r.pr d t s1).2.1, V.zero) := by
        rw [HRT.out, ← HGS.out]
        show gend _ _ (gseq _ _ _ _) = _
        rw [rgseq_bad hq]
        exact rgend_bad hq
       rw [e1]; exact hX
    ·have hgk : gk = 0 := by omega
     subst hgk
     obtain ⟨La, Lm, Lc, rfl⟩ := rown_shape hfr.vb.parts
     have HGS := hdd hgs
     have HFD := hdd (Rdr.Frame.fresh ok hfr hi1 ((Keep.refl (fun _ => False) wr).drew))
     have HI := hdd (ok.fresh hi1 ((Keep.refl (fun _ => False) wr).drew))
     have HSE := hdd (ok.te HI.out : Calls _ _ _ wr.drew _)
     obtain ⟨x0, x1, x2, x3, x4, x5, x6⟩ := got_cells hfr.vb.blk
     clear hk hgs hfr hG1 hG2 hG3 hvl
     go_wp2_with fail
     go_region_with (first | (go_at_call 115; refine (spec_many 14 _).mono ?_; rintro e w' ⟨rfl, rfl⟩; rw [show manyOf 14 = 11 by decide]) | (go_at_call 63; refine HSE.out.mono ?_; rintro e w5 ⟨y5, t5, kt5, size5, id5, N5, S5, rfl, ⟨a5, m5, cc5, rfl⟩, hx5, ⟨s5, h5, hr5⟩, hk5, _⟩; have hf := got_field0 y5 t5 kt5 size5 id5 N5 (.slice a5 m5 cc5); have HX5 := hdd hx5; have H5 := hdd h5; have HR5 := hdd hr5; have HK5 := hdd hk5; have HF5 := hdd (HFD.out.call hk5); clear hx5 h5 hr5 hk5; obtain ⟨hR1, hR2, hR3⟩ := HF5.out.still (n0, sVal, 34) (by simp); have HRR := hdd hR2; obtain ⟨p0, p1, p2, p3, p4, p5, p6⟩ := got_cells HF5.out.vb.blk; obtain ⟨r0, r1, r2, r3, r4, r5, r6⟩ := got_cells hR2; obtain ⟨z0, z1, z2, z3, z4, z5, z6⟩ := got_free hR2; clear hR1 hR2 hR3))
     all_goals
      go_wp2_with fail
      have hk9 := sval_keep (M := fun i => n0 = i) (Keep.refl _ w5) (R := n0) (fun _ => rfl) (.int .i64 14) (.int .i64 0) (.slice none 0 0) (.int .i64 0) (.int .i64 t) (.slice none 0 0) (.slice La Lm Lc)
      refine ret_cell2 (U := n0) (T := 34) Tryz.results92 rfl rfl rfl (sval_set HRR.out (.int .i64 14) (.int .i64 0) (.slice none 0 0) (.int .i64 0) (.int .i64 t) (.slice none 0 0) (.slice La Lm Lc)) Tryz.underlying34 sval_size ?_
      obtain ⟨q1, q2, q3⟩ := HF5.out.still (n0, sVal, 34) (by simp)
      obtain ⟨j1, j2⟩ := ok.turn H5.out hk9 (fun i e => by subst e; exact q3)
      have e1 : res = (0, r.pr.leS s1, .mk 14 0 [] 0 t [] vs) := by
       have e2 : tot = (0, s1, vs) := by rw [← HGS.out]; rfl
       rw [HRT.out, e2]
       exact rgend_ok rfl
      rw [e1]
      refine ⟨14, 0, none, 0, 0, 0, t, none, 0, 0, La, Lm, Lc, y5, rfl, HX5.out, ⟨s5, j1, HR5.out⟩, Kpt.turned HF5.out.kp hk9 (fun i e => by subst e; exact q1) j2, fun hz => ?_⟩
      have hv := HF5.out.vb.val (by simp)
      exact (hv.keep hk9 (fun i hi e => hi.2.1 (n0, sVal, 34) (by simp) e.symm)).weak (fun i _ hi => ⟨hi.1, fun q => hi.2.2 (j2 i q)⟩)
 ·have HZ := hdd hz
  have H2 := hdd hr2
  clear hv hr2
  go_wp2_with fail
  have hk3 : Keep (fun _ => False) w2 (w2.alloc (.cells (gotA x t kt n idn N' (.slice a m cc)) 107 (0, 0))) := (Keep.refl _ w2).alloc _
  have hG3 := heap_alloc_new w2 (.cells (gotA x t kt n idn N' (.slice a m cc)) 107 (0, 0))
  obtain ⟨G, hG⟩ : ∃ G, w2.heap.size = G := ⟨_, rfl⟩
  rw [hG] at hG3 ⊢
  generalize w2.alloc (.cells (gotA x t kt n idn N' (.slice a m cc)) 107 (0, 0)) = w3 at *
  have hR3 := (hk3.block n0 (lt_of_heap HR2.out) (fun x => x)).trans HR2.out
  have hltR := lt_of_heap HR2.out
  have hne3 : ¬ n0 = G := by omega
  have hne4 : ¬ G = n0 := by omega
  have HK3 := hdd hk3
  have HR3 := hdd hR3
  obtain ⟨u0, u1, u2, u3, u4, u5, u6⟩ := got_cells hG3
  obtain ⟨r0, r1, r2, r3, r4, r5, r6⟩ := got_cells hR3
  obtain ⟨z0, z1, z2, z3, z4, z5, z6⟩ := got_free hR3
  clear hk3 hG3 hR3 hG
  go_region
  all_goals
   go_wp2_with fail
   have hk9 := sval_keep (M := fun i => n0 = i) (HK3.out.weak (fun _ _ e => e.elim)) (R := n0) (fun _ => rfl) (.int .i64 0) (.int .i64 0) (.slice none 0 0) (.int .i64 0) (.int .i64 0) (.slice none 0 0) (.slice none 0 0)
   have hR9 := sval_set HR3.out (.int .i64 0) (.int .i64 0) (.slice none 0 0) (.int .i64 0) (.int .i64 0) (.slice none 0 0) (.slice none 0 0)
   generalize ((((((w3.setCell ⟨n0, 0, none⟩ (.int .i64 0)).setCell ⟨n0, 1, none⟩ (.int .i64 0)).setCell ⟨n0, 2, none⟩ (.slice none 0 0)).setCell ⟨n0, 3, none⟩ (.int .i64 0)).setCell ⟨n0, 4, none⟩ (.int .i64 0)).setCell ⟨n0, 5, none⟩ (.slice none 0 0)).setCell ⟨n0, 6, none⟩ (.slice none 0 0) = w9 at *
   have hR10 : w9.drew.heap[n0]? = some (.cells sVal 34 (0, 0)) := hR9
   have hk10 := hk9.drew
   refine ret_cell2 (U := n0) (T := 34) Tryz.results92 rfl rfl rfl hR10 Tryz.underlying34 sval_size ?_
   have hn0 := HN.out
   obtain ⟨j1, j2⟩ := ok.turn h2 hk10 (fun i e => by subst e; exact HNR.out)
   refine ⟨0, 0, none, 0, 0, 0, 0, none, 0, 0, none, 0, 0, x, rfl, ?_, ⟨s2, j1, fun hh => absurd hh HZ.out⟩, Kpt.turned ((ok.kept hR hk0).then HK.out) hk10 (fun i e => by omega) j2, fun hh => absurd hh HZ.out⟩
   have hX := HX.out
   by_cases hq : r.pr.lK s = 0
   ·have := HZ.out
    unfold Sk at hX ⊢; omega
   ·have e1 : res = (r.pr.lK s, r.pr.lS s, V.zero) := by
     rw [← HRES.out]
     simp [gt, isSc, hq]
    rw [e1]; exact hX
end
theorem rgpairs_ok {σ : Type} {f g : σ → Int × σ × V} {n : Nat} {s : σ} {l : List V} (h : (f s).1 = 0) (h2 : (g (f s).2.1).1 = 0) : gpairs f g (n + 1) s l = gpairs f g n (g (f s).2.1).2.1 (l ++ [(f s).2.2] ++ [(g (f s).2.1).2.2]) := by
 simp only [gpairs]
 rw [if_pos h, if_pos h2]
 try simp
theorem rgpairs_bad1 {σ : Type} {f g : σ → Int × σ × V} {n : Nat} {s : σ} {l : List V} (h : ¬ (f s).1 = 0) : gpairs f g (n + 1) s l = ((f s).1, (f s).2.1, l) := by
 simp only [gpairs]
 rw [if_neg h]
theorem rgpairs_bad2 {σ : Type} {f g : σ → Int × σ × V} {n : Nat} {s : σ} {l : List V} (h : (f s).1 = 0) (h2 : ¬ (g (f s).2.1).1 = 0) : ∃ l', gpairs f g (n + 1) s l = ((g (f s).2.1).1, (g (f s).2.1).2.1, l') := by
 simp only [gpairs]
 rw [if_pos h, if_neg h2]
 exact ⟨_, rfl⟩
section
variable {σ : Type} {r : Rdr σ} {s : σ} {w : World}
set_option maxRecDepth 100000 in
theorem Rdr.get_map (ok : r.Ok) (d : Nat) (ih : r.Gets d) (deep : Int) (hdq : deep.toNat = d + 1) (hd : 0 < deep) (hhi : deep ≤ 9223372036854775807) (hR : r.Inv s w) (hroom : r.pr.Room s) :
  Calls Tryz.prog 92 #[.pointer (some ⟨r.R, 0, none⟩), .int .i64 13, .int .i64 deep] w (r.GetP (d + 1) w (gt r.pr (d + 1) 13 s)) := by
 obtain ⟨res, hres⟩ : ∃ res, gt r.pr (d + 1) 13 s = res := ⟨_, rfl⟩
 rw [hres]
 have HRES := hdd hres
 have HRM := hdd hroom
 have hd1 : (deep - 1).toNat = d := by omega
 have HD := hdd hd1
 have HDD := hdd hdq
 clear hres hroom hd1 hdq
 have hk0 : Keep (fun _ => False) w (w.alloc (.cells sVal 34 (0, 0))) := (Keep.refl _ w).alloc _
 have hR0 := heap_alloc_new w (.cells sVal 34 (0, 0))
 have hs0 : (w.alloc (.cells sVal 34 (0, 0))).heap.size = w.heap.size + 1 := by simp
 have HST := hdd (fun W (hW : r.Inv s W) => (ok.m hW : Calls _ _ _ W _))
 go_enter Tryz.func92, Tryz.ntmps92
 go_wp2_with fail
 obtain ⟨n0, hn⟩ : ∃ n0, w.heap.size = n0 := ⟨_, rfl⟩
 rw [hn] at hR0 hs0 ⊢
 generalize w.alloc (.cells sVal 34 (0, 0)) = w1 at *
 have HN := hdd hn
 have HR0 := hdd hR0
 have HS0 := hdd hs0
 clear hn hR0 hs0
 refine (spec_many 13 w1).mono ?_
 rintro e w' ⟨rfl, rfl⟩
 rw [show manyOf 13 = 7 by decide]
 go_wp2_with fail
 refine (HST.out w1 (ok.fresh hR hk0)).mono ?_
 rintro e w2 ⟨x, t, kt, n, idn, N', S', rfl, ⟨a, m, cc, rfl⟩, hx, ⟨s2, h2, hr2⟩, hk, hv⟩
 have hmn := ok.new hR hk0
 have hs1 := HS0.out
 have hN := HN.out
 have hR2 := (hk.block n0 (by omega) (hmn _ (by omega))).trans HR0.out
 have hnR := hk.not (i := n0) (by omega) (hmn _ (by omega))
 have HK := hdd hk
 have HX := hdd hx
 have HNR := hdd hnR
 have HR2 := hdd hR2
 clear hk hx hmn hs1 hN hR2 hnR
 by_cases hz : x = 0
 ·subst hz
  have hK : r.pr.mK s = 0 := Sk.zero HX.out
  obtain ⟨ht, hkt, hn, _⟩ := hv rfl
  obtain rfl := hr2 rfl
  have HZ := hdd hK
  have HTT := hdd ht
  have HKT := hdd hkt
  have HNN := hdd hn
  clear hv hr2 ht hkt hn hK
  by_cases hbig : 100000 < n
  ·have e0 : res = (52, r.pr.mS s, V.zero) := by
    rw [← HRES.out]
    have hb2 : r.pr.mN s > 100000 := by rw [← HNN.out]; omega
    simp [gt, isSc, HZ.out, hb2]
   have E0 := hdd e0
   clear e0
   have hltR := lt_of_heap HR2.out
   go_wp2_with (with_reducible refine rList_named 29 rfl ?_)
   intro w3 hw3
   have hk3 : Keep (fun _ => False) w2 w3 := by rw [← hw3]; exact (Keep.refl _ w2).alloc _
   have hR3 := (hk3.block n0 hltR (fun x => x)).trans HR2.out
   clear hw3
   have HK3 := hdd hk3
   have HR3 := hdd hR3
   obtain ⟨r0, r1, r2, r3, r4, r5, r6⟩ := got_cells hR3
   obtain ⟨z0, z1, z2, z3, z4, z5, z6⟩ := got_free hR3
   clear hk3 hR3
   go_wp2_with fail
   have hk9 := sval_keep (M := fun i => n0 = i) (HK3.out.weak (fun _ _ e => e.elim)) (R := n0) (fun _ => rfl) (.int .i64 0) (.int .i64 0) (.slice none 0 0) (.int .i64 0) (.int .i64 0) (.slice none 0 0) (.slice none 0 0)
   refine ret_cell2 (U := n0) (T := 34) Tryz.results92 rfl rfl rfl (sval_set HR3.out (.int .i64 0) (.int .i64 0) (.slice none 0 0) (.int .i64 0) (.int .i64 0) (.slice none 0 0) (.slice none 0 0)) Tryz.underlying34 sval_size ?_
   have hn0 := HN.out
   obtain ⟨j1, j2⟩ := ok.turn h2 hk9 (fun i e => by subst e; exact HNR.out)
   rw [E0.out]
   exact ⟨0, 0, none, 0, 0, 0, 0, none, 0, 0, none, 0, 0, 52, rfl, .inr (.inr rfl), ⟨_, j1, fun hh => by cases hh⟩, Kpt.turned ((ok.kept hR hk0).then HK.out) hk9 (fun i e => by omega) j2, fun hh => by cases hh⟩
  ·obtain ⟨tot, htot⟩ : ∃ tot, gpairs (gt r.pr d kt) (gt r.pr d t) n.toNat (r.pr.mS s) [] = tot := ⟨_, rfl⟩
   have hrt : res = gend r.pr.meS (fun l => .mk 13 0 [] kt t [] l) tot := by
    rw [← HRES.out, ← htot, HTT.out, HKT.out, HNN.out]
    have hb2 : ¬ r.pr.mN s > 100000 := by rw [← HNN.out]; omega
    simp [gt, isSc, HZ.out, hb2]
   have HT := hdd htot
   have HRT := hdd hrt
   clear htot hrt
   go_wp2_with fail
   have hk3 : Keep (fun _ => False) w2 ((w2.alloc (.cells (gotA 0 t kt n 0 0 (.slice a m cc)) 107 (0, 0))).alloc (.cells (valC 13 0 nilB kt t (.slice none 0 0) (.slice none 0 0)) 34 (0, 0))) := ((Keep.refl _ w2).alloc _).alloc _
   have hG4 : ((w2.alloc (.cells (gotA 0 t kt n 0 0 (.slice a m cc)) 107 (0, 0))).alloc (.cells (valC 13 0 nilB kt t (.slice none 0 0) (.slice none 0 0)) 34 (0, 0))).heap[w2.heap.size]? = some (.cells (gotA 0 t kt n 0 0 (.slice a m cc)) 107 (0, 0)) := (Below.heap_alloc _ _ _ (by simp)).trans (heap_alloc_new w2 _)
   have hU4 : ((w2.alloc (.cells (gotA 0 t kt n 0 0 (.slice a m cc)) 107 (0, 0))).alloc (.cells (valC 13 0 nilB kt t (.slice none 0 0) (.slice none 0 0)) 34 (0, 0))).heap[w2.heap.size + 1]? = some (.cells (valC 13 0 nilB kt t (.slice none 0 0) (.slice none 0 0)) 34 (0, 0)) := heap_alloc_at (by simp) _
   have hs4 : ((w2.alloc (.cells (gotA 0 t kt n 0 0 (.slice a m cc)) 107 (0, 0))).alloc (.cells (valC 13 0 nilB kt t (.slice none 0 0) (.slice none 0 0)) 34 (0, 0))).heap.size = w2.heap.size + 2 := by simp
   generalize (w2.alloc (.cells (gotA 0 t kt n 0 0 (.slice a m cc)) 107 (0, 0))).alloc (.cells (valC 13 0 nilB kt t (.slice none 0 0) (.slice none 0 0)) 34 (0, 0)) = w4 at *
   have hR4 := (hk3.block n0 (lt_of_heap HR2.out) (fun x => x)).trans HR2.out
   have hltR := lt_of_heap HR2.out
   obtain ⟨G, hG⟩ : ∃ G, w2.heap.size = G := ⟨_, rfl⟩
   rw [hG] at hG4 hU4 hs4 hltR ⊢
   have HG := hdd hG
   have HK3 := hdd hk3
   have HG4 := hdd hG4
   have HU4 := hdd hU4
   have HS4 := hdd hs4
   have HR4 := hdd hR4
   clear hG hk3 hG4 hU4 hs4 hR4
   go_loopg [10] n.toNat (fun k v wr => r.GRel w (G + 1) [(n0, sVal, 34), (G, gotA 0 t kt n 0 0 (.slice a m cc), 107)] d 13 kt t (fun q l k => gpairs (gt r.pr d kt) (gt r.pr d t) k q l) n 2 tot k v wr)
   case atStart =>
    have hN := HN.out
    have hs1 := HS0.out
    have hsz := HK.out.size
    have hG := HG.out
    have hs4 := HS4.out
    have hnew := ok.new h2 HK3.out
    have hkp := ((ok.kept hR hk0).then HK.out).then (ok.kept h2 HK3.out)
    have hm4 : ∀ i, r.M w4 i → r.M w2 i := (ok.turn h2 HK3.out (fun _ x => x.elim)).2
    refine ⟨0, _, [], _, [], rfl, by omega, by rw [Int.sub_zero], by simp, ok.fresh h2 HK3.out, ⟨hkp, vb_start HU4.out ⟨by omega, ?_, hnew _ (by omega)⟩ (fun i x => x.1), ?_⟩, by show gpairs _ _ _ _ _ = _; exact HT.out, ?_⟩
    ·intro p hp
     simp only [List.mem_cons, List.not_mem_nil, or_false] at hp
     rcases hp with rfl | rfl
     ·show G + 1 ≠ n0; omega
     ·show G + 1 ≠ G; omega
    ·intro p hp
     simp only [List.mem_cons, List.not_mem_nil, or_false] at hp
     rcases hp with rfl | rfl
     ·exact ⟨by show w.heap.size ≤ n0; omega, HR4.out, fun q => HNR.out (hm4 _ q)⟩
     ·exact ⟨by show w.heap.size ≤ G; omega, HG4.out, hnew _ (by show w2.heap.size ≤ G; omega)⟩
    ·have a1 := ok.pr.m s HZ.out
     have a2 := ok.pr.dm s HZ.out
     have a3 : _ + _ < _ := HRM.out
     show _ + _ < _
     omega
   case round =>
    obtain ⟨i, s1, vs, lv, rows, rfl, hi0, hk, hvl, hi1, hfr, hgs, hrm⟩ := hrel
    obtain ⟨hG1, hG2, hG3⟩ := hfr.still (G, gotA 0 t kt n 0 0 (.slice a m cc), 107) (by simp)
    obtain ⟨u0, u1, u2, u3, u4, u5, u6⟩ := got_cells hG2
    by_cases hin : i < n
    ·cases gk with
     | zero => omega
     | succ k =>
     have HK9 := hdd hk
     have HGS := hdd hgs
     have HFR := hdd hfr
     have HVL := hdd hvl
     clear hk hgs hfr hvl hG1 hG2 hG3
     go_wp2_with fail
     refine (ih (deep - 1) kt s1 wr HD.out (by omega) (by omega) hi1 hrm).mono ?_
     rintro e w3 ⟨T', N9, Sa, Sm, Sc, KT', E', Ia, Im, Ic, La, Lm, Lc, x3, rfl, hx3, ⟨s3, h3, hr3⟩, hk3, hval⟩
     have HF3 := hdd (HFR.out.call hk3)
     have HX3 := hdd hx3
     have HR3 := hdd hr3
     have HVAL := hdd hval
     obtain ⟨hR1, hR2, hR3⟩ := HF3.out.still (n0, sVal, 34) (by simp)
     have HRR := hdd hR2
     clear hx3 hr3 hval hk3 hR1 hR2 hR3
     by_cases hz3 : x3 = 0
     ·subst hz3
      have hs0 := Sk.zero HX3.out
      obtain rfl := HR3.out rfl
      have HSR := hdd hs0
      have hU5 := HF3.out.vb.blk
      have hUl := lt_of_heap hU5
      have hU6 := (Below.heap_alloc w3 (.cells (valC T' N9 (.slice Sa Sm Sc) KT' E' (.slice Ia Im Ic) (.slice La Lm Lc)) 34 (0, 0)) _ hUl).trans hU5
      have hne3 : ¬ G + 1 = w3.heap.size := by omega
      have hne4 : ¬ w3.heap.size = G + 1 := by omega
      obtain ⟨x0, x1, x2, x3, x4, x5, x6⟩ := got_cells hU6
      clear hs0 hU6 hU5
      obtain ⟨vi, hvi, hvz, hvs, hvb⟩ := sval_info
      have hvs1 : vs.length + 1 ≤ 200000 := by have := HVL.out; simp at this ⊢; omega
      have hnews := rnew_cells (w3.alloc (.cells (valC T' N9 (.slice Sa Sm Sc) KT' E' (.slice Ia Im Ic) (.slice La Lm Lc)) 34)) (valC T' N9 (.slice Sa Sm Sc) KT' E' (.slice Ia Im Ic) (.slice La Lm Lc)) 34
      rw [show (w3.alloc (.cells (valC T' N9 (.slice Sa Sm Sc) KT' E' (.slice Ia Im Ic) (.slice La Lm Lc)) 34)).heap.size = w3.heap.size + 1 by simp] at hnews
      have hone : ∀ u ∈ ((valC T' N9 (.slice Sa Sm Sc) KT' E' (.slice Ia Im Ic) (.slice La Lm Lc))).toList, u.oneCell' = true := by
       intro u hu
       simp only [List.mem_cons, List.not_mem_nil, or_false] at hu
       rcases hu with rfl | rfl | rfl | rfl | rfl | rfl | rfl <;> rfl
      have hb0 : w.heap.size ≤ ((w3.alloc (.cells (valC T' N9 (.slice Sa Sm Sc) KT' E' (.slice Ia Im Ic) (.slice La Lm Lc)) 34)).alloc (.cells (valC T' N9 (.slice Sa Sm Sc) KT' E' (.slice Ia Im Ic) (.slice La Lm Lc)) 34)).heap.size := by have := HF3.out.kp.size; simp; omega
      have hmx : vs.length + 1 ≤ maxLen := by simp only [maxLen]; omega
      go_wp2_with (at_builtin; refine wpList_append_own_at _ rfl (.tmp 61) (.tmp 63) 32 rfl w.heap.size 34 vi (.agg sVal) 7 104 Tryz.underlying32 hvi hvz hvs hvb rfl (by decide) lv vs.length (rows).flatten rfl ((HF3.out.vb.parts.alloc _).alloc _) ⟨w3.heap.size + 1, 0, none⟩ 1 1 ((valC T' N9 (.slice Sa Sm Sc) KT' E' (.slice Ia Im Ic) (.slice La Lm Lc))).toList rfl rfl hnews hone hmx (by omega) hb0 ?_)
      intro v' w7 hown hgrow hnil hat
      obtain ⟨va, vm, vc, rfl⟩ := rown_shape hown
      have hmn := HFR.out.mine
      have hkk : Keep (fun _ => False) w3 ((w3.alloc (.cells (valC T' N9 (.slice Sa Sm Sc) KT' E' (.slice Ia Im Ic) (.slice La Lm Lc)) 34)).alloc (.cells (valC T' N9 (.slice Sa Sm Sc) KT' E' (.slice Ia Im Ic) (.slice La Lm Lc)) 34)) := ((Keep.refl _ w3).alloc _).alloc _
      have hk7 : Keep (fun i => (lv).ownBlock = some i) w3 w7 := (hkk.weak (fun _ _ x => x.elim)).grown hgrow (fun k e _ => e)
      have hU7 := (hk7.block (G + 1) hUl HF3.out.vb.neL).trans HF3.out.vb.blk
      have hGG := (HF3.out.still (G, gotA 0 t kt n 0 0 (.slice a m cc), 107) (by simp)).2.1
      have hG7 := (hk7.block G (lt_of_heap hGG) (fun e => (hmn G (.inr (.inr e))).2.2.1 (G, gotA 0 t kt n 0 0 (.slice a m cc), 107) (by simp) rfl)).trans hGG
      have HOWN := hdd hown
      have HGROW := hdd hgrow
      have HAT := hdd hat
      have HKK := hdd hkk
      have HMN := hdd hmn
      clear x0 x1 x2 x3 x4 x5 x6 hnews hone hb0 hmx hown hgrow hat hnil hk7 hkk hmn hvi hvz hvs hvb
      obtain ⟨x0, x1, x2, x3, x4, x5, x6⟩ := got_cells hU7
      obtain ⟨y0, y1, y2, y3, y4, y5, y6⟩ := got_free hU7
      clear hU7
      have hM6 := (ok.turn h3 HKK.out (fun _ x => x.elim)).2
      obtain ⟨F8, I8⟩ := Rdr.Frame.part (x := (gt r.pr d kt s1).2.2) ok (Rdr.Frame.fresh ok HF3.out h3 HKK.out) (ok.fresh h3 HKK.out)
       (((HVAL.out (by trivial)).keep HKK.out (fun _ _ => id)).weak (fun i _ hi => ⟨fun j hj e => by have := (HMN.out j hj).2.1; have := hi.1; omega, by have := hi.1; have := HFR.out.kp.size; omega, fun p hp e => by have := lt_of_heap (HFR.out.still p hp).2.1; have := hi.1; omega, fun q => hi.2 (hM6 i q)⟩)) HOWN.out HGROW.out (by simpa using HAT.out)
      have hrN : r.pr.Room (gt r.pr d kt s1).2.1 := by
       have a1 := gt_len ok.pr d _ _ HSR.out
       have a2 := gt_dep ok.pr d _ _ HSR.out
       have a3 : _ + _ < _ := hrm
       show _ + _ < _
       omega
      have HF8 := hdd F8
      have HI8 := hdd I8
      clear F8 I8 hM6 hne3 hne4 hvs1 hUl
      clear u0 u1 u2 u3 u4 u5 u6
      obtain ⟨u0, u1, u2, u3, u4, u5, u6⟩ := got_cells hG7
      have hneG : ¬ G = G + 1 := by omega
      have hneG' : ¬ G + 1 = G := by omega
      clear hG7
      go_wp2_with fail
      generalize w7.setCell ⟨G + 1, 6, none⟩ (.slice va vm vc) = wB at *
      obtain ⟨lv1, hlv1⟩ : ∃ lv1, Value.slice va vm vc = lv1 := ⟨_, rfl⟩
      obtain ⟨cs1, hcs1⟩ : ∃ cs1, [Value.int .i64 T', Value.int .i64 N9, Value.slice Sa Sm Sc, Value.int .i64 KT', Value.int .i64 E', Value.slice Ia Im Ic, Value.slice La Lm Lc] = cs1 := ⟨_, rfl⟩
      have HFB : Hid (r.Frame w (G + 1) [(n0, sVal, 34), (G, gotA 0 t kt n 0 0 (.slice a m cc), 107)] d 13 kt t [] (vs ++ [(gt r.pr d kt s1).2.2]) (.slice none 0 0) lv1 (rows ++ [cs1]) wB) := by
       have := HF8.out
       rw [← hcs1, ← hlv1]
       exact hdd this
      have hiB := HI8.out
      have hrB := hrN
      clear hlv1 hcs1 HF8 HI8 HX3 HR3 HVAL HOWN HGROW HAT HKK HMN HF3 HRR hrN x0 x1 x2 x3 x4 x5 x6 y0 y1 y2 y3 y4 y5 y6 u0 u1 u2 u3 u4 u5 u6 hneG hneG'
      refine (ih (deep - 1) t (gt r.pr d kt s1).2.1 wB HD.out (by omega) (by omega) hiB hrB).mono ?_
      rintro e w3 ⟨T', N9, Sa, Sm, Sc, KT', E', Ia, Im, Ic, La, Lm, Lc, x3, rfl, hx3, ⟨s3, h3, hr3⟩, hk3, hval⟩
      have HF3 := hdd (HFB.out.call hk3)
      have HX3 := hdd hx3
      have HR3 := hdd hr3
      have HVAL := hdd hval
      obtain ⟨hR1, hR2, hR3⟩ := HF3.out.still (n0, sVal, 34) (by simp)
      have HRR := hdd hR2
      clear hx3 hr3 hval hk3 hR1 hR2 hR3
      by_cases hz3 : x3 = 0
      ·subst hz3
       have hs0 := Sk.zero HX3.out
       obtain rfl := HR3.out rfl
       have HSB := hdd hs0
       have hU5 := HF3.out.vb.blk
       have hUl := lt_of_heap hU5
       have hU6 := (Below.heap_alloc w3 (.cells (valC T' N9 (.slice Sa Sm Sc) KT' E' (.slice Ia Im Ic) (.slice La Lm Lc)) 34 (0, 0)) _ hUl).trans hU5
       have hne3 : ¬ G + 1 = w3.heap.size := by omega
       have hne4 : ¬ w3.heap.size = G + 1 := by omega
       obtain ⟨x0, x1, x2, x3, x4, x5, x6⟩ := got_cells hU6
       clear hs0 hU6 hU5
       obtain ⟨vi, hvi, hvz, hvs, hvb⟩ := sval_info
       have hvs1 : (vs ++ [(gt r.pr d kt s1).2.2]).length + 1 ≤ 200000 := by have := HVL.out; simp at this ⊢; omega
       have hnews := rnew_cells (w3.alloc (.cells (valC T' N9 (.slice Sa Sm Sc) KT' E' (.slice Ia Im Ic) (.slice La Lm Lc)) 34)) (valC T' N9 (.slice Sa Sm Sc) KT' E' (.slice Ia Im Ic) (.slice La Lm Lc)) 34
       rw [show (w3.alloc (.cells (valC T' N9 (.slice Sa Sm Sc) KT' E' (.slice Ia Im Ic) (.slice La Lm Lc)) 34)).heap.size = w3.heap.size + 1 by simp] at hnews
       have hone : ∀ u ∈ ((valC T' N9 (.slice Sa Sm Sc) KT' E' (.slice Ia Im Ic) (.slice La Lm Lc))).toList, u.oneCell' = true := by
        intro u hu
        simp only [List.mem_cons, List.not_mem_nil, or_false] at hu
        rcases hu with rfl | rfl | rfl | rfl | rfl | rfl | rfl <;> rfl
       have hb0 : w.heap.size ≤ ((w3.alloc (.cells (valC T' N9 (.slice Sa Sm Sc) KT' E' (.slice Ia Im Ic) (.slice La Lm Lc)) 34)).alloc (.cells (valC T' N9 (.slice Sa Sm Sc) KT' E' (.slice Ia Im Ic) (.slice La Lm Lc)) 34)).heap.size := by have := HF3.out.kp.size; simp; omega
       have hmx : (vs ++ [(gt r.pr d kt s1).2.2]).length + 1 ≤ maxLen := by simp only [maxLen]; omega
       go_wp2_with (at_builtin; refine wpList_append_own_at _ rfl (.tmp 80) (.tmp 82) 32 rfl w.heap.size 34 vi (.agg sVal) 7 104 Tryz.underlying32 hvi hvz hvs hvb rfl (by decide) lv1 (vs ++ [(gt r.pr d kt s1).2.2]).length ((rows ++ [cs1])).flatten rfl ((HF3.out.vb.parts.alloc _).alloc _) ⟨w3.heap.size + 1, 0, none⟩ 1 1 ((valC T' N9 (.slice Sa Sm Sc) KT' E' (.slice Ia Im Ic) (.slice La Lm Lc))).toList rfl rfl hnews hone hmx (by omega) hb0 ?_)
       intro v' w7 hown hgrow hnil hat
       obtain ⟨va, vm, vc, rfl⟩ := rown_shape hown
       have hmn := HFB.out.mine
       have hkk : Keep (fun _ => False) w3 ((w3.alloc (.cells (valC T' N9 (.slice Sa Sm Sc) KT' E' (.slice Ia Im Ic) (.slice La Lm Lc)) 34)).alloc (.cells (valC T' N9 (.slice Sa Sm Sc) KT' E' (.slice Ia Im Ic) (.slice La Lm Lc)) 34)) := ((Keep.refl _ w3).alloc _).alloc _
       have hk7 : Keep (fun i => (lv1).ownBlock = some i) w3 w7 := (hkk.weak (fun _ _ x => x.elim)).grown hgrow (fun k e _ => e)
       have hU7 := (hk7.block (G + 1) hUl HF3.out.vb.neL).trans HF3.out.vb.blk
       have HOWN := hdd hown
       have HGROW := hdd hgrow
       have HAT := hdd hat
       have HKK := hdd hkk
       have HMN := hdd hmn
       clear x0 x1 x2 x3 x4 x5 x6 hnews hone hb0 hmx hown hgrow hat hnil hk7 hkk hmn hvi hvz hvs hvb
       obtain ⟨x0, x1, x2, x3, x4, x5, x6⟩ := got_cells hU7
       obtain ⟨y0, y1, y2, y3, y4, y5, y6⟩ := got_free hU7
       clear hU7
       have hM6 := (ok.turn h3 HKK.out (fun _ x => x.elim)).2
       obtain ⟨F8, I8⟩ := Rdr.Frame.part (x := (gt r.pr d t (gt r.pr d kt s1).2.1).2.2) ok (Rdr.Frame.fresh ok HF3.out h3 HKK.out) (ok.fresh h3 HKK.out)
        (((HVAL.out (by trivial)).keep HKK.out (fun _ _ => id)).weak (fun i _ hi => ⟨fun j hj e => by have := (HMN.out j hj).2.1; have := hi.1; omega, by have := hi.1; have := HFB.out.kp.size; omega, fun p hp e => by have := lt_of_heap (HFB.out.still p hp).2.1; have := hi.1; omega, fun q => hi.2 (hM6 i q)⟩)) (by simpa using HOWN.out) HGROW.out (by simpa using HAT.out)
       have hrN : r.pr.Room (gt r.pr d t (gt r.pr d kt s1).2.1).2.1 := by
        have a1 := gt_len ok.pr d _ _ HSB.out
        have a2 := gt_dep ok.pr d _ _ HSB.out
        have a3 : _ + _ < _ := hrB
        show _ + _ < _
        omega
       have HF8 := hdd F8
       have HI8 := hdd I8
       clear F8 I8 hM6 hne3 hne4 hvs1 hUl
       go_wp2_with fail
       go_roundg k
       case measure => exact Nat.lt_succ_self _
       case rel =>
        refine ⟨i + 1, _, _, _, _, rfl, by omega, by have := HK9.out; omega, by have := HVL.out; simp; omega, HI8.out, HF8.out, ?_, hrN⟩
        show gpairs _ _ _ _ _ = _
        rw [← HGS.out]
        exact (rgpairs_ok HSR.out HSB.out).symm
      ·obtain ⟨x0, x1, x2, x3', x4, x5, x6⟩ := got_cells HF3.out.vb.blk
       obtain ⟨r0, r1, r2, r3, r4, r5, r6⟩ := got_cells HRR.out
       obtain ⟨z0, z1, z2, z3, z4, z5, z6⟩ := got_free HRR.out
       obtain ⟨Ma, Mm, Mc, hMe⟩ := rown_shape HFB.out.vb.parts
       have HZ3 := hdd hz3
       have hUl := lt_of_heap HF3.out.vb.blk
       have hRl := lt_of_heap HRR.out
       go_wp2_with (with_reducible refine rList_named 77 rfl ?_)
       intro w5 hw5
       have hk5 : Keep (fun _ => False) w3 w5 := by rw [← hw5]; exact (Keep.refl _ w3).alloc _
       have hU5 := (hk5.block (G + 1) hUl (fun x => x)).trans HF3.out.vb.blk
       have hR5 := (hk5.block n0 hRl (fun x => x)).trans HRR.out
       rw [hMe] at hU5
       clear hw5 x0 x1 x2 x3' x4 x5 x6 r0 r1 r2 r3 r4 r5 r6 z0 z1 z2 z3 z4 z5 z6
       have HK5 := hdd hk5
       have HR5 := hdd hR5
       obtain ⟨x0, x1, x2, x3', x4, x5, x6⟩ := got_cells hU5
       obtain ⟨r0, r1, r2, r3, r4, r5, r6⟩ := got_cells hR5
       obtain ⟨z0, z1, z2, z3, z4, z5, z6⟩ := got_free hR5
       clear hU5 hR5 hk5
       go_wp2_with fail
       have hk9 := sval_keep (M := fun i => n0 = i) (HK5.out.weak (fun _ _ e => e.elim)) (R := n0) (fun _ => rfl) (.int .i64 13) (.int .i64 0) (.slice none 0 0) (.int .i64 kt) (.int .i64 t) (.slice none 0 0) (.slice Ma Mm Mc)
       refine ret_cell2 (U := n0) (T := 34) Tryz.results92 rfl rfl rfl (sval_set HR5.out (.int .i64 13) (.int .i64 0) (.slice none 0 0) (.int .i64 kt) (.int .i64 t) (.slice none 0 0) (.slice Ma Mm Mc)) Tryz.underlying34 sval_size ?_
       obtain ⟨q1, q2, q3⟩ := HF3.out.still (n0, sVal, 34) (by simp)
       obtain ⟨j1, j2⟩ := ok.turn h3 hk9 (fun i e => by subst e; exact q3)
       refine ⟨13, 0, none, 0, 0, kt, t, none, 0, 0, Ma, Mm, Mc, x3, rfl, ?_, ⟨s3, j1, fun hh => absurd hh HZ3.out⟩, Kpt.turned HF3.out.kp hk9 (fun i e => by subst e; exact q1) j2, fun hh => absurd hh HZ3.out⟩
       have hX := HX3.out
       by_cases hq : (gt r.pr d t (gt r.pr d kt s1).2.1).1 = 0
       ·have := HZ3.out
        unfold Sk at hX ⊢; omega
       ·have e1 : res = ((gt r.pr d t (gt r.pr d kt s1).2.1).1, (gt r.pr d t (gt r.pr d kt s1).2.1).2.1, V.zero) := by
         rw [HRT.out, ← HGS.out]
         obtain ⟨l9, e9⟩ := rgpairs_bad2 (n := k) (l := vs) HSR.out hq
         show gend _ _ (gpairs _ _ _ _ _) = _
         rw [e9]
         exact rgend_bad hq
        rw [e1]; exact hX
     ·obtain ⟨x0, x1, x2, x3', x4, x5, x6⟩ := got_cells HF3.out.vb.blk
      obtain ⟨r0, r1, r2, r3, r4, r5, r6⟩ := got_cells HRR.out
      obtain ⟨z0, z1, z2, z3, z4, z5, z6⟩ := got_free HRR.out
      obtain ⟨Ma, Mm, Mc, hMe⟩ := rown_shape HFR.out.vb.parts
      have HZ3 := hdd hz3
      have hUl := lt_of_heap HF3.out.vb.blk
      have hRl := lt_of_heap HRR.out
      go_wp2_with (with_reducible refine rList_named 58 rfl ?_)
      intro w5 hw5
      have hk5 : Keep (fun _ => False) w3 w5 := by rw [← hw5]; exact (Keep.refl _ w3).alloc _
      have hU5 := (hk5.block (G + 1) hUl (fun x => x)).trans HF3.out.vb.blk
      have hR5 := (hk5.block n0 hRl (fun x => x)).trans HRR.out
      rw [hMe] at hU5
      clear hw5 x0 x1 x2 x3' x4 x5 x6 r0 r1 r2 r3 r4 r5 r6 z0 z1 z2 z3 z4 z5 z6
      have HK5 := hdd hk5
      have HR5 := hdd hR5
      obtain ⟨x0, x1, x2, x3', x4, x5, x6⟩ := got_cells hU5
      obtain ⟨r0, r1, r2, r3, r4, r5, r6⟩ := got_cells hR5
      obtain ⟨z0, z1, z2, z3, z4, z5, z6⟩ := got_free hR5
      clear hU5 hR5 hk5
      go_wp2_with fail
      have hk9 := sval_keep (M := fun i => n0 = i) (HK5.out.weak (fun _ _ e => e.elim)) (R := n0) (fun _ => rfl) (.int .i64 13) (.int .i64 0) (.slice none 0 0) (.int .i64 kt) (.int .i64 t) (.slice none 0 0) (.slice Ma Mm Mc)
      refine ret_cell2 (U := n0) (T := 34) Tryz.results92 rfl rfl rfl (sval_set HR5.out (.int .i64 13) (.int .i64 0) (.slice none 0 0) (.int .i64 kt) (.int .i64 t) (.slice none 0 0) (.slice Ma Mm Mc)) Tryz.underlying34 sval_size ?_
      obtain ⟨q1, q2, q3⟩ := HF3.out.still (n0, sVal, 34) (by simp)
      obtain ⟨j1, j2⟩ := ok.turn h3 hk9 (fun i e => by subst e; exact q3)
      refine ⟨13, 0, none, 0, 0, kt, t, none, 0, 0, Ma, Mm, Mc, x3, rfl, ?_, ⟨s3, j1, fun hh => absurd hh HZ3.out⟩, Kpt.turned HF3.out.kp hk9 (fun i e => by subst e; exact q1) j2, fun hh => absurd hh HZ3.out⟩
      have hX := HX3.out
      by_cases hq : (gt r.pr d kt s1).1 = 0
      ·have := HZ3.out
       unfold Sk at hX ⊢; omega
      ·have e1 : res = ((gt r.pr d kt s1).1, (gt r.pr d kt s1).2.1, V.zero) := by
        rw [HRT.out, ← HGS.out]
        show gend _ _ (gpairs _ _ _ _ _) = _
        rw [rgpairs_bad1 hq]
        exact rgend_bad hq
       rw [e1]; exact hX
    ·have hgk : gk = 0 := by omega
     subst hgk
     obtain ⟨La, Lm, Lc, rfl⟩ := rown_shape hfr.vb.parts
     have HGS := hdd hgs
     have HFD := hdd (Rdr.Frame.fresh ok hfr hi1 ((Keep.refl (fun _ => False) wr).drew))
     have HI := hdd (ok.fresh hi1 ((Keep.refl (fun _ => False) wr).drew))
     have HSE := hdd (ok.me HI.out : Calls _ _ _ wr.drew _)
     obtain ⟨x0, x1, x2, x3, x4, x5, x6⟩ := got_cells hfr.vb.blk
     clear hk hgs hfr hG1 hG2 hG3 hvl
     go_wp2_with fail
     go_region_with (first | (go_at_call 115; refine (spec_many 13 _).mono ?_; rintro e w' ⟨rfl, rfl⟩; rw [show manyOf 13 = 7 by decide]) | (go_at_call 63; refine HSE.out.mono ?_; rintro e w5 ⟨y5, t5, kt5, size5, id5, N5, S5, rfl, ⟨a5, m5, cc5, rfl⟩, hx5, ⟨s5, h5, hr5⟩, hk5, _⟩; have hf := got_field0 y5 t5 kt5 size5 id5 N5 (.slice a5 m5 cc5); have HX5 := hdd hx5; have H5 := hdd h5; have HR5 := hdd hr5; have HK5 := hdd hk5; have HF5 := hdd (HFD.out.call hk5); clear hx5 h5 hr5 hk5; obtain ⟨hR1, hR2, hR3⟩ := HF5.out.still (n0, sVal, 34) (by simp); have HRR := hdd hR2; obtain ⟨p0, p1, p2, p3, p4, p5, p6⟩ := got_cells HF5.out.vb.blk; obtain ⟨r0, r1, r2, r3, r4, r5, r6⟩ := got_cells hR2; obtain ⟨z0, z1, z2, z3, z4, z5, z6⟩ := got_free hR2; clear hR1 hR2 hR3))
     all_goals
      go_wp2_with fail
      have hk9 := sval_keep (M := fun i => n0 = i) (Keep.refl _ w5) (R := n0) (fun _ => rfl) (.int .i64 13) (.int .i64 0) (.slice none 0 0) (.int .i64 kt) (.int .i64 t) (.slice none 0 0) (.slice La Lm Lc)
      refine ret_cell2 (U := n0) (T := 34) Tryz.results92 rfl rfl rfl (sval_set HRR.out (.int .i64 13) (.int .i64 0) (.slice none 0 0) (.int .i64 kt) (.int .i64 t) (.slice none 0 0) (.slice La Lm Lc)) Tryz.underlying34 sval_size ?_
      obtain ⟨q1, q2, q3⟩ := HF5.out.still (n0, sVal, 34) (by simp)
      obtain ⟨j1, j2⟩ := ok.turn H5.out hk9 (fun i e => by subst e; exact q3)
      have e1 : res = (0, r.pr.meS s1, .mk 13 0 [] kt t [] vs) := by
       have e2 : tot = (0, s1, vs) := by rw [← HGS.out]; rfl
       rw [HRT.out, e2]
       exact rgend_ok rfl
      rw [e1]
      refine ⟨13, 0, none, 0, 0, kt, t, none, 0, 0, La, Lm, Lc, y5, rfl, HX5.out, ⟨s5, j1, HR5.out⟩, Kpt.turned HF5.out.kp hk9 (fun i e => by subst e; exact q1) j2, fun hz => ?_⟩
      have hv := HF5.out.vb.val (by simp)
      exact (hv.keep hk9 (fun i hi e => hi.2.1 (n0, sVal, 34) (by simp) e.symm)).weak (fun i _ hi => ⟨hi.1, fun q => hi.2.2 (j2 i q)⟩)
 ·have HZ := hdd hz
  have H2 := hdd hr2
  clear hv hr2
  go_wp2_with fail
  have hk3 : Keep (fun _ => False) w2 (w2.alloc (.cells (gotA x t kt n idn N' (.slice a m cc)) 107 (0, 0))) := (Keep.refl _ w2).alloc _
  have hG3 := heap_alloc_new w2 (.cells (gotA x t kt n idn N' (.slice a m cc)) 107 (0, 0))
  obtain ⟨G, hG⟩ : ∃ G, w2.heap.size = G := ⟨_, rfl⟩
  rw [hG] at hG3 ⊢
  generalize w2.alloc (.cells (gotA x t kt n idn N' (.slice a m cc)) 107 (0, 0)) = w3 at *
  have hR3 := (hk3.block n0 (lt_of_heap HR2.out) (fun x => x)).trans HR2.out
  have hltR := lt_of_heap HR2.out
  have hne3 : ¬ n0 = G := by omega
  have hne4 : ¬ G = n0 := by omega
  have HK3 := hdd hk3
  have HR3 := hdd hR3
  obtain ⟨u0, u1, u2, u3, u4, u5, u6⟩ := got_cells hG3
  obtain ⟨r0, r1, r2, r3, r4, r5, r6⟩ := got_cells hR3
  obtain ⟨z0, z1, z2, z3, z4, z5, z6⟩ := got_free hR3
  clear hk3 hG3 hR3 hG
  go_region
  all_goals
   go_wp2_with fail
   have hk9 := sval_keep (M := fun i => n0 = i) (HK3.out.weak (fun _ _ e => e.elim)) (R := n0) (fun _ => rfl) (.int .i64 0) (.int .i64 0) (.slice none 0 0) (.int .i64 0) (.int .i64 0) (.slice none 0 0) (.slice none 0 0)
   have hR9 := sval_set HR3.out (.int .i64 0) (.int .i64 0) (.slice none 0 0) (.int .i64 0) (.int .i64 0) (.slice none 0 0) (.slice none 0 0)
   generalize ((((((w3.setCell ⟨n0, 0, none⟩ (.int .i64 0)).setCell ⟨n0, 1, none⟩ (.int .i64 0)).setCell ⟨n0, 2, none⟩ (.slice none 0 0)).setCell ⟨n0, 3, none⟩ (.int .i64 0)).setCell ⟨n0, 4, none⟩ (.int .i64 0)).setCell ⟨n0, 5, none⟩ (.slice none 0 0)).setCell ⟨n0, 6, none⟩ (.slice none 0 0) = w9 at *
   have hR10 : w9.drew.heap[n0]? = some (.cells sVal 34 (0, 0)) := hR9
   have hk10 := hk9.drew
   refine ret_cell2 (U := n0) (T := 34) Tryz.results92 rfl rfl rfl hR10 Tryz.underlying34 sval_size ?_
   have hn0 := HN.out
   obtain ⟨j1, j2⟩ := ok.turn h2 hk10 (fun i e => by subst e; exact HNR.out)
   refine ⟨0, 0, none, 0, 0, 0, 0, none, 0, 0, none, 0, 0, x, rfl, ?_, ⟨s2, j1, fun hh => absurd hh HZ.out⟩, Kpt.turned ((ok.kept hR hk0).then HK.out) hk10 (fun i e => by omega) j2, fun hh => absurd hh HZ.out⟩
   have hX := HX.out
   by_cases hq : r.pr.mK s = 0
   ·have := HZ.out
    unfold Sk at hX ⊢; omega
   ·have e1 : res = (r.pr.mK s, r.pr.mS s, V.zero) := by
     rw [← HRES.out]
     simp [gt, isSc, hq]
    rw [e1]; exact hX
end
end Go.Proofs.YthehmlbolajljaaGreatDoor
