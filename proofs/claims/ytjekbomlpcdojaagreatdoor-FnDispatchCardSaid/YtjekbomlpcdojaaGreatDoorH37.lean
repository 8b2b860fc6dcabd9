/- Part 37 of the proof: Ds8. -/
import Derived.Test.YtjekbomlpcdojaaGreatDoorH27
import Derived.Test.YtjekbomlpcdojaaGreatDoorH22
import Derived.Test.YtjekbomlpcdojaaGreatDoorH28
import Derived.Test.YtjekbomlpcdojaaGreatDoorH23
import Derived.Test.YtjekbomlpcdojaaGreatDoorH36
set_option linter.unusedVariables false
set_option linter.unusedSimpArgs false
set_option linter.unusedSectionVars false
set_option maxHeartbeats 16000000
namespace Go.Proofs.YtjekbomlpcdojaaGreatDoor
open Go Go.RowKit
set_option maxRecDepth 100000 in
theorem Pm.dispatch_at {St : Type} (p : Pm St) {E : Env} {A A2 : Nat → Prop} (v sv : Value) (l : List UInt8) (ls : List (List UInt8)) (fb : Bool) (w : World) (hg : Glob E w) (h : BytesAt A w v l) (hs : TextsAt A2 w sv ls) :
  Calls Tryz.prog 6 #[confV p.no p.c, sv, .bool fb, v] w fun e w' => e = .returned (.bool true) ∧ Keep (fun _ => False) w w' := by
 obtain ⟨a, cc, rfl, hlb, _, _⟩ := h.cellAt'
 obtain ⟨sa, sc, rfl, hsl, _, _⟩ := id hs
 obtain ⟨L, hL⟩ : ∃ L, l.length = L := ⟨_, rfl⟩
 obtain ⟨n, hn⟩ : ∃ n, ls.length = n := ⟨_, rfl⟩
 obtain ⟨q, hq⟩ : ∃ q, dspR (p.gK (p.st0 l)) (p.gT (p.st0 l)) (p.gB (p.st0 l)) ls fb = q := ⟨_, rfl⟩
 have HQ := hdd hq
 have H := hdd h
 have HS := hdd hs
 clear hq h hs
 rw [hL] at hlb H ⊢
 rw [hn] at hsl HS ⊢
 have HL := hdd hL
 have HN := hdd hn
 clear hL hn
 have hk0 : Keep (fun _ => False) w (w.alloc (.cells (confC p.no p.c) 23 (0, 0))) := (Keep.refl _ w).alloc _
 have hp0 := heap_alloc_new w (.cells (confC p.no p.c) 23 (0, 0))
 go_enter Tryz.func6, Tryz.ntmps6
 go_wp2_with fail
 obtain ⟨c0, hc0⟩ : ∃ c0, w.heap.size = c0 := ⟨_, rfl⟩
 rw [hc0] at hp0 ⊢
 generalize w.alloc (.cells (confC p.no p.c) 23 (0, 0)) = w1 at *
 have HK0 := hdd hk0
 have HP := hdd hp0
 clear hc0 hp0 hk0
 refine (zzFits2_at (HS.out.keep HK0.out (fun _ _ => id))).mono ?_
 rintro e w2 ⟨b, rfl, hb, hk2⟩
 have HK2 := hdd (HK0.out.then hk2)
 have HP2 := hdd ((hk2.block c0 (lt_of_heap HP.out) id).trans HP.out)
 clear hk2
 cases b
 ·go_wp2_with fail
  go_ret
  exact ⟨rfl, HK2.out⟩
 have hn31 : n ≤ 2147483647 := by have := hb rfl; have := HN.out; omega
 clear hb
 by_cases hM : 2147483647 < L
 ·have hM' : (2147483647 : Int) < (L : Int) := by omega
  go_wp2_with fail
  go_ret
  exact ⟨rfl, HK2.out⟩
 have hM' : ¬ (2147483647 : Int) < (L : Int) := by omega
 go_wp2_with fail
 refine (listBytes_at (HS.out.keep HK2.out (fun _ _ => id))).mono ?_
 rintro e w3 ⟨t, rfl, ht1, ht2, rfl⟩
 have HT1 := hdd ht1
 have HT2 := hdd ht2
 clear ht1 ht2
 by_cases hbig : 65536 < t ∨ 1024 < n ∨ 65536 < L
 ·have hknown := known_at (E := E) w2 (hg.keep HK2.out (fun _ x => x.elim))
  have HKN := hdd hknown
  clear hknown
  rcases Nat.lt_or_ge 65536 t with h1 | h1
  ·have h1' : (65536 : Int) < (t : Int) := by omega
   clear hbig
   go_wp2_with fail
   refine HKN.out.mono ?_
   rintro e w4 ⟨rfl, hk4⟩
   go_wp2_with fail
   go_ret
   exact ⟨rfl, HK2.out.then hk4⟩
  ·have h1' : ¬ (65536 : Int) < (t : Int) := by omega
   rcases Nat.lt_or_ge 1024 n with h2 | h2
   ·have h2' : (1024 : Int) < (n : Int) := by omega
    clear hbig
    go_wp2_with fail
    refine HKN.out.mono ?_
    rintro e w4 ⟨rfl, hk4⟩
    go_wp2_with fail
    go_ret
    exact ⟨rfl, HK2.out.then hk4⟩
   ·have h2' : ¬ (1024 : Int) < (n : Int) := by omega
    have h3' : (65536 : Int) < (L : Int) := by omega
    clear hbig
    go_wp2_with fail
    refine HKN.out.mono ?_
    rintro e w4 ⟨rfl, hk4⟩
    go_wp2_with fail
    go_ret
    exact ⟨rfl, HK2.out.then hk4⟩
 ·have h1' : ¬ (65536 : Int) < (t : Int) := by omega
  have h2' : ¬ (1024 : Int) < (n : Int) := by omega
  have h3' : ¬ (65536 : Int) < (L : Int) := by omega
  have hLb : L ≤ 65536 := by omega
  clear hbig
  obtain ⟨c0', c1, c2, c3, c4, c5, c6⟩ := conf_cells7 HP2.out
  go_wp2_with fail
  refine (p.impl_dispatch (E := E) _ _ l ls fb w2 (hg.keep HK2.out (fun _ x => x.elim)) (H.out.keep HK2.out (fun _ _ => id)) (HS.out.keep HK2.out (fun _ _ => id)) (by have := HL.out; omega) q HQ.out).mono ?_
  rintro e w4 ⟨na, nm, nc, kd, sq, rfl, hres, hk4⟩
  have HRES := hdd hres
  have HK4 := hdd (HK2.out.then hk4)
  have HKK4 := hdd hk4
  clear c0' c1 c2 c3 c4 c5 c6 hres
  obtain ⟨d0, d1, d2, d3, d4, d5, d6⟩ := conf_cells7 ((hk4.block c0 (lt_of_heap HP2.out) id).trans HP2.out)
  clear hk4
  go_wp2_with fail
  refine (p.spec_dispatch _ _ l ls fb w4 (H.out.keep HK4.out (fun _ _ => id)) (HS.out.keep HK4.out (fun _ _ => id)) (by have := HL.out; omega)).mono ?_
  rw [HQ.out]
  rintro e w5 ⟨who, nb, nn, nd, kd2, sq2, f, rfl, hf, hwho, hres2, hk5⟩
  have HF := hdd hf
  have HRES2 := hdd hres2
  have HK5 := hdd (HK4.out.then hk5)
  have HKK5 := hdd hk5
  have HKN := hdd (known_at (E := E) w5 (hg.keep HK5.out (fun _ x => x.elim)))
  clear hf hres2 hk5 d0 d1 d2 d3 d4 d5 d6
  by_cases hf2 : f = -2
  ·subst hf2
   clear hwho
   go_wp2_with fail
   refine HKN.out.mono ?_
   rintro e w6 ⟨rfl, hk6⟩
   go_wp2_with fail
   go_ret
   exact ⟨rfl, HK5.out.then hk6⟩
  ·have hf2' : (f == -2) = false := by simpa using hf2
   have hw := hwho hf2
   subst hw
   clear hwho
   by_cases hf0 : f = 0
   ·subst hf0
    have hq0 : q.1 = 0 := Sk.zero HF.out
    obtain ⟨rfl, rfl, A1, hb1⟩ := HRES.out hq0
    obtain ⟨rfl, rfl, A3, hb3⟩ := HRES2.out rfl
    have HEQ := hdd (equal_same (hb1.keep HKK5.out (fun _ _ => id)) hb3)
    have HF0 := hdd (sameKind_at q.1 0 HF.out w5)
    clear hb1 hb3 hq0 hf2
    go_wp2_with fail
    refine HF0.out.mono ?_
    rintro e w6 ⟨rfl, rfl⟩
    go_wp2_with fail
    refine HEQ.out.mono ?_
    rintro e w6 ⟨rfl, m, rfl⟩
    go_wp2_with fail
    refine (known_at (E := E) _ (hg.keep (HK5.out.drewN m) (fun _ x => x.elim))).mono ?_
    rintro e w7 ⟨rfl, hk7⟩
    go_wp2_with fail
    go_ret
    exact ⟨rfl, (HK5.out.drewN m).then hk7⟩
   ·have hf0' : (f != 0) = true := by simpa using hf0
    have HF0 := hdd (sameKind_at q.1 f HF.out w5)
    clear hf0 hf2
    go_wp2_with fail
    refine HF0.out.mono ?_
    rintro e w6 ⟨rfl, rfl⟩
    go_wp2_with fail
    refine HKN.out.mono ?_
    rintro e w7 ⟨rfl, hk7⟩
    go_wp2_with fail
    go_ret
    exact ⟨rfl, HK5.out.then hk7⟩
theorem law_dispatch {E : Env} {A A2 : Nat → Prop} (pr : Int) (c : Cfg) (hp : c.p = pr) (hc : c.ok) (v sv : Value) (l : List UInt8) (ls : List (List UInt8)) (fb : Bool) (w : World) (hg : Glob E w) (h : BytesAt A w v l) (hs : TextsAt A2 w sv ls) :
  Calls Tryz.prog 6 #[confV pr c, sv, .bool fb, v] w fun e w' => e = .returned (.bool true) ∧ Keep (fun _ => False) w w' := by
 by_cases h1 : pr = 1
 ·subst h1
  exact (Cmp.pm c hc).dispatch_at v sv l ls fb w hg h hs
 ·have e : Bin.no c = pr := (Cfg.b_eq (by rw [hp]; exact h1)).trans hp
  rw [← e]
  exact (Bin.pm c hc).dispatch_at v sv l ls fb w hg h hs
end Go.Proofs.YtjekbomlpcdojaaGreatDoor
