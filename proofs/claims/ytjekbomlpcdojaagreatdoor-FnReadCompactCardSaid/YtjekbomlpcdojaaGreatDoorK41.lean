/- Part 41 of the proof: LwRxCmp. -/
import Derived.Test.YtjekbomlpcdojaaGreatDoorK36
import Derived.Test.YtjekbomlpcdojaaGreatDoorK40
set_option linter.unusedVariables false
set_option linter.unusedSimpArgs false
set_option linter.unusedSectionVars false
set_option maxHeartbeats 16000000
namespace Go.Proofs.YtjekbomlpcdojaaGreatDoor
open Go Go.RowKit
set_option maxRecDepth 100000 in
theorem Cmp.law_read {E : Env} {A A2 : Nat → Prop} (p0 : Int) (c : Cfg) (hc : c.ok) (v sv : Value) (l : List UInt8) (ls : List Sg) (w : World) (hg : Glob E w) (h : BytesAt A w v l) (hS : StepsAt A2 w sv ls) :
  Calls Tryz.prog 4 #[confV p0 c, v, sv] w fun e w' => e = .returned (.bool true) ∧ Keep (fun _ => False) w w' := by
 obtain ⟨a, cc, rfl, hlb, _, _⟩ := h.cellAt'
 obtain ⟨L, hL⟩ : ∃ L, l.length = L := ⟨_, rfl⟩
 have H := hdd h
 have HS := hdd hS
 clear h hS
 rw [hL] at hlb H ⊢
 clear hL
 have hk0 : Keep (fun _ => False) w (w.alloc (.cells (confC p0 c) 23 (0, 0))) := (Keep.refl _ w).alloc _
 by_cases hm : 2147483647 < L
 ·have hm' : (2147483647 : Int) < (L : Int) := by omega
  go_enter Tryz.func4, Tryz.ntmps4
  go_wp2_with fail
  go_ret
  exact ⟨rfl, hk0⟩
 ·have hm' : ¬ (2147483647 : Int) < (L : Int) := by omega
  have hp0 := heap_alloc_new w (.cells (confC p0 c) 23 (0, 0))
  go_enter Tryz.func4, Tryz.ntmps4
  go_wp2_with fail
  obtain ⟨n0, hn⟩ : ∃ n0, w.heap.size = n0 := ⟨_, rfl⟩
  rw [hn] at hp0 ⊢
  generalize w.alloc (.cells (confC p0 c) 23 (0, 0)) = w1 at *
  have HP := hdd hp0
  clear hp0 hn
  refine (zzFits3_at (HS.out.keep hk0 (fun _ _ x => x))).mono ?_
  rintro e w2 ⟨b, rfl, _, hk2⟩
  cases b with
  | false =>
   go_wp2_with fail
   go_ret
   exact ⟨rfl, hk0.then hk2⟩
  | true =>
   obtain ⟨c0, c1, c2, c3, c4, c5, c6⟩ := conf_cells7 ((hk2.block n0 (lt_of_heap HP.out) id).trans HP.out)
   go_wp2_with fail
   first
    | (refine (by_at 1 p0 c _).mono ?_; rintro e w3 ⟨rfl, hk3⟩)
    | (refine (by_at 0 p0 c _).mono ?_; rintro e w3 ⟨rfl, hk3⟩)
   have hk := (hk0.then hk2).then hk3
   go_wp2_with fail
   refine ((Cmp.pm { c with p := 0 } hc).reads_at (Cmp.pmX { c with p := 0 } hc) (E := E) _ _ l ls w3 (hg.keep hk (fun _ x => x.elim)) (H.out.keep hk (fun _ _ => id)) (HS.out.keep hk (fun _ _ x => x))).mono ?_
   rintro e w4 ⟨b, rfl, rfl, hk4⟩
   go_wp2_with fail
   go_ret
   exact ⟨rfl, hk.then hk4⟩
end Go.Proofs.YtjekbomlpcdojaaGreatDoor
