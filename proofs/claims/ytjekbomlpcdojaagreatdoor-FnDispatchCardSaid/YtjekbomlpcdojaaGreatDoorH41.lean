/- Part 41 of the proof: RwDa. -/
import Derived.Test.YtjekbomlpcdojaaGreatDoorH37
import Derived.Test.YtjekbomlpcdojaaGreatDoorH39
import Derived.Test.YtjekbomlpcdojaaGreatDoorH40
import Derived.Test.YtjekbomlpcdojaaGreatDoorCards
import Derived.SevenTiedAt
set_option linter.unusedVariables false
set_option linter.unusedSimpArgs false
set_option linter.unusedSectionVars false
set_option maxHeartbeats 16000000
namespace Go.Proofs.YtjekbomlpcdojaaGreatDoor
open Go Go.RowKit Go.ChangeShapes Go.WideShapes
set_option maxRecDepth 100000 in
theorem door_met (os : Os) (args : Array Value) : laidMetH Tryz.prog laid3 ((World.doorLaid Tryz.prog 85 os).forCall (fun _ _ => 0) ⟨#[], args, []⟩).memory :=
 laidMet_of_run' 8 (by kernel_rfl) (by kernel_rfl)
set_option maxRecDepth 100000 in
theorem dispatch_lifted (os : Os) (started : os.Started) (H : Type) (enc : TypeId × Value → H) :
  ReturnsInHanded {} Tryz.checked os 6 .any (fun w args => (Rows.fnDispatchSpec.pre enc Tryz.prog Tryz.f6 [] false w args ∧ laidMetH Tryz.prog laid3 w) ∧ sizedMet enc Tryz.prog Tryz.f6 (OpenSpec.ofChange Rows.fnDispatchSpec) false w args)
   (Rows.fnDispatchSpec.post enc Tryz.prog Tryz.f6 false true false false) := by
 refine returnsInHanded_of_change_and (C := Tryz.checked) (X := fun w _ => laidMetH Tryz.prog laid3 w) (fun _ _ _ hh h => h.of_heap hh) own0 started (by kernel_rfl) Tryz.func6
  (ChangeSpec.witness_shaped (enc := enc) (C := Tryz.checked) (os := os) (X := fun w _ => laidMetH Tryz.prog laid3 w) false (World.doorLaid Tryz.prog 85 os) #[.agg (confC 0 plainC), .slice none 0 0, .bool false, .slice none 0 0] 8 rfl (World.shaped_of_RefB (by kernel_rfl) (by kernel_rfl)) (by kernel_rfl) (by kernel_rfl) (by kernel_rfl) (door_met os _)) ?_
 intro W base args ds gs before hval0 hW _ hsz hL _
 have hval : ∀ (j : Nat) t v, Tryz.f6.params[j]? = some t → args[j]? = some v → Value.okWide Tryz.prog W .any base t v := hval0
 have hW' := hW
 obtain ⟨p, q, hA0, hV, rfl, hfz, hnd⟩ := hW
 have hA : DataW.TrodAll enc Tryz.prog W 0 (fun _ => true) true Tryz.f6.params.toList args.toList ds p := hA0
 rw [Tryz.params6] at hA hval hsz
 obtain ⟨v0, vs0, d0, ds0, p0, q0, hargs, rfl, rfl, h0, r0⟩ := trodAll_cons hA
 obtain ⟨v1, vs1, d1, ds1, p1, q1, rfl, rfl, rfl, h1, r1⟩ := trodAll_cons r0
 obtain ⟨v2, vs2, d2, ds2, p2, q2, rfl, rfl, rfl, h2, r2⟩ := trodAll_cons r1
 obtain ⟨v3, vs3, d3, ds3, p3, q3, rfl, rfl, rfl, h3, r3⟩ := trodAll_cons r2
 obtain ⟨rfl, rfl, rfl⟩ := trodAll_nil r3
 obtain rfl : args = #[v0, v1, v2, v3] := by cases args; simp_all
 obtain ⟨rfl, rfl⟩ := trodVars_none hV
 obtain ⟨pr, c, rfl, hc, hp⟩ := open_confP (hval 0 23 v0 rfl rfl) h0
 obtain ⟨l, hl⟩ := open_bytesA (hval 3 24 v3 rfl rfl) h3 (fun elems sp e => by
  subst e
  exact sized_slice hsz (j := 3) (t := 24) rfl rfl Tryz.underlying24)
 obtain ⟨ls, hls⟩ := open_texts (hval 1 29 v1 rfl rfl) h1 (fun k hk => by
  have := List.all_eq_true.1 hsz k (DataW.weights_mem_each (j := 1) (t := 29) rfl rfl k hk)
  simpa using this)
 obtain ⟨fb, rfl⟩ := okWide_bool Tryz.underlying4 (hval 2 4 v2 rfl rfl)
 obtain ⟨E, hE, hg⟩ := env_of_laid hL
 refine (law_dispatch (E := E) pr c hp hc v3 v1 l ls fb W hg hl hls).mono fun e W' ⟨he, hk⟩ => ?_
 subst he
 have hlt : ∀ x ∈ p0 ++ (p1 ++ (p2 ++ (p3 ++ []))), x.block < W.heap.size := fun x hx => hW'.lt x (by simpa using hx)
 refine ⟨_, rfl, _, _, _, [], p0 ++ (p1 ++ (p2 ++ (p3 ++ []))), [], hW', ?_, ?_, rfl, ?_, fun h => by cases h⟩
 ·exact trodAll_mk1 (shut_bool Tryz.underlying4 true)
 ·exact trodAll_cons_mk (re_read (by kernel_rfl) (of_decide_eq_true (by kernel_rfl)) h0 hk (fun x hx => hlt x (by simp [hx]))) (trodAll_cons_mk (re_read (by kernel_rfl) (of_decide_eq_true (by kernel_rfl)) h1 hk (fun x hx => hlt x (by simp [hx]))) (trodAll_cons_mk (re_read (by kernel_rfl) (of_decide_eq_true (by kernel_rfl)) h2 hk (fun x hx => hlt x (by simp [hx]))) (trodAll_cons_mk (re_read (by kernel_rfl) (of_decide_eq_true (by kernel_rfl)) h3 hk (fun x hx => hlt x (by simp [hx]))) trodAll_mk0)))
 ·exact (hk.below (Nat.le_refl _) (fun _ _ => id)).frame _
theorem dispatch_row : Rows.FnDispatchSaid :=
 OpenClaim.holds_of_wide 6 Tryz.f6 rfl rfl rfl rfl rfl rfl rfl ⟨rfl, rfl, rfl, rfl, rfl⟩ rfl rfl rfl rfl rfl dispatch_named Tryz.func6 dispatch_closed
  (of_decide_eq_true (by kernel_rfl)) (by unfold Func.isWrapper; first | (rw [if_pos (by decide +kernel)]; kernel_rfl) | (rw [if_neg (by decide +kernel)]; exact ⟨rfl, rfl⟩))
  (fun os started H enc _ => dispatch_lifted os started H enc)
end Go.Proofs.YtjekbomlpcdojaaGreatDoor
