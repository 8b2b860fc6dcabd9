/- For every input the law of taking an answer to a call returns true, and each argument reads behind the call as it read before; the listed variables (io.EOF, io.ErrUnexpectedEOF, bytes.ErrTooLarge) hold what the program's text lays (tied). -/
import Derived.Test.YthehmlbolajljaaGreatDoorQ44
import Derived.Test.YthehmlbolajljaaGreatDoorQ45
import Derived.Test.YthehmlbolajljaaGreatDoorCards
import Derived.SevenTiedAt
set_option linter.unusedVariables false
set_option linter.unusedSimpArgs false
set_option linter.unusedSectionVars false
namespace Go.Proofs.YthehmlbolajljaaGreatDoor
open Go Go.RowKit Go.ChangeShapes Go.WideShapes

set_option maxRecDepth 100000 in
theorem door_met (os : Os) (args : Array Value) : laidMetH Tryz.prog laid3 ((World.doorLaid Tryz.prog 85 os).forCall (fun _ _ => 0) ⟨#[], args, []⟩).memory :=
  laidMet_of_run' 8 (by kernel_rfl) (by kernel_rfl)

set_option maxRecDepth 100000 in
set_option maxHeartbeats 2000000 in
theorem recv_lifted (os : Os) (started : os.Started) (H : Type) (enc : TypeId × Value → H) :
    ReturnsInHanded {} Tryz.checked os 7 .any (fun w args => (Rows.fnRecvSpec.pre enc Tryz.prog Tryz.f7 [] false w args ∧ laidMetH Tryz.prog laid3 w) ∧ sizedMet enc Tryz.prog Tryz.f7 (OpenSpec.ofChange Rows.fnRecvSpec) false w args)
      (Rows.fnRecvSpec.post enc Tryz.prog Tryz.f7 false true false false) := by
  refine returnsInHanded_of_change_and (C := Tryz.checked) (X := fun w _ => laidMetH Tryz.prog laid3 w) (fun _ _ _ hh h => h.of_heap hh) own0 started (by kernel_rfl) Tryz.func7
    (ChangeSpec.witness_shaped (enc := enc) (C := Tryz.checked) (os := os) (X := fun w _ => laidMetH Tryz.prog laid3 w) false (World.doorLaid Tryz.prog 85 os) #[.agg (confC 0 plainC), .int .i32 0, .slice none 0 0, .slice none 0 0, .int .i64 0] 8 rfl (World.shaped_of_RefB (by kernel_rfl) (by kernel_rfl)) (by kernel_rfl) (by kernel_rfl) (by kernel_rfl) (door_met os _)) ?_
  intro W base args ds gs before hval0 hW _ hsz hL _
  have hval : ∀ (j : Nat) t v, Tryz.f7.params[j]? = some t → args[j]? = some v → Value.okWide Tryz.prog W .any base t v := hval0
  have hW' := hW
  obtain ⟨p, q, hA0, hV, rfl, hfz, hnd⟩ := hW
  have hA : DataW.TrodAll enc Tryz.prog W 0 (fun _ => true) true Tryz.f7.params.toList args.toList ds p := hA0
  rw [Tryz.params7] at hA hval hsz
  obtain ⟨v0, vs0, d0, ds0, p0, q0, hargs, rfl, rfl, h0, r0⟩ := trodAll_cons hA
  obtain ⟨v1, vs1, d1, ds1, p1, q1, rfl, rfl, rfl, h1, r1⟩ := trodAll_cons r0
  obtain ⟨v2, vs2, d2, ds2, p2, q2, rfl, rfl, rfl, h2, r2⟩ := trodAll_cons r1
  obtain ⟨v3, vs3, d3, ds3, p3, q3, rfl, rfl, rfl, h3, r3⟩ := trodAll_cons r2
  obtain ⟨v4, vs4, d4, ds4, p4, q4, rfl, rfl, rfl, h4, r4⟩ := trodAll_cons r3
  obtain ⟨rfl, rfl, rfl⟩ := trodAll_nil r4
  obtain rfl : args = #[v0, v1, v2, v3, v4] := by cases args; simp_all
  obtain ⟨rfl, rfl⟩ := trodVars_none hV
  obtain ⟨pr, c, rfl, hc, hp⟩ := open_confP (hval 0 23 v0 rfl rfl) h0
  obtain ⟨seq, rfl, rfl, rfl, w1⟩ := open_int Tryz.underlying21 (hval 1 21 v1 rfl rfl) h1
  obtain ⟨deep, rfl, rfl, rfl, w3⟩ := open_int Tryz.underlying3 (hval 4 3 v4 rfl rfl) h4
  obtain ⟨m, hm⟩ := open_bytesA (hval 2 24 v2 rfl rfl) h2 (fun elems sp e => by
    subst e
    exact sized_slice hsz (j := 2) (t := 24) rfl rfl Tryz.underlying24)
  obtain ⟨l, hl⟩ := open_bytesA (hval 3 24 v3 rfl rfl) h3 (fun elems sp e => by
    subst e
    exact sized_slice hsz (j := 3) (t := 24) rfl rfl Tryz.underlying24)
  obtain ⟨E, hE, hg⟩ := env_of_laid hL
  have wd := wf_i64 w3
  refine (law_recv (E := E) pr c hp hc seq deep wd.1 wd.2 v2 m v3 l W hg hm hl).mono fun e W' ⟨he, hk⟩ => ?_
  subst he
  have hlt : ∀ x ∈ p0 ++ ([] ++ (p2 ++ (p3 ++ ([] ++ [])))), x.block < W.heap.size := fun x hx => hW'.lt x (by simpa using hx)
  refine ⟨_, rfl, _, _, _, [], p0 ++ ([] ++ (p2 ++ (p3 ++ ([] ++ [])))), [], hW', ?_, ?_, rfl, ?_, fun h => by cases h⟩
  · exact trodAll_mk1 (shut_bool Tryz.underlying4 true)
  · exact trodAll_cons_mk (re_read (by kernel_rfl) (of_decide_eq_true (by kernel_rfl)) h0 hk (fun x hx => hlt x (by simp [hx]))) (trodAll_cons_mk (shut_int Tryz.underlying21 w1) (trodAll_cons_mk (re_read (by kernel_rfl) (of_decide_eq_true (by kernel_rfl)) h2 hk (fun x hx => hlt x (by simp [hx]))) (trodAll_cons_mk (re_read (by kernel_rfl) (of_decide_eq_true (by kernel_rfl)) h3 hk (fun x hx => hlt x (by simp [hx]))) (trodAll_cons_mk (shut_int Tryz.underlying3 w3) trodAll_mk0))))
  · exact (hk.below (Nat.le_refl _) (fun _ _ => id)).frame _

theorem recv_named : Tryz.pinned.checked.prog.funcNamed Rows.fnRecvRow.func = some 7 := by kernel_rfl
theorem recv_closed : joinedFacts Tryz.pinned.checked.prog 7 Tryz.f7 Rows.fnRecvSpec Rows.fnRecvRow = true := by kernel_rfl

theorem recv_row : Rows.FnRecvSaid :=
  OpenClaim.holds_of_wide 7 Tryz.f7 rfl rfl rfl rfl rfl rfl rfl ⟨rfl, rfl, rfl, rfl, rfl⟩ rfl rfl rfl rfl rfl recv_named Tryz.func7 recv_closed
    (of_decide_eq_true (by kernel_rfl)) (by unfold Func.isWrapper; first | (rw [if_pos (by decide +kernel)]; kernel_rfl) | (rw [if_neg (by decide +kernel)]; exact ⟨rfl, rfl⟩))
    (fun os started H enc _ => recv_lifted os started H enc)

/-- The given statement. -/
theorem recv_holds : Rows.FnRecvCardSaid :=
  Claim7.holds_tied_plain_at .later [] [.sentinel, .sentinel, .sentinel] true _ true
    recv_row (fun _ h => by cases h) (by kernel_rfl) (fun _ h => by cases h) fnRecv_row_tie rfl ⟨rfl, rfl⟩ (by kernel_rfl) rfl
    (fun f fn hf hfn => by
      obtain rfl : f = 7 := Option.some.inj ((show Tryz.prog.funcNamed "pub-twineward/laws.FnRecv" = some 7 by kernel_rfl).symm.trans hf) |>.symm
      obtain rfl : fn = Tryz.f7 := (Option.some.inj (Tryz.func7.symm.trans hfn)).symm
      exact ⟨by kernel_rfl, fun j t ht => by
        rw [Tryz.params7] at ht
        have h3 : t = 23 ∨ t = 3 ∨ t = 24 ∨ t = 21 := by
          rcases j with _ | _ | _ | _ | _ | j
          · exact .inl (by simpa using ht.symm)
          · exact .inr (.inr (.inr (by simpa using ht.symm)))
          · exact .inr (.inr (.inl (by simpa using ht.symm)))
          · exact .inr (.inr (.inl (by simpa using ht.symm)))
          · exact .inr (.inl (by simpa using ht.symm))
          · simp at ht
        rcases h3 with rfl | rfl | rfl | rfl
        · exact (show Tryz.prog.wantsStandIn 23 = false by kernel_rfl)
        · exact (show Tryz.prog.wantsStandIn 3 = false by kernel_rfl)
        · exact (show Tryz.prog.wantsStandIn 24 = false by kernel_rfl)
        · exact (show Tryz.prog.wantsStandIn 21 = false by kernel_rfl)⟩)
    (by kernel_rfl)
#print axioms recv_holds
end Go.Proofs.YthehmlbolajljaaGreatDoor
