/- Part 18 of the proof: Sp13, Sp14, Sp15, Sp16, Sp17. -/
import Derived.Test.YtdmegokbfakjpaaGreatDoorA16
import Derived.Deep.LoopGhost
set_option linter.unusedVariables false
set_option linter.unusedSimpArgs false
set_option linter.unusedSectionVars false
/- The reference: passing over structs. -/
namespace Go.Proofs.YtdmegokbfakjpaaGreatDoor
open Go Go.RowKit

section
variable {R TB DT : Nat} {n : Int} {tl : List Value} {rem : List UInt8} {w : World}

/-- Ahead of each field. -/
def RFldRel (R TB DT : Nat) (K : Bin.Ctx) (n : Int) (tl : List Value) (rem : List UInt8) (w : World) (f : Int → List UInt8 → Int × List UInt8) (tot : Int × List UInt8) (k : Nat) (wr : World) : Prop :=
  ∃ s, RdP R TB DT 0 K.c n tl s wr ∧ s.length ≤ rem.length ∧ Keep (TB = ·) w wr ∧ s.length < k ∧ flds (Bin.pr K) f k s = tot

set_option maxRecDepth 100000 in
set_option maxHeartbeats 8000000 in
theorem rskip_struct (K : Bin.Ctx) (d : Nat) (ih : RSkips R TB DT K n tl d) (deep : Int) (hdd : deep.toNat = d + 1) (hd : 0 < deep) (hhi : deep ≤ 9223372036854775807) (hR : RdP R TB DT 0 K.c n tl rem w) :
    Calls Tryz.prog 37 #[.pointer (some ⟨R, 0, none⟩), .int .i64 deep] w (SkP R TB DT K.c n tl rem w (flds (Bin.pr K) (skp (Bin.pr K) d) (rem.length + 1) rem)) := by
  obtain ⟨tot, htot⟩ : ∃ tot, flds (Bin.pr K) (skp (Bin.pr K) d) (rem.length + 1) rem = tot := ⟨_, rfl⟩
  rw [htot]
  have HT := Lib.hid htot
  have HDD := Lib.hid hdd
  clear htot hdd
  have hs2 := rd_step (w := w) 2 (by omega) (by omega) (by omega) hR (fun w h => bin_op2 h)
  go_enter Tryz.func37, Tryz.ntmps37
  go_wp2_with fail
  refine hs2.mono ?_
  rintro e w2 ⟨x, t', kt, size, id, N', S', rfl, ⟨a, m, cc, rfl⟩, hx, ⟨r', hr1, hr2, hr3⟩, hk, _⟩
  have h0 : x = 0 ∨ x = -2 := by unfold Sk at hx; omega
  rcases h0 with rfl | rfl
  · obtain rfl := hr3 rfl
    clear hx hr3
    go_wp2_with fail
    go_loopg [] (r'.length + 1) (fun k wr => RFldRel R TB DT K n tl r' w (skp (Bin.pr K) d) tot k wr)
    case atStart =>
      exact ⟨_, hr1.fresh ((Keep.refl _ w2).alloc _), Nat.le_refl _, hk.then (((Keep.refl _ w2).alloc _)), Nat.lt_succ_self _, HT.out⟩
    case round =>
      obtain ⟨s1, hi1, hle1, hk1, hlt, hfl⟩ := hrel
      cases gk with
      | zero => exact absurd hlt (Nat.not_lt_zero _)
      | succ k =>
      have HF := Lib.hid hfl
      have HLT := Lib.hid hlt
      have hd1 : (deep - 1).toNat = d := by have := HDD.out; omega
      have HD := Lib.hid hd1
      clear hfl hlt hd1
      have hs4 := rd_step (w := wr) 4 (by omega) (by omega) (by omega) hi1 (fun w h => bin_op4 h)
      go_wp2_with fail
      refine hs4.mono ?_
      rintro e w3 ⟨x, t, kt, size, id, N', S', rfl, ⟨a4, m4, cc4, rfl⟩, hx, ⟨r4, h4, hl4, hr4⟩, hk4, hv⟩
      clear hs4
      by_cases hz : x = 0
      · subst hz
        obtain rfl := hr4 rfl
        have HT0 := Lib.hid (hv rfl).1
        have HZ := Lib.hid (show (Bin.pr K).fK s1 = 0 from Sk.zero hx)
        clear hx hv hr4
        by_cases ht0 : t = 0
        · subst ht0
          go_wp2_with fail
          refine (rd_step 3 (by omega) (by omega) (by omega) (h4.fresh ((Keep.refl _ _).alloc _)) (fun w h => bin_op3 h)).mono ?_
          rintro e w5 ⟨x5, t5, kt5, size5, id5, N5, S5, rfl, ⟨a5, m5, cc5, rfl⟩, hx5, ⟨r5, h5, hl5, hr5⟩, hk5, _⟩
          have hf := got_field0 x5 t5 kt5 size5 id5 N5 (.slice a5 m5 cc5)
          have HX := Lib.hid hx5
          have HR := Lib.hid hr5
          clear hx5 hr5
          go_wp2_with fail
          go_ret
          have e1 : tot = (0, fieldRem s1) := by
            rw [← HF.out]; simp only [flds]; rw [if_pos HZ.out, if_pos (show (Bin.pr K).fT s1 = 0 from HT0.out.symm)]; rfl
          rw [e1]
          exact ⟨_, rfl, HX.out, ⟨_, h5, by omega, HR.out⟩, (hk1.then hk4).then (((Keep.refl _ w3).alloc _).then hk5)⟩
        · go_wp2_with fail
          refine (ih (deep - 1) t _ _ HD.out (by omega) (by omega) (h4.fresh ((Keep.refl _ _).alloc _))).mono ?_
          rintro e w5 ⟨x5, rfl, hx5, ⟨r5, h5, hl5, hr5⟩, hk5⟩
          have hne : ¬ (Bin.pr K).fT s1 = 0 := fun hh => ht0 (HT0.out.trans hh)
          have ht' : t = (Bin.pr K).fT s1 := HT0.out
          have HX := Lib.hid hx5
          have HR := Lib.hid hr5
          have HNE := Lib.hid hne
          have HT' := Lib.hid ht'
          clear hx5 hr5 hne ht'
          by_cases hz5 : x5 = 0
          · subst hz5
            have hs0 := Sk.zero HX.out
            have hr5 := HR.out rfl
            rw [HT'.out] at hs0 hr5
            subst hr5
            have HS0 := Lib.hid hs0
            clear hs0
            go_wp2_with fail
            refine (rd_step 5 (by omega) (by omega) (by omega) h5 (fun w h => bin_op5 h)).mono ?_
            rintro e w6 ⟨x6, t6, kt6, size6, id6, N6, S6, rfl, ⟨a6, m6, cc6, rfl⟩, hx6, ⟨r6, h6, hl6, hr6⟩, hk6, _⟩
            have hx60 : x6 = 0 ∨ x6 = -2 := by unfold Sk at hx6; omega
            clear hx6
            rcases hx60 with rfl | rfl
            · obtain rfl := hr6 rfl
              clear hr6
              go_wp2_with fail
              go_roundg k
              case measure => exact Nat.lt_succ_self _
              case rel =>
                have ok := Bin.ok K
                have a2 := skp_len ok d _ _ HS0.out
                have a3 := ok.f s1 HZ.out
                have a4 := HLT.out
                have a2' : (skp (Bin.pr K) d ((Bin.pr K).fT s1) (fieldRem s1)).2.length ≤ (fieldRem s1).length := a2
                have a3' : (fieldRem s1).length < s1.length := a3
                refine ⟨_, h6.fresh ((Keep.refl _ _).alloc _), by omega, (hk1.then hk4).then ((((Keep.refl _ w3).alloc _).then hk5).then (hk6.then ((Keep.refl _ _).alloc _))), by omega, ?_⟩
                rw [← HF.out]; simp only [flds]; rw [if_pos HZ.out, if_neg HNE.out, if_pos (show (skp (Bin.pr K) d ((Bin.pr K).fT s1) ((Bin.pr K).fS s1)).1 = 0 from HS0.out)]; rfl
            · clear hr6
              go_wp2_with fail
              go_ret
              exact ⟨_, rfl, .inl rfl, ⟨_, h6.fresh ((Keep.refl _ _).alloc _), by omega, fun hh => by cases hh⟩, (hk1.then hk4).then ((((Keep.refl _ w3).alloc _).then hk5).then (hk6.then ((Keep.refl _ _).alloc _)))⟩
          · have H5 := Lib.hid hz5
            go_wp2_with fail
            go_ret
            refine ⟨_, rfl, ?_, ⟨_, h5, by omega, fun hh => absurd hh H5.out⟩, (hk1.then hk4).then (((Keep.refl _ w3).alloc _).then hk5)⟩
            have hX := HX.out
            rw [HT'.out] at hX
            by_cases hq : (skp (Bin.pr K) d ((Bin.pr K).fT s1) (fieldRem s1)).1 = 0
            · have := H5.out
              unfold Sk at hX ⊢; omega
            · have e1 : tot = skp (Bin.pr K) d ((Bin.pr K).fT s1) (fieldRem s1) := by
                rw [← HF.out]; simp only [flds]; rw [if_pos HZ.out, if_neg HNE.out, if_neg (show ¬ (skp (Bin.pr K) d ((Bin.pr K).fT s1) ((Bin.pr K).fS s1)).1 = 0 from hq)]; rfl
              rw [e1]; exact hX
      · have H5 := Lib.hid hz
        have HX := Lib.hid hx
        clear hx hv hr4
        go_wp2_with fail
        go_ret
        refine ⟨_, rfl, ?_, ⟨_, h4.fresh ((Keep.refl _ _).alloc _), by omega, fun hh => absurd hh H5.out⟩, (hk1.then hk4).then ((Keep.refl _ _).alloc _)⟩
        have hX := HX.out
        by_cases hq : fieldK s1 = 0
        · have := H5.out
          unfold Sk at hX ⊢; omega
        · have e1 : tot = (fieldK s1, fieldRem s1) := by
            rw [← HF.out]; simp only [flds]; rw [if_neg (show ¬ (Bin.pr K).fK s1 = 0 from hq)]; rfl
          rw [e1]; exact hX
  · clear hr3 hx
    go_wp2_with fail
    go_ret
    exact ⟨_, rfl, .inl rfl, ⟨_, hr1.fresh ((Keep.refl _ w2).alloc _), hr2, fun hh => by cases hh⟩, hk.then (((Keep.refl _ w2).alloc _))⟩
end

end Go.Proofs.YtdmegokbfakjpaaGreatDoor

/- The reference: passing over lists, sets and maps. -/
namespace Go.Proofs.YtdmegokbfakjpaaGreatDoor
open Go Go.RowKit

section
variable {R TB DT : Nat} {n : Int} {tl : List Value} {rem : List UInt8} {w : World}

/-- Ahead of each element: what was told of the container lies in block U. -/
def RRepRel (R TB DT : Nat) (K : Bin.Ctx) (n : Int) (tl : List Value) (rem : List UInt8) (w : World) (U : Nat) (g : Array Value) (f : List UInt8 → Int × List UInt8) (sz : Int) (tot : Int × List UInt8) (k : Nat) (v : Value) (wr : World) : Prop :=
  ∃ i s, v = .int .i64 i ∧ 0 ≤ i ∧ k = (sz - i).toNat ∧ RdP R TB DT 0 K.c n tl s wr ∧ s.length ≤ rem.length ∧ Keep (TB = ·) w wr ∧ wr.heap[U]? = some (.cells g 138 (0, 0)) ∧ rep f k s = tot

set_option maxRecDepth 100000 in
set_option maxHeartbeats 8000000 in
theorem rskip_list (K : Bin.Ctx) (d : Nat) (ih : RSkips R TB DT K n tl d) (deep : Int) (hdd : deep.toNat = d + 1) (hd : 0 < deep) (hhi : deep ≤ 9223372036854775807) (hR : RdP R TB DT 0 K.c n tl rem w) :
    Calls Tryz.prog 38 #[.pointer (some ⟨R, 0, none⟩), .int .i64 15, .int .i64 deep] w (SkP R TB DT K.c n tl rem w (skp (Bin.pr K) (d + 1) 15 rem)) := by
  obtain ⟨res, hres⟩ : ∃ res, skp (Bin.pr K) (d + 1) 15 rem = res := ⟨_, rfl⟩
  rw [hres]
  have HRES := Lib.hid hres
  have HDD := Lib.hid hdd
  clear hres hdd
  have hs := rd_step (w := w) 9 (by omega) (by omega) (by omega) hR (fun w h => bin_op9 h)
  go_enter Tryz.func38, Tryz.ntmps38
  go_wp2_with fail
  refine (spec_many 15 w).mono ?_
  rintro e w1 ⟨rfl, rfl⟩
  rw [show manyOf 15 = 9 by decide]
  go_wp2_with fail
  refine hs.mono ?_
  rintro e w2 ⟨x, t, kt, size, id, N', S', rfl, ⟨a, m, cc, rfl⟩, hx, ⟨r', hr1, hr2, hr3⟩, hk, hv⟩
  by_cases hz : x = 0
  · subst hz
    obtain rfl := hr3 rfl
    obtain ⟨ht, _, hsz, _⟩ := hv rfl
    have hK : (Bin.pr K).lK rem = 0 := Sk.zero hx
    have hszb : size ≤ 2147483647 := by rw [hsz]; exact (Bin.ok K).lb rem
    obtain ⟨tot, htot⟩ : ∃ tot, rep (skp (Bin.pr K) d t) size.toNat (listRem rem) = tot := ⟨_, rfl⟩
    have hrt : res = endby (fun s => s) tot := by
      rw [← HRES.out, ← htot, ht, hsz]; simp [skp, isSc, hK]; rfl
    have HT := Lib.hid htot
    have HRT := Lib.hid hrt
    clear hx hv hr3 htot hrt ht hsz hK
    go_wp2_with fail
    go_loopg [8] size.toNat (fun k v wr => RRepRel R TB DT K n tl rem w w2.heap.size (gotA 0 t 0 size 0 0 (.slice a m cc)) (skp (Bin.pr K) d t) size tot k v wr)
    case atStart => exact ⟨0, _, rfl, by omega, by rw [Int.sub_zero], hr1.fresh ((Keep.refl _ _).alloc _), hr2, hk.then ((Keep.refl _ _).alloc _), heap_alloc_new _ _, HT.out⟩
    case round =>
      obtain ⟨i, s1, rfl, hi0, hk0, hi1, hle1, hk1, hg, hr⟩ := hrel
      obtain ⟨u0, u1, u2, u3, u4, u5, u6⟩ := got_cells hg
      have HG := Lib.hid hg
      have hd1 : (deep - 1).toNat = d := by have := HDD.out; omega
      have HD := Lib.hid hd1
      have hTB : TB < w2.heap.size := lt_of_cell hr1.tube.c0
      clear hg hd1
      by_cases hin : i < size
      · cases gk with
        | zero => omega
        | succ k =>
        have HK := Lib.hid hk0
        have HR := Lib.hid hr
        clear hr hk0
        go_wp2_with fail
        refine (ih (deep - 1) t _ wr HD.out (by omega) (by omega) hi1).mono ?_
        rintro e w3 ⟨x3, rfl, hx3, ⟨r3, h3, hl3, hr3⟩, hk3⟩
        have hg3 := (hk3.block w2.heap.size (lt_of_heap HG.out) (by omega)).trans HG.out
        have HX := Lib.hid hx3
        have HR3 := Lib.hid hr3
        clear hx3 hr3
        by_cases hz3 : x3 = 0
        · subst hz3
          have hs0 := Sk.zero HX.out
          have hr3 := HR3.out rfl
          subst hr3
          have HS0 := Lib.hid hs0
          have HG3 := Lib.hid hg3
          clear hs0 hg3
          go_wp2_with fail
          go_roundg k
          case measure => exact Nat.lt_succ_self _
          case rel => exact ⟨i + 1, _, rfl, by omega, by have := HK.out; omega, h3, by omega, hk1.then hk3, HG3.out, by rw [← HR.out, rep_ok HS0.out]⟩
        · have H5 := Lib.hid hz3
          clear hg3
          go_wp2_with fail
          go_ret
          refine ⟨_, rfl, ?_, ⟨_, h3, by omega, fun hh => absurd hh H5.out⟩, hk1.then hk3⟩
          have hX := HX.out
          by_cases hq : (skp (Bin.pr K) d t s1).1 = 0
          · have := H5.out
            unfold Sk at hX ⊢; omega
          · have e1 : res = skp (Bin.pr K) d t s1 := by
              rw [HRT.out, ← HR.out, rep_bad hq]; exact endby_bad hq
            rw [e1]; exact hX
      · have hgk : gk = 0 := by omega
        subst hgk
        have HR := Lib.hid hr
        clear hr hk0
        go_wp2_with fail
        refine (spec_many 15 wr).mono ?_
        rintro e w3 ⟨rfl, rfl⟩
        rw [show manyOf 15 = 9 by decide]
        go_wp2_with fail
        refine (rd_step 10 (by omega) (by omega) (by omega) hi1 (fun w h => bin_op10 h)).mono ?_
        rintro e w5 ⟨x5, t5, kt5, size5, id5, N5, S5, rfl, ⟨a5, m5, cc5, rfl⟩, hx5, ⟨r5, h5, hl5, hr5⟩, hk5, _⟩
        have hf := got_field0 x5 t5 kt5 size5 id5 N5 (.slice a5 m5 cc5)
        have HX := Lib.hid hx5
        have HR5 := Lib.hid hr5
        clear hx5 hr5
        go_wp2_with fail
        go_ret
        have e1 : res = (0, s1) := by rw [HRT.out, ← HR.out]; rfl
        rw [e1]
        exact ⟨_, rfl, HX.out, ⟨_, h5, by omega, HR5.out⟩, hk1.then hk5⟩
  · have H5 := Lib.hid hz
    have HX := Lib.hid hx
    clear hx hv hr3
    go_wp2_with fail
    go_ret
    refine ⟨_, rfl, ?_, ⟨_, hr1.fresh ((Keep.refl _ _).alloc _), hr2, fun hh => absurd hh H5.out⟩, hk.then ((Keep.refl _ _).alloc _)⟩
    have hX := HX.out
    by_cases hq : listK rem K.c = 0
    · have := H5.out
      unfold Sk at hX ⊢; omega
    · have e1 : res = (listK rem K.c, listRem rem) := by
        rw [← HRES.out]
        have hq2 : ¬ (Bin.pr K).lK rem = 0 := hq
        simp [skp, isSc, hq2]; exact ⟨rfl, rfl⟩
      rw [e1]; exact hX
end

end Go.Proofs.YtdmegokbfakjpaaGreatDoor

/- The reference: passing over sets. -/
namespace Go.Proofs.YtdmegokbfakjpaaGreatDoor
open Go Go.RowKit

section
variable {R TB DT : Nat} {n : Int} {tl : List Value} {rem : List UInt8} {w : World}

set_option maxRecDepth 100000 in
set_option maxHeartbeats 8000000 in
theorem rskip_set (K : Bin.Ctx) (d : Nat) (ih : RSkips R TB DT K n tl d) (deep : Int) (hdd : deep.toNat = d + 1) (hd : 0 < deep) (hhi : deep ≤ 9223372036854775807) (hR : RdP R TB DT 0 K.c n tl rem w) :
    Calls Tryz.prog 38 #[.pointer (some ⟨R, 0, none⟩), .int .i64 14, .int .i64 deep] w (SkP R TB DT K.c n tl rem w (skp (Bin.pr K) (d + 1) 14 rem)) := by
  obtain ⟨res, hres⟩ : ∃ res, skp (Bin.pr K) (d + 1) 14 rem = res := ⟨_, rfl⟩
  rw [hres]
  have HRES := Lib.hid hres
  have HDD := Lib.hid hdd
  clear hres hdd
  have hs := rd_step (w := w) 11 (by omega) (by omega) (by omega) hR (fun w h => bin_op11 h)
  go_enter Tryz.func38, Tryz.ntmps38
  go_wp2_with fail
  refine (spec_many 14 w).mono ?_
  rintro e w1 ⟨rfl, rfl⟩
  rw [show manyOf 14 = 11 by decide]
  go_wp2_with fail
  refine hs.mono ?_
  rintro e w2 ⟨x, t, kt, size, id, N', S', rfl, ⟨a, m, cc, rfl⟩, hx, ⟨r', hr1, hr2, hr3⟩, hk, hv⟩
  by_cases hz : x = 0
  · subst hz
    obtain rfl := hr3 rfl
    obtain ⟨ht, _, hsz, _⟩ := hv rfl
    have hK : (Bin.pr K).lK rem = 0 := Sk.zero hx
    have hszb : size ≤ 2147483647 := by rw [hsz]; exact (Bin.ok K).lb rem
    obtain ⟨tot, htot⟩ : ∃ tot, rep (skp (Bin.pr K) d t) size.toNat (listRem rem) = tot := ⟨_, rfl⟩
    have hrt : res = endby (fun s => s) tot := by
      rw [← HRES.out, ← htot, ht, hsz]; simp [skp, isSc, hK]; rfl
    have HT := Lib.hid htot
    have HRT := Lib.hid hrt
    clear hx hv hr3 htot hrt ht hsz hK
    go_wp2_with fail
    go_loopg [8] size.toNat (fun k v wr => RRepRel R TB DT K n tl rem w w2.heap.size (gotA 0 t 0 size 0 0 (.slice a m cc)) (skp (Bin.pr K) d t) size tot k v wr)
    case atStart => exact ⟨0, _, rfl, by omega, by rw [Int.sub_zero], hr1.fresh ((Keep.refl _ _).alloc _), hr2, hk.then ((Keep.refl _ _).alloc _), heap_alloc_new _ _, HT.out⟩
    case round =>
      obtain ⟨i, s1, rfl, hi0, hk0, hi1, hle1, hk1, hg, hr⟩ := hrel
      obtain ⟨u0, u1, u2, u3, u4, u5, u6⟩ := got_cells hg
      have HG := Lib.hid hg
      have hd1 : (deep - 1).toNat = d := by have := HDD.out; omega
      have HD := Lib.hid hd1
      have hTB : TB < w2.heap.size := lt_of_cell hr1.tube.c0
      clear hg hd1
      by_cases hin : i < size
      · cases gk with
        | zero => omega
        | succ k =>
        have HK := Lib.hid hk0
        have HR := Lib.hid hr
        clear hr hk0
        go_wp2_with fail
        refine (ih (deep - 1) t _ wr HD.out (by omega) (by omega) hi1).mono ?_
        rintro e w3 ⟨x3, rfl, hx3, ⟨r3, h3, hl3, hr3⟩, hk3⟩
        have hg3 := (hk3.block w2.heap.size (lt_of_heap HG.out) (by omega)).trans HG.out
        have HX := Lib.hid hx3
        have HR3 := Lib.hid hr3
        clear hx3 hr3
        by_cases hz3 : x3 = 0
        · subst hz3
          have hs0 := Sk.zero HX.out
          have hr3 := HR3.out rfl
          subst hr3
          have HS0 := Lib.hid hs0
          have HG3 := Lib.hid hg3
          clear hs0 hg3
          go_wp2_with fail
          go_roundg k
          case measure => exact Nat.lt_succ_self _
          case rel => exact ⟨i + 1, _, rfl, by omega, by have := HK.out; omega, h3, by omega, hk1.then hk3, HG3.out, by rw [← HR.out, rep_ok HS0.out]⟩
        · have H5 := Lib.hid hz3
          clear hg3
          go_wp2_with fail
          go_ret
          refine ⟨_, rfl, ?_, ⟨_, h3, by omega, fun hh => absurd hh H5.out⟩, hk1.then hk3⟩
          have hX := HX.out
          by_cases hq : (skp (Bin.pr K) d t s1).1 = 0
          · have := H5.out
            unfold Sk at hX ⊢; omega
          · have e1 : res = skp (Bin.pr K) d t s1 := by
              rw [HRT.out, ← HR.out, rep_bad hq]; exact endby_bad hq
            rw [e1]; exact hX
      · have hgk : gk = 0 := by omega
        subst hgk
        have HR := Lib.hid hr
        clear hr hk0
        go_wp2_with fail
        refine (spec_many 14 wr).mono ?_
        rintro e w3 ⟨rfl, rfl⟩
        rw [show manyOf 14 = 11 by decide]
        go_wp2_with fail
        refine (rd_step 12 (by omega) (by omega) (by omega) hi1 (fun w h => bin_op12 h)).mono ?_
        rintro e w5 ⟨x5, t5, kt5, size5, id5, N5, S5, rfl, ⟨a5, m5, cc5, rfl⟩, hx5, ⟨r5, h5, hl5, hr5⟩, hk5, _⟩
        have hf := got_field0 x5 t5 kt5 size5 id5 N5 (.slice a5 m5 cc5)
        have HX := Lib.hid hx5
        have HR5 := Lib.hid hr5
        clear hx5 hr5
        go_wp2_with fail
        go_ret
        have e1 : res = (0, s1) := by rw [HRT.out, ← HR.out]; rfl
        rw [e1]
        exact ⟨_, rfl, HX.out, ⟨_, h5, by omega, HR5.out⟩, hk1.then hk5⟩
  · have H5 := Lib.hid hz
    have HX := Lib.hid hx
    clear hx hv hr3
    go_wp2_with fail
    go_ret
    refine ⟨_, rfl, ?_, ⟨_, hr1.fresh ((Keep.refl _ _).alloc _), hr2, fun hh => absurd hh H5.out⟩, hk.then ((Keep.refl _ _).alloc _)⟩
    have hX := HX.out
    by_cases hq : listK rem K.c = 0
    · have := H5.out
      unfold Sk at hX ⊢; omega
    · have e1 : res = (listK rem K.c, listRem rem) := by
        rw [← HRES.out]
        have hq2 : ¬ (Bin.pr K).lK rem = 0 := hq
        simp [skp, isSc, hq2]; exact ⟨rfl, rfl⟩
      rw [e1]; exact hX
end

end Go.Proofs.YtdmegokbfakjpaaGreatDoor

/- The reference: passing over maps. -/
namespace Go.Proofs.YtdmegokbfakjpaaGreatDoor
open Go Go.RowKit

section
variable {R TB DT : Nat} {n : Int} {tl : List Value} {rem : List UInt8} {w : World}

set_option maxRecDepth 100000 in
set_option maxHeartbeats 8000000 in
theorem rskip_map (K : Bin.Ctx) (d : Nat) (ih : RSkips R TB DT K n tl d) (deep : Int) (hdd : deep.toNat = d + 1) (hd : 0 < deep) (hhi : deep ≤ 9223372036854775807) (hR : RdP R TB DT 0 K.c n tl rem w) :
    Calls Tryz.prog 38 #[.pointer (some ⟨R, 0, none⟩), .int .i64 13, .int .i64 deep] w (SkP R TB DT K.c n tl rem w (skp (Bin.pr K) (d + 1) 13 rem)) := by
  obtain ⟨res, hres⟩ : ∃ res, skp (Bin.pr K) (d + 1) 13 rem = res := ⟨_, rfl⟩
  rw [hres]
  have HRES := Lib.hid hres
  have HDD := Lib.hid hdd
  clear hres hdd
  have hs := rd_step (w := w) 7 (by omega) (by omega) (by omega) hR (fun w h => bin_op7 h)
  go_enter Tryz.func38, Tryz.ntmps38
  go_wp2_with fail
  refine (spec_many 13 w).mono ?_
  rintro e w1 ⟨rfl, rfl⟩
  rw [show manyOf 13 = 7 by decide]
  go_wp2_with fail
  refine hs.mono ?_
  rintro e w2 ⟨x, t, kt, size, id, N', S', rfl, ⟨a, m, cc, rfl⟩, hx, ⟨r', hr1, hr2, hr3⟩, hk, hv⟩
  by_cases hz : x = 0
  · subst hz
    obtain rfl := hr3 rfl
    obtain ⟨ht, hkt, hsz, _⟩ := hv rfl
    have hK : (Bin.pr K).mK rem = 0 := Sk.zero hx
    have hszb : size ≤ 2147483647 := by rw [hsz]; exact (Bin.ok K).mb rem
    obtain ⟨tot, htot⟩ : ∃ tot, rep (twice (skp (Bin.pr K) d kt) (skp (Bin.pr K) d t)) size.toNat (mapRem rem) = tot := ⟨_, rfl⟩
    have hrt : res = endby (fun s => s) tot := by
      rw [← HRES.out, ← htot, ht, hkt, hsz]; simp [skp, isSc, hK]; rfl
    have HT := Lib.hid htot
    have HRT := Lib.hid hrt
    clear hx hv hr3 htot hrt ht hkt hsz hK
    go_wp2_with fail
    go_loopg [8] size.toNat (fun k v wr => RRepRel R TB DT K n tl rem w w2.heap.size (gotA 0 t kt size 0 0 (.slice a m cc)) (twice (skp (Bin.pr K) d kt) (skp (Bin.pr K) d t)) size tot k v wr)
    case atStart => exact ⟨0, _, rfl, by omega, by rw [Int.sub_zero], hr1.fresh ((Keep.refl _ _).alloc _), hr2, hk.then ((Keep.refl _ _).alloc _), heap_alloc_new _ _, HT.out⟩
    case round =>
      obtain ⟨i, s1, rfl, hi0, hk0, hi1, hle1, hk1, hg, hr⟩ := hrel
      obtain ⟨u0, u1, u2, u3, u4, u5, u6⟩ := got_cells hg
      have HG := Lib.hid hg
      have hd1 : (deep - 1).toNat = d := by have := HDD.out; omega
      have HD := Lib.hid hd1
      have hTB : TB < w2.heap.size := lt_of_cell hr1.tube.c0
      clear hg hd1
      by_cases hin : i < size
      · cases gk with
        | zero => omega
        | succ k =>
        have HK := Lib.hid hk0
        have HR := Lib.hid hr
        clear hr hk0
        go_wp2_with fail
        refine (ih (deep - 1) kt _ wr HD.out (by omega) (by omega) hi1).mono ?_
        rintro e w3 ⟨x3, rfl, hx3, ⟨r3, h3, hl3, hr3⟩, hk3⟩
        have hg3 := (hk3.block w2.heap.size (lt_of_heap HG.out) (by omega)).trans HG.out
        have HX := Lib.hid hx3
        have HR3 := Lib.hid hr3
        clear hx3 hr3
        by_cases hz3 : x3 = 0
        · subst hz3
          have hs0 := Sk.zero HX.out
          have hr3 := HR3.out rfl
          subst hr3
          have HS0 := Lib.hid hs0
          have HG3 := Lib.hid hg3
          clear hs0 hg3 u0 u1 u2 u3 u4 u5 u6
          obtain ⟨u0, u1, u2, u3, u4, u5, u6⟩ := got_cells HG3.out
          go_wp2_with fail
          refine (ih (deep - 1) t _ w3 HD.out (by omega) (by omega) h3).mono ?_
          rintro e w4 ⟨x4, rfl, hx4, ⟨r4, h4, hl4, hr4⟩, hk4⟩
          have hg4 := (hk4.block w2.heap.size (lt_of_heap HG3.out) (by omega)).trans HG3.out
          have HX4 := Lib.hid hx4
          have HR4 := Lib.hid hr4
          clear hx4 hr4
          by_cases hz4 : x4 = 0
          · subst hz4
            have hs1 := Sk.zero HX4.out
            have hr4 := HR4.out rfl
            subst hr4
            have HS1 := Lib.hid hs1
            have HG4 := Lib.hid hg4
            clear hs1 hg4
            go_wp2_with fail
            go_roundg k
            case measure => exact Nat.lt_succ_self _
            case rel => exact ⟨i + 1, _, rfl, by omega, by have := HK.out; omega, h4, by omega, (hk1.then hk3).then hk4, HG4.out, by rw [← HR.out, rep_ok (by rw [twice_ok HS0.out]; exact HS1.out), twice_ok HS0.out]⟩
          · have H5 := Lib.hid hz4
            clear hg4
            go_wp2_with fail
            go_ret
            refine ⟨_, rfl, ?_, ⟨_, h4, by omega, fun hh => absurd hh H5.out⟩, (hk1.then hk3).then hk4⟩
            have hX := HX4.out
            by_cases hq : (skp (Bin.pr K) d t (skp (Bin.pr K) d kt s1).2).1 = 0
            · have := H5.out
              unfold Sk at hX ⊢; omega
            · have e1 : res = skp (Bin.pr K) d t (skp (Bin.pr K) d kt s1).2 := by
                rw [HRT.out, ← HR.out, rep_bad (by rw [twice_ok HS0.out]; exact hq), twice_ok HS0.out]; exact endby_bad hq
              rw [e1]; exact hX
        · have H5 := Lib.hid hz3
          clear hg3
          go_wp2_with fail
          go_ret
          refine ⟨_, rfl, ?_, ⟨_, h3, by omega, fun hh => absurd hh H5.out⟩, hk1.then hk3⟩
          have hX := HX.out
          by_cases hq : (skp (Bin.pr K) d kt s1).1 = 0
          · have := H5.out
            unfold Sk at hX ⊢; omega
          · have e1 : res = skp (Bin.pr K) d kt s1 := by
              rw [HRT.out, ← HR.out, rep_bad (by rw [twice_bad hq]; exact hq), twice_bad hq]; exact endby_bad hq
            rw [e1]; exact hX
      · have hgk : gk = 0 := by omega
        subst hgk
        have HR := Lib.hid hr
        clear hr hk0
        go_wp2_with fail
        refine (spec_many 13 wr).mono ?_
        rintro e w3 ⟨rfl, rfl⟩
        rw [show manyOf 13 = 7 by decide]
        go_wp2_with fail
        refine (rd_step 8 (by omega) (by omega) (by omega) hi1 (fun w h => bin_op8 h)).mono ?_
        rintro e w5 ⟨x5, t5, kt5, size5, id5, N5, S5, rfl, ⟨a5, m5, cc5, rfl⟩, hx5, ⟨r5, h5, hl5, hr5⟩, hk5, _⟩
        have hf := got_field0 x5 t5 kt5 size5 id5 N5 (.slice a5 m5 cc5)
        have HX := Lib.hid hx5
        have HR5 := Lib.hid hr5
        clear hx5 hr5
        go_wp2_with fail
        go_ret
        have e1 : res = (0, s1) := by rw [HRT.out, ← HR.out]; rfl
        rw [e1]
        exact ⟨_, rfl, HX.out, ⟨_, h5, by omega, HR5.out⟩, hk1.then hk5⟩
  · have H5 := Lib.hid hz
    have HX := Lib.hid hx
    clear hx hv hr3
    go_wp2_with fail
    go_ret
    refine ⟨_, rfl, ?_, ⟨_, hr1.fresh ((Keep.refl _ _).alloc _), hr2, fun hh => absurd hh H5.out⟩, hk.then ((Keep.refl _ _).alloc _)⟩
    have hX := HX.out
    by_cases hq : mapK rem K.c = 0
    · have := H5.out
      unfold Sk at hX ⊢; omega
    · have e1 : res = (mapK rem K.c, mapRem rem) := by
        rw [← HRES.out]
        have hq2 : ¬ (Bin.pr K).mK rem = 0 := hq
        simp [skp, isSc, hq2]; exact ⟨rfl, rfl⟩
      rw [e1]; exact hX
end

end Go.Proofs.YtdmegokbfakjpaaGreatDoor

/- The reference: passing over any value, by induction on the depth. -/
namespace Go.Proofs.YtdmegokbfakjpaaGreatDoor
open Go Go.RowKit

section
variable {R TB DT : Nat} {n : Int} {tl : List Value} {rem : List UInt8} {w : World}

set_option maxRecDepth 100000 in
set_option maxHeartbeats 4000000 in
theorem rskips (K : Bin.Ctx) (d : Nat) : RSkips R TB DT K n tl d := by
  induction d with
  | zero => exact rskip_zero K
  | succ d ih =>
    intro deep t rem w hd hlo hhi hR
    have hd0 : 0 < deep := by omega
    by_cases hsc : isSc t = true
    · have e : skp (Bin.pr K) (d + 1) t rem = ((Bin.pr K).scK t rem, (Bin.pr K).scS t rem) := by simp only [skp]; rw [if_pos hsc]
      rw [e]
      exact rskip_scalar K deep t hd0 hsc hR
    · by_cases h12 : t = 12
      · subst h12
        have e : skp (Bin.pr K) (d + 1) 12 rem = flds (Bin.pr K) (skp (Bin.pr K) d) (rem.length + 1) rem := by simp [skp, isSc]; rfl
        rw [e]
        have hc := rskip_struct K d ih deep hd hd0 hhi hR
        clear e hd ih
        go_enter Tryz.func21, Tryz.ntmps21
        go_wp2_with fail
        refine (spec_op 12 w).mono ?_
        rintro e w1 ⟨rfl, rfl⟩
        rw [show opOf 12 = -1 by decide]
        go_wp2_with fail
        refine hc.mono ?_
        rintro e w2 ⟨x, rfl, hx, hr, hk⟩
        have HX := Lib.hid hx
        clear hx
        go_wp2_with fail
        go_ret
        exact ⟨_, rfl, HX.out, hr, hk⟩
      · by_cases h13 : t = 13
        · subst h13
          have hc := rskip_map K d ih deep hd hd0 hhi hR
          obtain ⟨res, hres⟩ : ∃ res, skp (Bin.pr K) (d + 1) 13 rem = res := ⟨_, rfl⟩
          rw [hres] at hc ⊢
          clear hres hd ih
          go_enter Tryz.func21, Tryz.ntmps21
          go_wp2_with fail
          refine (spec_op 13 w).mono ?_
          rintro e w1 ⟨rfl, rfl⟩
          rw [show opOf 13 = -1 by decide]
          go_wp2_with fail
          refine hc.mono ?_
          rintro e w2 ⟨x, rfl, hx, hr, hk⟩
          have HX := Lib.hid hx
          clear hx
          go_wp2_with fail
          go_ret
          exact ⟨_, rfl, HX.out, hr, hk⟩
        · by_cases h14 : t = 14
          · subst h14
            have hc := rskip_set K d ih deep hd hd0 hhi hR
            obtain ⟨res, hres⟩ : ∃ res, skp (Bin.pr K) (d + 1) 14 rem = res := ⟨_, rfl⟩
            rw [hres] at hc ⊢
            clear hres hd ih
            go_enter Tryz.func21, Tryz.ntmps21
            go_wp2_with fail
            refine (spec_op 14 w).mono ?_
            rintro e w1 ⟨rfl, rfl⟩
            rw [show opOf 14 = -1 by decide]
            go_wp2_with fail
            refine hc.mono ?_
            rintro e w2 ⟨x, rfl, hx, hr, hk⟩
            have HX := Lib.hid hx
            clear hx
            go_wp2_with fail
            go_ret
            exact ⟨_, rfl, HX.out, hr, hk⟩
          · by_cases h15 : t = 15
            · subst h15
              have hc := rskip_list K d ih deep hd hd0 hhi hR
              obtain ⟨res, hres⟩ : ∃ res, skp (Bin.pr K) (d + 1) 15 rem = res := ⟨_, rfl⟩
              rw [hres] at hc ⊢
              clear hres hd ih
              go_enter Tryz.func21, Tryz.ntmps21
              go_wp2_with fail
              refine (spec_op 15 w).mono ?_
              rintro e w1 ⟨rfl, rfl⟩
              rw [show opOf 15 = -1 by decide]
              go_wp2_with fail
              refine hc.mono ?_
              rintro e w2 ⟨x, rfl, hx, hr, hk⟩
              have HX := Lib.hid hx
              clear hx
              go_wp2_with fail
              go_ret
              exact ⟨_, rfl, HX.out, hr, hk⟩
            · have e : skp (Bin.pr K) (d + 1) t rem = (11, rem) := by
                simp only [skp]; rw [if_neg hsc, if_neg h12, if_neg h13, if_neg (by omega)]
              rw [e]
              have ho : opOf t = -1 := by
                rcases opOf_sc t with h | h
                · exact absurd h.1 hsc
                · exact h.2
              have HO := Lib.hid ho
              clear e hd ih ho hsc
              go_enter Tryz.func21, Tryz.ntmps21
              go_wp2_with fail
              refine (spec_op t w).mono ?_
              rintro e w1 ⟨rfl, rfl⟩
              rw [HO.out]
              go_wp2_with fail
              go_ret
              exact ⟨_, rfl, .inr (.inr rfl), ⟨_, hR, Nat.le_refl _, fun hh => by cases hh⟩, Keep.refl _ _⟩
end

end Go.Proofs.YtdmegokbfakjpaaGreatDoor
