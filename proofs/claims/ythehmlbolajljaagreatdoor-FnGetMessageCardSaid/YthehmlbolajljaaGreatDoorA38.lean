/- Part 38 of the proof: SpMR. -/
import Derived.Test.YthehmlbolajljaaGreatDoorA21
import Derived.Test.YthehmlbolajljaaGreatDoorA37
import Derived.Test.YthehmlbolajljaaGreatDoorA18
import Derived.Test.YthehmlbolajljaaGreatDoorA15
import Derived.Deep.RegionHeld3
set_option linter.unusedVariables false
set_option linter.unusedSimpArgs false
set_option linter.unusedSectionVars false
namespace Go.Proofs.YthehmlbolajljaaGreatDoor
open Go Go.RowKit
def Pm.SMsgP {St : Type} (p : Pm St) (deep : Int) (l : List UInt8) (q : Int × St × _root_.Go.Proofs.YthehmlbolajljaaGreatDoor.V) (w : World) (e : Ending) (w' : World) : Prop :=
  ∃ na nm nc kd sq T N Sa Sm Sc KT E' Ia Im Ic La Lm Lc x left, e = .returned (.tuple #[.slice na nm nc, .int .i64 kd, .int .i32 sq, .agg (valC T N (.slice Sa Sm Sc) KT E' (.slice Ia Im Ic) (.slice La Lm Lc)), .int .i64 x, .int .i64 left]) ∧ Sk q.1 x ∧
    (x = 0 → left = p.pr.len q.2.1 ∧ kd = p.gT (p.st0 l) ∧ sq = p.gN (p.st0 l) ∧ (∃ A1, BytesAt A1 w' (.slice na nm nc) (p.gB (p.st0 l))) ∧ ∃ A', ValAt deep.toNat A' w' (valC T N (.slice Sa Sm Sc) KT E' (.slice Ia Im Ic) (.slice La Lm Lc)).toList q.2.2) ∧ Keep (fun _ => False) w w'
set_option maxRecDepth 100000 in
set_option maxHeartbeats 8000000 in
theorem Pm.spec_msg {St : Type} (p : Pm St) {A : Nat → Prop} (deep : Int) (hd0 : -9223372036854775808 ≤ deep) (hd1 : deep ≤ 9223372036854775807) (v : Value) (l : List UInt8) (w : World) (h : BytesAt A w v l) (hl : l.length ≤ 1099511627775) (q : Int × St × _root_.Go.Proofs.YthehmlbolajljaaGreatDoor.V) (hq : msgR p.pr (p.gK (p.st0 l)) deep.toNat (p.gS (p.st0 l)) = q) :
    Calls Tryz.prog 10 #[confV p.no p.c, v, .int .i64 deep] w (p.SMsgP deep l q w) := by
  have HQ := Lib.hid hq
  clear hq
  have hk0 : Keep (fun _ => False) w ((w.alloc (.cells (confC p.no p.c) 37 (0, 0))).alloc (.cells sVal 34 (0, 0))) := ((Keep.refl _ w).alloc _).alloc _
  have hv0 : ((w.alloc (.cells (confC p.no p.c) 37 (0, 0))).alloc (.cells sVal 34 (0, 0))).heap[w.heap.size + 1]? = some (.cells sVal 34 (0, 0)) := heap_alloc_at (by simp) _
  have hs0 : ((w.alloc (.cells (confC p.no p.c) 37 (0, 0))).alloc (.cells sVal 34 (0, 0))).heap.size = w.heap.size + 2 := by simp
  go_enter Tryz.func10, Tryz.ntmps10
  go_wp2_with fail
  obtain ⟨n0, hn⟩ : ∃ n0, w.heap.size = n0 := ⟨_, rfl⟩
  rw [hn] at hv0 hs0 ⊢
  generalize (w.alloc (.cells (confC p.no p.c) 37 (0, 0))).alloc (.cells sVal 34 (0, 0)) = w1 at *
  have HN := Lib.hid hn
  have HV0 := Lib.hid hv0
  have HS0 := Lib.hid hs0
  clear hn hv0 hs0
  refine (p.read v l w1 (h.keep hk0 (fun _ _ => id)) (by omega)).mono ?_
  rintro e w2 ⟨r, rfl, ok, hpr, hi, hk2, hM, hleft, hst0, hst1⟩
  have HL := Lib.hid hleft
  have HM := Lib.hid hM
  clear hleft hM
  go_wp2_with fail
  refine (Rdr.message ok deep hd0 hd1 (p.st0 l) w2 hi (p.gK (p.st0 l)) (p.gS (p.st0 l)) (p.gT (p.st0 l)) (p.gN (p.st0 l)) (p.gB (p.st0 l)) (by rw [hpr]; exact p.gS_room _ (p.room0 l hl)) (p.gN_w _) (fun w h => hst0 _ w h) (fun s w h => hst1 s w h) q (by rw [hpr]; exact HQ.out)).mono ?_
  rintro e w4 ⟨na, nm, nc, kd, sq, T, N, Sa, Sm, Sc, KT, E', Ia, Im, Ic, La, Lm, Lc, x, rfl, hx, ⟨s2, h4, hr4⟩, hk4, hval⟩
  have HX := Lib.hid hx
  have H4 := Lib.hid hr4
  have HVAL := Lib.hid hval
  have HK4 := Lib.hid hk4.keep
  clear hx hr4 hval hk4 hst0 hst1
  have hk5 : Keep (fun _ => False) w4 (w4.alloc (.cells (msgC (.slice na nm nc) kd sq T N (.slice Sa Sm Sc) KT E' (.slice Ia Im Ic) (.slice La Lm Lc)) 90 (0, 0))) := (Keep.refl _ w4).alloc _
  have hV5 := heap_alloc_new w4 (.cells (msgC (.slice na nm nc) kd sq T N (.slice Sa Sm Sc) KT E' (.slice Ia Im Ic) (.slice La Lm Lc)) 90 (0, 0))
  go_wp2_with fail
  obtain ⟨V, hV⟩ : ∃ V, w4.heap.size = V := ⟨_, rfl⟩
  rw [hV] at hV5 ⊢
  generalize w4.alloc (.cells (msgC (.slice na nm nc) kd sq T N (.slice Sa Sm Sc) KT E' (.slice Ia Im Ic) (.slice La Lm Lc)) 90 (0, 0)) = w5 at *
  have hn1 := HS0.out
  have hkA : Keep (fun i => w1.heap.size ≤ i) w1 w5 := (hk2.weak (fun _ _ x => x.elim)).then ((HK4.out.weak (fun i _ x => HM.out i x)).then (hk5.weak (fun _ _ x => x.elim)))
  have hR5 := (hkA.block (n0 + 1) (by omega) (by omega)).trans HV0.out
  have hne3 : ¬ V = n0 + 1 := by have := hk2.size; have := HK4.out.size; omega
  have hne4 : ¬ n0 + 1 = V := fun e => hne3 e.symm
  have hleft := HL.out s2 w5.drew (ok.fresh h4 hk5.drew)
  have HLEFT := Lib.hid hleft
  have HKA := Lib.hid hkA
  have HK5 := Lib.hid hk5
  have HR5 := Lib.hid hR5
  obtain ⟨m0, m1, m2, m3, m4, m5, m6, m7, m8, m9⟩ := cells10 hV5
  obtain ⟨r0, r1, r2, r3, r4, r5, r6⟩ := got_cells hR5
  obtain ⟨z0, z1, z2, z3, z4, z5, z6⟩ := got_free hR5
  clear hleft hV5 hR5 hkA hn1 hV hk5
  go_region_held3 (fun w' => w'.cell? ⟨V, 0, none⟩ = some (.slice na nm nc) ∧ w'.cell? ⟨V, 1, none⟩ = some (.int .i64 kd) ∧ w'.cell? ⟨V, 2, none⟩ = some (.int .i32 sq) ∧ w'.cell? ⟨V, 3, none⟩ = some (.int .i64 T) ∧ w'.cell? ⟨V, 4, none⟩ = some (.int .i64 N) ∧ w'.cell? ⟨V, 5, none⟩ = some (.slice Sa Sm Sc) ∧ w'.cell? ⟨V, 6, none⟩ = some (.int .i64 KT) ∧ w'.cell? ⟨V, 7, none⟩ = some (.int .i64 E') ∧ w'.cell? ⟨V, 8, none⟩ = some (.slice Ia Im Ic) ∧ w'.cell? ⟨V, 9, none⟩ = some (.slice La Lm Lc)) (go_keep) (first | (go_at_call 34; refine HLEFT.out.mono ?_; rintro e w6 ⟨rfl, rfl⟩))
  all_goals
    go_wp2_with fail
    have hn0 := HN.out
    have hn1 := HS0.out
    have hR9 := sval_set HR5.out (.int .i64 T) (.int .i64 N) (.slice Sa Sm Sc) (.int .i64 KT) (.int .i64 E') (.slice Ia Im Ic) (.slice La Lm Lc)
    have hk49 := sval_keep (M := fun i => n0 + 1 = i) (HK5.out.weak (fun _ _ x => x.elim)) (R := n0 + 1) (fun _ => rfl) (.int .i64 T) (.int .i64 N) (.slice Sa Sm Sc) (.int .i64 KT) (.int .i64 E') (.slice Ia Im Ic) (.slice La Lm Lc)
    have hk9 := sval_keep (M := fun _ => False) (hk0.trans HKA.out (fun i hi e => by omega)) (R := n0 + 1) (fun h => by omega) (.int .i64 T) (.int .i64 N) (.slice Sa Sm Sc) (.int .i64 KT) (.int .i64 E') (.slice Ia Im Ic) (.slice La Lm Lc)
    generalize ((((((w5.setCell ⟨n0 + 1, 0, none⟩ (.int .i64 T)).setCell ⟨n0 + 1, 1, none⟩ (.int .i64 N)).setCell ⟨n0 + 1, 2, none⟩ (.slice Sa Sm Sc)).setCell ⟨n0 + 1, 3, none⟩ (.int .i64 KT)).setCell ⟨n0 + 1, 4, none⟩ (.int .i64 E')).setCell ⟨n0 + 1, 5, none⟩ (.slice Ia Im Ic)).setCell ⟨n0 + 1, 6, none⟩ (.slice La Lm Lc) = w9 at *
    have hl9 : x = 0 → ((r.pr.len s2 : Nat) : Int) = p.pr.len q.2.1 := fun hz => by rw [H4.out hz, hpr]
    have hk10 := hk9.drew
    have hk410 := hk49.drew
    have hR10 : w9.drew.heap[n0 + 1]? = some (.cells (valC T N (.slice Sa Sm Sc) KT E' (.slice Ia Im Ic) (.slice La Lm Lc)) 34 (0, 0)) := hR9
    try simp only [Act.put, List.getElem_toArray, List.getElem_cons_zero, List.getElem_cons_succ, List.setIfInBounds_toArray, List.set_cons_zero, List.set_cons_succ]
    refine ret_cell6 (U := n0 + 1) (T := 34) Tryz.results10 rfl rfl rfl rfl rfl rfl rfl hR10 Tryz.underlying34 sval_size ?_
    refine ⟨na, nm, nc, kd, sq, T, N, Sa, Sm, Sc, KT, E', Ia, Im, Ic, La, Lm, Lc, x, _, rfl, HX.out, fun hz => ?_, hk10⟩
    obtain ⟨e1, e2, e3, e4⟩ := HVAL.out hz
    have h12 := hk2.size
    exact ⟨by rw [H4.out hz], e1, e2, ⟨_, e3.keep hk410 (fun i hi e => by omega)⟩, ⟨_, e4.keep hk410 (fun i hi e => by omega)⟩⟩
end Go.Proofs.YthehmlbolajljaaGreatDoor
