/- Part 23 of the proof: Ref0, Ref1, MkBin, MgBin, PmXBin. -/
import Derived.Test.YtjekbomlpcdojaaGreatDoorH15
import Derived.Test.YtjekbomlpcdojaaGreatDoorH19
import Derived.Test.YtjekbomlpcdojaaGreatDoorH16
import Derived.Test.YtjekbomlpcdojaaGreatDoorH22
import Derived.Test.YtjekbomlpcdojaaGreatDoorH11
import Derived.Deep.RegionLaw
import Derived.Deep.RegionLawGrows
import Derived.Deep.RegionWith
set_option linter.unusedVariables false
set_option linter.unusedSimpArgs false
set_option linter.unusedSectionVars false
set_option maxHeartbeats 16000000
namespace Go.Proofs.YtjekbomlpcdojaaGreatDoor
open Go Go.RowKit
theorem BytesAt.shapeL {A : Nat → Prop} {w : World} {v : Value} {l : List UInt8} (h : BytesAt A w v l) : ∃ a cc, v = .slice a l.length cc := by
 rcases h with ⟨rfl, a, c, rfl⟩ | ⟨_, D, o, c, rfl, _⟩
 ·exact ⟨a, c, rfl⟩
 ·exact ⟨_, c, rfl⟩
theorem run_append_none0 (a : Option Addr) (c : Nat) (w : World) :
  (Builtin.append_ #[24, 24] 24 #[nilB, .slice a 0 c]).run Tryz.prog w = .ok nilB w := by
 obtain ⟨i, hi, hz, hs, hb⟩ := info_parts u8info
 have hl : ∀ (x : Addr), (loadCells x 0).run Tryz.prog w = .ok #[] w := fun x => by simpa using run_loadCells_list (P := Tryz.prog) w x [] (by simp)
 cases a with
 | none => simp [Builtin.append_, run_underlying Tryz.underlying24, sizeOf, typeInfo, hi, Builtin.lenOf, run_firstCells_none]
 | some ad => simp [Builtin.append_, run_underlying Tryz.underlying24, sizeOf, typeInfo, hi, Builtin.lenOf, Builtin.firstCells, hl]
theorem step_append_none0 {ops : Array Oper} {o : Oper} {a : Act} {w : World} {K : Act → World → Prop} {Q : Exit → Act → World → Prop} {E : Prop} (hg : o.guard = none) (s x : Operand)
  (hop : o.op = Op.call { callee := Callee.builtin Builtin.append, args := #[s, x], argTypes := #[24, 24] }) (hty : o.type = 24)
  (ad : Option Addr) (c : Nat) (hs : a.eval s = nilB) (hx : a.eval x = .slice ad 0 c)
  (hK : K (a.put o.dst nilB) w) : if Region.wanted o (yielded ops a.tmps) = true then Oper.wp Tryz.prog o a w K Q else E := by
 have hw : Region.wanted o (yielded ops a.tmps) = true := by simp [Region.wanted, hg]
 rw [if_pos hw]
 have hrun := run_append_none0 ad c w
 unfold Oper.wp
 simp [execOp, hop, hty, resolve, invoke, builtin, hs, hx, hrun, Result.andThen]
 exact hK
theorem step_nilB {ops : Array Oper} {o : Oper} {a : Act} {w : World} {K : Act → World → Prop} {Q : Exit → Act → World → Prop} {E : Prop} (hg : o.guard = none) (s x : Operand)
  (hop : o.op = Op.call { callee := Callee.builtin Builtin.append, args := #[s, x], argTypes := #[24, 24] })
  (hs : a.eval s = nilB) (ad : Addr) (m c : Nat) (l : List UInt8) (hx : a.eval x = .slice (some ad) m c) (hl : l.length = m) (hm : 0 < m) (hb : m ≤ 140737488355328)
  (hc : ∀ j b, l[j]? = some b → w.cell? (ad.add j) = some (.int .u8 (b.toNat : Int)))
  (hK : ∀ v' w', BytesAt (w.heap.size ≤ ·) w' v' l → Keep (fun _ => False) w w' → K (a.put o.dst v') w') : if Region.wanted o (yielded ops a.tmps) = true then Oper.wp Tryz.prog o a w K Q else E := by
 have h0 := u8info
 obtain ⟨i, hi, h1⟩ := Option.map_eq_some_iff.1 h0
 simp only [Prod.mk.injEq] at h1
 obtain ⟨hz, hsz, hby⟩ := h1
 refine step_append_grows hg s x 24 hop 5 i (.int .u8 0) 1 1 Tryz.underlying24 hi hz hsz hby rfl (by omega) none 0 0 [] hs (fun _ => ⟨rfl, rfl⟩) rfl (fun _ h => by cases h)
  ad m c (bcells l) hx (by simp; omega) (fun j u hj => ?_) (fun u hu => ?_) (by omega) (by simp only [maxLen]; omega) (by omega) (fun v' w' r1 r2 => hK v' w' (.row (by simpa using r1) hl hb) ((Keep.refl _ w).grown r2 (fun k hk => by cases hk)))
 ·simp [bcells] at hj
  obtain ⟨b, hb1, rfl⟩ := hj
  exact hc j b hb1
 ·obtain ⟨b, _, rfl⟩ := List.mem_map.1 hu
  rfl
abbrev pipeV (pr : Int) (c : Cfg) (v : Value) : Value := .agg #[.int .i64 0, .int .i64 0, .int .i64 pr, .bool c.plain, .bool c.sr, .bool c.sw, .int .i32 c.msg, .int .i32 c.cont, .int .i32 c.frame, v, .slice none 0 0]
abbrev pipeC (pr : Int) (c : Cfg) (v : Value) : Array Value := #[.int .i64 0, .int .i64 0, .int .i64 pr, .bool c.plain, .bool c.sr, .bool c.sw, .int .i32 c.msg, .int .i32 c.cont, .int .i32 c.frame, v, .slice none 0 0]
abbrev tubeC (v : Value) (m : Int) : Array Value := #[.int .i64 0, nilB, nilB, .int .i64 0, v, nilB, .int .i64 4096, .int .i64 0, nilB, .bool false, .int .i64 m, nilB, nilB, .int .i64 4096, .bool false, .bool false, .bool false, .bool false]
theorem pipe_conf {w : World} {g : Nat} {pr : Int} {c : Cfg} {v : Value} (h : w.heap[g]? = some (.cells (pipeC pr c v) 212 (0, 0))) : w.cell? ⟨g, 2, none⟩ = some (.int .i64 pr) ∧ w.cell? ⟨g, 3, none⟩ = some (.bool c.plain) ∧ w.cell? ⟨g, 4, none⟩ = some (.bool c.sr) ∧ w.cell? ⟨g, 5, none⟩ = some (.bool c.sw) ∧
  w.cell? ⟨g, 6, none⟩ = some (.int .i32 c.msg) ∧ w.cell? ⟨g, 7, none⟩ = some (.int .i32 c.cont) ∧ w.cell? ⟨g, 8, none⟩ = some (.int .i32 c.frame) ∧ w.cell? ⟨g, 9, none⟩ = some v ∧ w.cell? ⟨g, 0, none⟩ = some (.int .i64 0) ∧ w.cell? ⟨g, 10, none⟩ = some nilB := by
 simp [cellAt h]
set_option maxRecDepth 100000 in
theorem newTube_nil (pr : Int) (c : Cfg) (a : Option Addr) (cc : Nat) (w : World) :
  Calls Tryz.prog 80 #[pipeV pr c (.slice a 0 cc)] w fun e w' => ∃ TB m, e = .returned (.pointer (some ⟨TB, 0, none⟩)) ∧ w.heap.size ≤ TB ∧ w'.heap[TB]? = some (.cells (tubeC nilB m) 229 (0, 0)) ∧ Keep (fun _ => False) w w' := by
 have hk0 : Keep (fun _ => False) w ((w.alloc (.cells (pipeC pr c (.slice a 0 cc)) 212 (0, 0))).alloc (.cells (tubeC nilB 0) 229 (0, 0))) := ((Keep.refl _ w).alloc _).alloc _
 have hp0 : ((w.alloc (.cells (pipeC pr c (.slice a 0 cc)) 212 (0, 0))).alloc (.cells (tubeC nilB 0) 229 (0, 0))).heap[w.heap.size]? = some (.cells (pipeC pr c (.slice a 0 cc)) 212 (0, 0)) := (Below.heap_alloc _ _ _ (by simp)).trans (heap_alloc_new w _)
 have ht0 : ((w.alloc (.cells (pipeC pr c (.slice a 0 cc)) 212 (0, 0))).alloc (.cells (tubeC nilB 0) 229 (0, 0))).heap[w.heap.size + 1]? = some (.cells (tubeC nilB 0) 229 (0, 0)) := heap_alloc_at (by simp) _
 go_enter Tryz.func80, Tryz.ntmps80
 go_wp2_with fail
 obtain ⟨n, hn⟩ : ∃ n, w.heap.size = n := ⟨_, rfl⟩
 rw [hn] at hp0 ht0 ⊢
 generalize (w.alloc (.cells (pipeC pr c (.slice a 0 cc)) 212 (0, 0))).alloc (.cells (tubeC nilB 0) 229 (0, 0)) = w1 at *
 have HN := hdd hn
 have c4 := cellAt ht0 4
 have f4 := freeAt ht0 4
 have c9 := (pipe_conf hp0).2.2.2.2.2.2.2.1
 have HP := hdd hp0
 have HT := hdd ht0
 have ht2 : (w1.setCell ⟨n + 1, 4, none⟩ nilB).drew.heap[n + 1]? = some (.cells (tubeC nilB 0) 229 (0, 0)) := heap_set_same (i := 4) ht0 nilB
 have hp2 : (w1.setCell ⟨n + 1, 4, none⟩ nilB).drew.heap[n]? = some (.cells (pipeC pr c (.slice a 0 cc)) 212 (0, 0)) := (heap_set_other (p := ⟨n + 1, 4, none⟩) _ (by simp)).trans hp0
 have hk2 : Keep (fun _ => False) w (w1.setCell ⟨n + 1, 4, none⟩ nilB).drew := ((hk0.set (n + 1) 4 (fun h => by omega) nilB)).drew
 have HP2 := hdd hp2
 have HT2 := hdd ht2
 clear hn hp0 ht0 hp2 ht2
 simp at c4
 go_region_law (refine step_append_none0 rfl (.tmp 36) (.tmp 38) rfl rfl a cc rfl rfl ?_)
 all_goals
  clear c4 f4 c9
  generalize (w1.setCell ⟨n + 1, 4, none⟩ nilB).drew = w2 at *
  have d0 := cellAt HT2.out 0
  have d10 := cellAt HT2.out 10
  have e10 := freeAt HT2.out 10
  obtain ⟨p2, p3, p4, p5, p6, p7, p8, _, _, _⟩ := pipe_conf HP2.out
  simp at d0 d10
  go_wp2_with fail
  refine (limits pr c w2).mono ?_
  rintro e w3 ⟨fr, sr, sw, rfl, hk3⟩
  have hN := HN.out
  have ht3 := (hk3.block (n + 1) (lt_of_heap HT2.out) id).trans HT2.out
  have HT3 := hdd ht3
  have d10 := cellAt ht3 10
  have e10 := freeAt ht3 10
  simp at d10
  clear ht3 hN
  go_wp2_with fail
  go_ret
  refine ⟨n + 1, _, rfl, by have := HN.out; omega, heap_set_same (i := 10) HT3.out _, ?_⟩
  exact (hk2.then hk3).set (n + 1) 10 (fun h => by have := HN.out; omega) _
set_option maxRecDepth 100000 in
theorem newTube_some {A : Nat → Prop} (pr : Int) (c : Cfg) (D0 o L cc : Nat) (l : List UInt8) (w : World) (hl : l.length = L) (h0 : 0 < L) (hb : L ≤ 140737488355328) (hc : ∀ j b, l[j]? = some b → w.cell? ⟨D0, o + j, none⟩ = some (.int .u8 (b.toNat : Int))) :
  Calls Tryz.prog 80 #[pipeV pr c (.slice (some ⟨D0, o, none⟩) L cc)] w fun e w' => ∃ TB m v, e = .returned (.pointer (some ⟨TB, 0, none⟩)) ∧ w.heap.size ≤ TB ∧ w'.heap[TB]? = some (.cells (tubeC v m) 229 (0, 0)) ∧ BytesAt (TB < ·) w' v l ∧ Keep (fun _ => False) w w' := by
 have hne : l ≠ [] := by intro e; simp [e] at hl; omega
 have hD : D0 < w.heap.size := BytesAt.lt (A := A) hne hc
 have hk0 : Keep (fun _ => False) w ((w.alloc (.cells (pipeC pr c (.slice (some ⟨D0, o, none⟩) L cc)) 212 (0, 0))).alloc (.cells (tubeC nilB 0) 229 (0, 0))) := ((Keep.refl _ w).alloc _).alloc _
 have hp0 : ((w.alloc (.cells (pipeC pr c (.slice (some ⟨D0, o, none⟩) L cc)) 212 (0, 0))).alloc (.cells (tubeC nilB 0) 229 (0, 0))).heap[w.heap.size]? = some (.cells (pipeC pr c (.slice (some ⟨D0, o, none⟩) L cc)) 212 (0, 0)) := (Below.heap_alloc _ _ _ (by simp)).trans (heap_alloc_new w _)
 have ht0 : ((w.alloc (.cells (pipeC pr c (.slice (some ⟨D0, o, none⟩) L cc)) 212 (0, 0))).alloc (.cells (tubeC nilB 0) 229 (0, 0))).heap[w.heap.size + 1]? = some (.cells (tubeC nilB 0) 229 (0, 0)) := heap_alloc_at (by simp) _
 have hs0 : ((w.alloc (.cells (pipeC pr c (.slice (some ⟨D0, o, none⟩) L cc)) 212 (0, 0))).alloc (.cells (tubeC nilB 0) 229 (0, 0))).heap.size = w.heap.size + 2 := by simp
 have HC := hdd hc
 have HL := hdd hl
 have HNE := hdd hne
 clear hc hl hne
 go_enter Tryz.func80, Tryz.ntmps80
 go_wp2_with fail
 obtain ⟨n, hn⟩ : ∃ n, w.heap.size = n := ⟨_, rfl⟩
 rw [hn] at hp0 ht0 hs0 hD ⊢
 generalize (w.alloc (.cells (pipeC pr c (.slice (some ⟨D0, o, none⟩) L cc)) 212 (0, 0))).alloc (.cells (tubeC nilB 0) 229 (0, 0)) = w1 at *
 have HN := hdd hn
 have HS := hdd hs0
 have c4 := cellAt ht0 4
 have c9 := (pipe_conf hp0).2.2.2.2.2.2.2.1
 have HP := hdd hp0
 have HT := hdd ht0
 have HSRC : Hid (∀ j b, l[j]? = some b → w1.cell? ((⟨D0, o, none⟩ : Addr).add j) = some (.int .u8 (b.toNat : Int))) := hdd (fun j b hj => by
  rw [Addr.add_lit]
  exact (hk0.cell (p := ⟨D0, o + j, none⟩) (by simp; omega) id).trans (HC.out j b hj))
 clear hn hp0 ht0 hs0
 simp at c4
 go_region_law (refine step_nilB rfl (.tmp 36) (.tmp 38) rfl rfl ⟨D0, o, none⟩ L cc l rfl HL.out h0 hb HSRC.out ?_; intro v' w2 hbv hk; obtain ⟨va, vm, vc, rfl⟩ := hbv.shape; clear c4; have ht2 := (hk.block (n + 1) (lt_of_heap HT.out) id).trans HT.out; have c4 := cellAt ht2 4; have f4 := freeAt ht2 4; simp at c4; have HT2 := hdd ht2; have HBV := hdd hbv; clear ht2 hbv)
 all_goals
  have ht3 : (w2.setCell ⟨n + 1, 4, none⟩ (.slice va vm vc)).heap[n + 1]? = some (.cells (tubeC (.slice va vm vc) 0) 229 (0, 0)) := heap_set_same (i := 4) HT2.out (.slice va vm vc)
  have hp3 : (w2.setCell ⟨n + 1, 4, none⟩ (.slice va vm vc)).heap[n]? = some (.cells (pipeC pr c (.slice (some ⟨D0, o, none⟩) L cc)) 212 (0, 0)) := (heap_set_other (p := ⟨n + 1, 4, none⟩) _ (by simp)).trans ((hk.block n (lt_of_heap HP.out) id).trans HP.out)
  have hk2 : Keep (fun _ => False) w (w2.setCell ⟨n + 1, 4, none⟩ (.slice va vm vc)) := ((hk0.drew.then hk).set (n + 1) 4 (fun h => by have := HN.out; omega) (.slice va vm vc))
  have hb3 : BytesAt (n + 1 < ·) (w2.setCell ⟨n + 1, 4, none⟩ (.slice va vm vc)) (.slice va vm vc) l := by
   have e1 : BytesAt (n + 1 < ·) w2 (.slice va vm vc) l := HBV.out.weak (fun i _ hi => by have := HS.out; simp at hi; omega)
   exact e1.keep (((Keep.refl (fun i => n + 1 = i) w2).set (n + 1) 4 (fun _ => rfl) (.slice va vm vc))) (fun i hi e => by omega)
  have HP2 := hdd hp3
  have HT3 := hdd ht3
  have HB3 := hdd hb3
  clear c4 f4 c9 ht3 hp3 hb3 hk
  generalize (w2.setCell ⟨n + 1, 4, none⟩ (.slice va vm vc)) = w3 at *
  have d0 := cellAt HT3.out 0
  have d10 := cellAt HT3.out 10
  have e10 := freeAt HT3.out 10
  obtain ⟨p2, p3, p4, p5, p6, p7, p8, _, _, _⟩ := pipe_conf HP2.out
  simp at d0 d10
  go_wp2_with fail
  refine (limits pr c w3).mono ?_
  rintro e w4 ⟨fr, sr, sw, rfl, hk3⟩
  have ht4 := (hk3.block (n + 1) (lt_of_heap HT3.out) id).trans HT3.out
  have HT4 := hdd ht4
  have d10 := cellAt ht4 10
  have e10 := freeAt ht4 10
  simp at d10
  clear ht4
  go_wp2_with fail
  go_ret
  refine ⟨n + 1, _, .slice va vm vc, rfl, by have := HN.out; omega, heap_set_same (i := 10) HT4.out _, ?_, ?_⟩
  ·exact (HB3.out.keep hk3 (fun _ _ x => x)).keep ((Keep.refl (fun i => n + 1 = i) w4).set (n + 1) 10 (fun _ => rfl) _) (fun i hi e => by omega)
  ·exact (hk2.then hk3).set (n + 1) 10 (fun h => by have := HN.out; omega) _
theorem newTube_at {A : Nat → Prop} (pr : Int) (c : Cfg) (v : Value) (l : List UInt8) (w : World) (h : BytesAt A w v l) :
  Calls Tryz.prog 80 #[pipeV pr c v] w fun e w' => ∃ TB DT, e = .returned (.pointer (some ⟨TB, 0, none⟩)) ∧ w.heap.size ≤ TB ∧ w.heap.size ≤ DT ∧ TubeP TB DT l w' ∧ Keep (fun _ => False) w w' := by
 rcases h with ⟨rfl, a, cc, rfl⟩ | ⟨hne, D0, o, cc, rfl, h1, h2, h3, h4⟩
 ·refine (newTube_nil pr c a cc w).mono ?_
  rintro e w' ⟨TB, m, rfl, h1, h2, h3⟩
  exact ⟨TB, TB, rfl, h1, h1, ⟨⟨_, m, h2, .inl ⟨rfl, _, _, rfl⟩⟩, by simp⟩, h3⟩
 ·refine (newTube_some (A := A) pr c D0 o l.length cc l w rfl (List.length_pos_iff.2 hne) h2 h4).mono ?_
  rintro e w' ⟨TB, m, v, rfl, h5, h6, h7, h8⟩
  rcases h7 with ⟨h, _⟩ | ⟨_, D, o', c', rfl, e1, e2, e3, e4⟩
  ·exact absurd h hne
  ·exact ⟨TB, D, rfl, h5, by omega, ⟨⟨_, m, h6, .inr ⟨hne, D, o', c', rfl, e1, e2, ⟨rfl, by omega⟩, e4⟩⟩, e2⟩, h8⟩
theorem TubeP.re {TB DT DT' : Nat} {w : World} (h : TubeP TB DT [] w) : TubeP TB DT' [] w := by
 obtain ⟨⟨v, m, h1, h2⟩, hl⟩ := h
 refine ⟨⟨v, m, h1, ?_⟩, hl⟩
 rcases h2 with h2 | ⟨hne, _⟩
 ·exact .inl h2
 ·exact absurd rfl hne
theorem TubeP.dlt {TB DT : Nat} {rem : List UInt8} {w : World} (h : TubeP TB DT rem w) (hr : rem ≠ []) : DT < w.heap.size := by
 obtain ⟨⟨v, m, h1, h2⟩, hl⟩ := h
 rcases h2 with h2 | ⟨hne, D, o, c, rfl, e1, e2, e3, e4⟩
 ·exact absurd h2.1 hr
 ·have := BytesAt.lt (A := fun _ => True) hne e4
  rw [← e3.1]; exact this
abbrev crV0 : List Value := [.int .i64 0, .slice none 0 0, .bool false, .int .i64 0]
theorem conf_cells {w : World} {g : Nat} {v0 v1 v2 v3 v4 v5 v6 : Value} {T : TypeId} (h : w.heap[g]? = some (.cells #[v0, v1, v2, v3, v4, v5, v6] T (0, 0))) : w.cell? ⟨g, 0, none⟩ = some v0 ∧ w.cell? ⟨g, 1, none⟩ = some v1 ∧ w.cell? ⟨g, 2, none⟩ = some v2 ∧ w.cell? ⟨g, 3, none⟩ = some v3 ∧ w.cell? ⟨g, 4, none⟩ = some v4 ∧ w.cell? ⟨g, 5, none⟩ = some v5 ∧ w.cell? ⟨g, 6, none⟩ = some v6 := by
 simp [cellAt h]
set_option maxRecDepth 100000 in
theorem newReader_at {A : Nat → Prop} (pr : Int) (c : Cfg) (hc : c.ok) (v : Value) (l : List UInt8) (w : World) (h : BytesAt A w v l) (hl : l.length ≤ 140737488355328) :
  Calls Tryz.prog 48 #[confV pr c, v] w fun e w' => ∃ R TB DT, e = .returned (.pointer (some ⟨R, 0, none⟩)) ∧ w.heap.size ≤ R ∧ w.heap.size ≤ TB ∧ w.heap.size ≤ DT ∧ DT < w'.heap.size ∧ ¬ R = DT ∧ RdP R TB DT pr c l.length crV0 l w' ∧ Keep (fun _ => False) w w' := by
 obtain ⟨a, cc, rfl⟩ := h.shapeL
 go_enter Tryz.func48, Tryz.ntmps48
 go_wp2_with fail
 have hk0 : Keep (fun _ => False) w (w.alloc (.cells #[.int .i64 pr, .bool c.plain, .bool c.sr, .bool c.sw, .int .i32 c.msg, .int .i32 c.cont, .int .i32 c.frame] 40 (0, 0))) := (Keep.refl _ w).alloc _
 have hp0 : (w.alloc (.cells #[.int .i64 pr, .bool c.plain, .bool c.sr, .bool c.sw, .int .i32 c.msg, .int .i32 c.cont, .int .i32 c.frame] 40 (0, 0))).heap[w.heap.size]? = some (.cells #[.int .i64 pr, .bool c.plain, .bool c.sr, .bool c.sw, .int .i32 c.msg, .int .i32 c.cont, .int .i32 c.frame] 40 (0, 0)) := heap_alloc_new w _
 obtain ⟨n, hn⟩ : ∃ n, w.heap.size = n := ⟨_, rfl⟩
 rw [hn] at hp0 ⊢
 generalize w.alloc (.cells #[.int .i64 pr, .bool c.plain, .bool c.sr, .bool c.sw, .int .i32 c.msg, .int .i32 c.cont, .int .i32 c.frame] 40 (0, 0)) = w1 at *
 have HN := hdd hn
 have HP := hdd hp0
 obtain ⟨c0, c1, c2, c3, c4, c5, c6⟩ := conf_cells hp0
 clear hn hp0
 go_region_with (go_at_call 80; refine (newTube_at pr c _ l w1.drew (h.keep hk0.drew (fun _ _ => id))).mono ?_; rintro e w2 ⟨TB, DT, rfl, h1, h2, h3, h4⟩; have hp2 := (h4.block n (lt_of_heap HP.out) id).trans HP.out; obtain ⟨q0, q1, q2, q3, q4, q5, q6⟩ := conf_cells hp2; have HP2 := hdd hp2; clear hp2)
 all_goals
  go_wp2_with fail
  go_ret
  have hlt : TB < w2.heap.size := lt_of_cell h3.c0
  have hN := HN.out
  have h02 := hk0.size
  have h12 := h4.size
  simp at h1 h2 h12
  by_cases hl0 : l = []
  ·subst hl0
   exact ⟨w2.heap.size, TB, TB, rfl, by omega, by omega, by omega, by simp; omega, by omega, ⟨heap_alloc_new w2 _, h3.re.fresh ((Keep.refl _ w2).alloc _), by omega, hc, by simp⟩, ((hk0.drew).then h4).alloc _⟩
  ·have hDT := h3.dlt hl0
   exact ⟨w2.heap.size, TB, DT, rfl, by omega, by omega, by omega, by simp; omega, by omega, ⟨heap_alloc_new w2 _, h3.fresh ((Keep.refl _ w2).alloc _), by omega, hc, by omega⟩, ((hk0.drew).then h4).alloc _⟩
theorem left_at {R TB DT : Nat} {pr : Int} {c : Cfg} {n : Int} {tl : List Value} {rem : List UInt8} {w : World} (h : RdP R TB DT pr c n tl rem w) :
  Calls Tryz.prog 63 #[.pointer (some ⟨R, 0, none⟩)] w fun e w' => e = .returned (.int .i64 rem.length) ∧ w = w' := by
 obtain ⟨v, m, hb, hv⟩ := h.tube.blk
 have c7 := h.c7
 have c4 := cellAt hb 4
 simp at c4
 obtain ⟨a, cc, rfl⟩ := hv.shapeL
 have hl := h.tube.len
 go_enter Tryz.func63, Tryz.ntmps63
 go_wp2_with fail
 go_ret
 exact ⟨rfl, rfl⟩
abbrev Bin.no (c : Cfg) : Int := c.b
abbrev Bin.st0 (l : List UInt8) : Bin.St := l
abbrev Bin.rem (s : Bin.St) : List UInt8 := s
theorem Bin.madeD {E : Env} {MB B D : Nat} {c : Cfg} {l : List UInt8} {w : World} (hg : Glob E w) (hm : Mem E w MB B D l) (hc : c.ok) (hl : l.length ≤ 140737488355328) :
  Calls Tryz.prog 35 #[confV (Bin.no c) c, memV MB] w fun e w' => ∃ K : Bin.Ctx, e = .returned (Bin.V K) ∧ K.E = E ∧ K.MB = MB ∧ K.B = B ∧ K.D = D ∧ K.c = c ∧ Bin.Inv K (Bin.st0 l) w' ∧ Keep (fun _ => False) w w' ∧ ∀ i, Bin.M K w' i → B = i ∨ w.heap.size ≤ i := by
 refine (protocol_bin c.b c.b_ne' c MB w).mono ?_
 rintro e w' ⟨P, a, rfl, hP, hPb, hcfg, hk⟩
 exact ⟨⟨E, P, MB, B, D, a, c⟩, rfl, rfl, rfl, rfl, rfl, rfl, bin_inv hg hm hP hPb hcfg hk hc hl, hk, fun i x => x.elim .inl (fun e => .inr (e ▸ hP))⟩
theorem Bin.made {E : Env} {MB B D : Nat} {c : Cfg} {l : List UInt8} {w : World} (hg : Glob E w) (hm : Mem E w MB B D l) (hc : c.ok) (hl : l.length ≤ 140737488355328) :
  Calls Tryz.prog 35 #[confV (Bin.no c) c, memV MB] w fun e w' => ∃ K : Bin.Ctx, e = .returned (Bin.V K) ∧ K.E = E ∧ K.MB = MB ∧ K.B = B ∧ K.c = c ∧ Bin.Inv K (Bin.st0 l) w' ∧ Keep (fun _ => False) w w' ∧ ∀ i, Bin.M K w' i → B = i ∨ w.heap.size ≤ i := by
 refine (Bin.madeD hg hm hc hl).mono ?_
 rintro e w' ⟨K, h1, h2, h3, h4, _, h5, h6, h7, h8⟩
 exact ⟨K, h1, h2, h3, h4, h5, h6, h7, h8⟩
theorem Bin.bufI {K : Bin.Ctx} {s : Bin.St} {w : World} (h : Bin.Inv K s w) : ∃ D, Mem K.E w K.MB K.B D (Bin.rem s) := ⟨_, h.p.mem⟩
theorem Bin.bufS {K : Bin.Ctx} {w : World} (h : Bin.Some K w) : ∃ D s, Mem K.E w K.MB K.B D s ∧ Glob K.E w := ⟨_, _, h.choose_spec.mem, h.choose_spec.glob⟩
theorem Bin.len (K : Bin.Ctx) (s : Bin.St) : (Bin.pr K).len s = (Bin.rem s).length := rfl
theorem Bin.pr_c' (K : Bin.Ctx) : Bin.pr K = Bin.pr (Bin.K0 K.c) := rfl
theorem Bin.room0 (K : Bin.Ctx) (l : List UInt8) (h : l.length ≤ 1099511627775) : (Bin.pr K).Room (Bin.st0 l) := by show l.length + 0 < _; omega
theorem Bin.lt_end (n : Nat) (l : List UInt8) : endK n l < 50 := by unfold endK; repeat' split
                                                                    all_goals omega
theorem Bin.lt_full (n : Nat) (l : List UInt8) : fullK n l < 50 := by unfold fullK; split <;> omega
theorem Bin.lt_str (l : List UInt8) (c : Cfg) : strK l c < 50 := by unfold strK sizeK fullK; repeat' split
                                                                    all_goals omega
theorem Bin.lt_cont (a b d : Int) (c : Cfg) : contK a b d c < 50 := by unfold contK; repeat' split
                                                                       all_goals omega
theorem Bin.lt_sc (K : Bin.Ctx) (t : Int) (s : Bin.St) : (Bin.pr K).scK t s < 50 := by
 show Bin.scK K.c t s < 50
 unfold Bin.scK; repeat' split
 all_goals first | exact Bin.lt_end _ _ | exact Bin.lt_full _ _ | exact Bin.lt_str _ _
theorem Bin.lt_f (K : Bin.Ctx) (s : Bin.St) : (Bin.pr K).fK s < 50 := by
 show fieldK s < 50
 unfold fieldK; repeat' split
 all_goals first | decide | exact Bin.lt_full _ _
theorem Bin.lt_m (K : Bin.Ctx) (s : Bin.St) : (Bin.pr K).mK s < 50 := by
 show mapK s K.c < 50
 unfold mapK; repeat' split
 all_goals first | decide | exact Bin.lt_cont _ _ _ _ | exact Bin.lt_full _ _
theorem Bin.lt_l (K : Bin.Ctx) (s : Bin.St) : (Bin.pr K).lK s < 50 := by
 show listK s K.c < 50
 unfold listK; repeat' split
 all_goals first | decide | exact Bin.lt_cont _ _ _ _ | exact Bin.lt_full _ _
abbrev Bin.named (c : Cfg) (p : Int) : Prop := p = c.b
theorem bmK_bd (s : List UInt8) (c : Cfg) : 0 ≤ bmK s c ∧ bmK s c ≤ 16 := by
 have h1 := strK_cases (s.drop 4) c
 have h2 := strK_cases s c
 have h3 := fullK_cases 4 (strRem (s.drop 4))
 have h4 := fullK_cases 4 ((strRem s).drop 1)
 have h5 := endK1_cases (strRem s)
 unfold bmK; repeat' split
 all_goals omega
abbrev Bin.gK (c : Cfg) (s : Bin.St) : Int := bmK s c
theorem Bin.gK_bd (c : Cfg) (s : Bin.St) : 0 ≤ Bin.gK c s ∧ Bin.gK c s ≤ 16 := bmK_bd s c
abbrev Bin.gS (s : Bin.St) : Bin.St := bmS s
abbrev Bin.gT (s : Bin.St) : Int := bmT s
abbrev Bin.gN (s : Bin.St) : Int := bmN s
abbrev Bin.gB (s : Bin.St) : List UInt8 := bmB s
theorem bmS_le (s : List UInt8) : (bmS s).length ≤ s.length := by
 unfold bmS strRem; split <;> simp <;> omega
theorem Bin.gS_room {K : Bin.Ctx} {s : Bin.St} (h : (Bin.pr K).Room s) : (Bin.pr K).Room (Bin.gS s) := by
 have h1 : s.length + 0 < 1099511627776 := h
 have h2 := bmS_le s
 show (bmS s).length + 0 < 1099511627776
 omega
theorem Bin.gN_w (s : Bin.St) : IntKind.i32.wrap (Bin.gN s) = Bin.gN s := by
 show IntKind.i32.wrap (bmN s) = bmN s
 rw [IntKind.wrap_i32]
 unfold bmN
 split <;> simp only [wrap32] <;> omega
theorem Bin.gT_w (s : Bin.St) : IntKind.i64.wrap (Bin.gT s) = Bin.gT s := by
 have h : -128 ≤ bmT s ∧ bmT s ≤ 255 := by
  unfold bmT
  split
  ·have := lo8_bd (strN s); omega
  ·split
   ·rename_i b _ _
    have hb := b.toNat_lt
    simp only [IntKind.wrap, IntKind.bits, IntKind.signed]
    simp
    omega
   ·omega
 exact IntWalk.i64_in _ (by show -9223372036854775808 ≤ bmT s ∧ bmT s ≤ 9223372036854775807; omega)
theorem Bin.gB_le (l : List UInt8) (h : l.length ≤ 140737488355328) : (⟨(Bin.gB (Bin.st0 l)).toArray⟩ : ByteArray).size ≤ 140737488355328 := by
 show (bmB l).toArray.size ≤ _
 have : (bmB l).length ≤ l.length := by unfold bmB strS; split <;> simp <;> omega
 simp; omega
theorem Bin.readMessageBegin {K : Bin.Ctx} {s : Bin.St} {w : World} (h : Bin.Inv K s w) :
  Calls Tryz.prog 309 #[.pointer (some ⟨K.P, 0, none⟩), ctxV] w fun e w' => ∃ l t q ev, e = .returned (.tuple #[.string l, .int .i32 t, .int .i32 q, ev]) ∧ Bin.Post K w w' (Bin.gK K.c s) ev (Bin.gS s) ∧ (Bin.gK K.c s = 0 → l = ⟨(Bin.gB s).toArray⟩ ∧ t = Bin.gT s ∧ q = Bin.gN s) := by
 refine (bin_msgBegin h.p).mono ?_
 rintro e w' ⟨l, t, q, ev, rem', rfl, he, hp, hk, hv⟩
 refine ⟨l, t, q, ev, rfl, ⟨he, fun hz => ?_, ⟨_, hp⟩, ⟨hk, fun _ _ x => x⟩⟩, fun hz => ⟨(hv hz).1, (hv hz).2.1, (hv hz).2.2.1⟩⟩
 obtain ⟨_, _, _, rfl⟩ := hv hz
 exact ⟨hp, Nat.le_trans (bmS_le s) h.len⟩
theorem Bin.readMessageEnd (p c : Value) (w : World) : Calls Tryz.prog 310 #[p, c] w fun e w' => e = .returned .nilIface ∧ w = w' := bin_msgEnd p c w
theorem Bin.newReaderG {A : Nat → Prop} (c : Cfg) (hc : c.ok) (v : Value) (l : List UInt8) (w : World) (h : BytesAt A w v l) (hl : l.length ≤ 140737488355328) :
  Calls Tryz.prog 48 #[confV (Bin.no c) c, v] w fun e w' => ∃ r : Rdr Bin.St, e = .returned (.pointer (some ⟨r.R, 0, none⟩)) ∧ r.Ok ∧ r.pr = Bin.pr (Bin.K0 c) ∧ r.Inv (Bin.st0 l) w' ∧ Keep (fun _ => False) w w' ∧ (∀ i, r.M w' i → w.heap.size ≤ i) ∧
   (∀ s w2, r.Inv s w2 → Calls Tryz.prog 63 #[.pointer (some ⟨r.R, 0, none⟩)] w2 fun e w3 => e = .returned (.int .i64 (r.pr.len s)) ∧ w2 = w3) ∧
   (∀ s w2, r.Inv s w2 → r.Step 0 w2 (r.GP w2 (Bin.gK c s) (Bin.gS s) (Bin.gT s) 0 0 0 (Bin.gN s) (Bin.gB s))) ∧
   (∀ s w2, r.Inv s w2 → r.Step 1 w2 (r.GP w2 0 s 0 0 0 0 0 [])) := by
 refine (newReader_at c.b c hc v l w h hl).mono ?_
 rintro e w2 ⟨R, TB, DT, rfl, hR1, hTB, hDT, hDl, _, h2, hk2⟩
 refine ⟨Bin.rdr R TB DT (Bin.K0 c) l.length crV0, rfl, Bin.rdr_ok, rfl, ⟨h2, hDl⟩, hk2, ?_, fun s w2 hs => left_at hs.1, fun s w2 hs => ?_, fun s w2 hs => ?_⟩
 ·rintro i (rfl | rfl | rfl) <;> assumption
 ·exact (rd_step 0 (by omega) (by omega) (by omega) hs.1 (fun w h => bin_op0 h)).mono (fun e w' hg => Bin.gp hs.1 hs.2 hg)
 ·exact (rd_step 1 (by omega) (by omega) (by omega) hs.1 (fun w h => bin_op1 h)).mono (fun e w' hg => Bin.gp hs.1 hs.2 hg)
theorem Bin.msg (K : Bin.Ctx) : Rp.Msg (Bin.rp K) (Bin.gK K.c) Bin.gS Bin.gT Bin.gN Bin.gB 309 310 where
 mb := ⟨fun w => by kernel_rfl, fun w => by kernel_rfl, fun args w => by kernel_rfl⟩
 me := ⟨fun w => by kernel_rfl, fun w => by kernel_rfl, fun args w => by kernel_rfl⟩
 rb h := (Bin.readMessageBegin h).mono (fun e w' r => by obtain ⟨l, t, q, ev, rfl, hp, hv⟩ := r; exact ⟨l, t, q, ev, rfl, hp.rp, hv⟩)
 re := Bin.readMessageEnd
def Bin.pm (c : Cfg) (hc : c.ok) : Pm Bin.St where
 c := c
 no := Bin.no c
 pr := Bin.pr (Bin.K0 c)
 st0 := Bin.st0
 rem := Bin.rem
 gK := Bin.gK c
 gS := Bin.gS
 gT := Bin.gT
 gN := Bin.gN
 gB := Bin.gB
 len := Bin.len (Bin.K0 c)
 lt := ⟨fun t s => Bin.lt_sc (Bin.K0 c) t s, fun s => Bin.lt_f (Bin.K0 c) s, fun s => Bin.lt_m (Bin.K0 c) s, fun s => Bin.lt_l (Bin.K0 c) s⟩
 gK_bd := Bin.gK_bd c
 room0 := Bin.room0 (Bin.K0 c)
 gS_room _ h := Bin.gS_room h
 gN_w := Bin.gN_w
 gT_w := Bin.gT_w
 gB_le := Bin.gB_le
 made hg hm hl := (Bin.made hg hm hc hl).mono (fun e w' r => by
  obtain ⟨K, rfl, rfl, rfl, rfl, rfl, hi, hk, hM⟩ := r
  exact ⟨Bin.rp K, _, _, rfl, rfl, Bin.pr_c' K, hi, hk, fun i m => hM i m, fun s W h => Bin.bufI h, fun W h => Bin.bufS h, Bin.msg K⟩)
 read v l w h hl := Bin.newReaderG c hc v l w h hl
end Go.Proofs.YtjekbomlpcdojaaGreatDoor
