/- Part 20 of the proof: Ref0, Ref1, Ref2, Imp1, Get2, Kn1, Law1. -/
import Derived.Test.YtdmegokbfakjpaaGreatDoorA16
import Derived.Test.YtdmegokbfakjpaaGreatDoorA12
import Derived.Test.YtdmegokbfakjpaaGreatDoorA18
import Derived.Test.YtdmegokbfakjpaaGreatDoorA15
import Derived.Test.YtdmegokbfakjpaaGreatDoorA10
import Derived.Test.YtdmegokbfakjpaaGreatDoorA17
import Derived.Test.YtdmegokbfakjpaaGreatDoorA19
import Derived.Deep.RegionLaw
import Derived.Deep.RegionLawGrows
import Derived.Deep.RegionWith
set_option linter.unusedVariables false
set_option linter.unusedSimpArgs false
set_option linter.unusedSectionVars false
/- The reference's set-up: a tube that is a buffer of bytes, a reader over it. -/
namespace Go.Proofs.YtdmegokbfakjpaaGreatDoor
open Go Go.RowKit

theorem run_append_none0 (a : Option Addr) (c : Nat) (w : World) :
    (Builtin.append_ #[24, 24] 24 #[nilB, .slice a 0 c]).run Tryz.prog w = .ok nilB w := by
  obtain ⟨i, hi, hz, hs, hb⟩ := info_parts u8info
  have hl : ∀ (x : Addr), (loadCells x 0).run Tryz.prog w = .ok #[] w := fun x => by simpa using run_loadCells_list (P := Tryz.prog) w x [] (by simp)
  cases a with
  | none => simp [Builtin.append_, run_underlying Tryz.underlying24, sizeOf, typeInfo, hi, Builtin.lenOf, run_firstCells_none]
  | some ad => simp [Builtin.append_, run_underlying Tryz.underlying24, sizeOf, typeInfo, hi, Builtin.lenOf, Builtin.firstCells, hl]

theorem step_append_none0 {ops : Array Oper} {o : Oper} {a : Act} {w : World} {K : Act → World → Prop} {Q : Exit → Act → World → Prop} {E : Prop} (hg : o.guard = none) (s x : Operand)
    (hop : o.op = Op.call { callee := Callee.builtin Builtin.append, args := #[s, x], argTypes := #[24, 24] }) (hty : o.type = 24)
    (ad : Option Addr) (c : Nat) (hs : a.eval s = nilB) (hx : a.eval x = .slice ad 0 c)
    (hK : K (a.put o.dst nilB) w) : if Region.wanted o (yielded ops a.tmps) = true then Oper.wp Tryz.prog o a w K Q else E := by
  have hw : Region.wanted o (yielded ops a.tmps) = true := by simp [Region.wanted, hg]
  rw [if_pos hw]
  have hrun := run_append_none0 ad c w
  unfold Oper.wp
  simp [execOp, hop, hty, resolve, invoke, builtin, hs, hx, hrun, Result.andThen]
  exact hK

theorem step_nilB {ops : Array Oper} {o : Oper} {a : Act} {w : World} {K : Act → World → Prop} {Q : Exit → Act → World → Prop} {E : Prop} (hg : o.guard = none) (s x : Operand)
    (hop : o.op = Op.call { callee := Callee.builtin Builtin.append, args := #[s, x], argTypes := #[24, 24] })
    (hs : a.eval s = nilB) (ad : Addr) (m c : Nat) (l : List UInt8) (hx : a.eval x = .slice (some ad) m c) (hl : l.length = m) (hm : 0 < m) (hb : m ≤ 140737488355328)
    (hc : ∀ j b, l[j]? = some b → w.cell? (ad.add j) = some (.int .u8 (b.toNat : Int)))
    (hK : ∀ v' w', BytesAt (w.heap.size ≤ ·) w' v' l → Keep (fun _ => False) w w' → K (a.put o.dst v') w') : if Region.wanted o (yielded ops a.tmps) = true then Oper.wp Tryz.prog o a w K Q else E := by
  have h0 := u8info
  obtain ⟨i, hi, h1⟩ := Option.map_eq_some_iff.1 h0
  simp only [Prod.mk.injEq] at h1
  obtain ⟨hz, hsz, hby⟩ := h1
  refine step_append_grows hg s x 24 hop 5 i (.int .u8 0) 1 1 Tryz.underlying24 hi hz hsz hby rfl (by omega) none 0 0 [] hs (fun _ => ⟨rfl, rfl⟩) rfl (fun _ h => by cases h)
    ad m c (bcells l) hx (by simp; omega) (fun j u hj => ?_) (fun u hu => ?_) (by omega) (by simp only [maxLen]; omega) (by omega) (fun v' w' r1 r2 => hK v' w' (.row (by simpa using r1) hl hb) ((Keep.refl _ w).grown r2 (fun k hk => by cases hk)))
  · simp [bcells] at hj
    obtain ⟨b, hb1, rfl⟩ := hj
    exact hc j b hb1
  · obtain ⟨b, _, rfl⟩ := List.mem_map.1 hu
    rfl

abbrev pipeV (pr : Int) (c : Cfg) (v : Value) : Value := .agg #[.int .i64 0, .int .i64 0, .int .i64 pr, .bool c.plain, .bool c.sr, .bool c.sw, .int .i32 c.msg, .int .i32 c.cont, .int .i32 c.frame, v, .slice none 0 0]

abbrev pipeC (pr : Int) (c : Cfg) (v : Value) : Array Value := #[.int .i64 0, .int .i64 0, .int .i64 pr, .bool c.plain, .bool c.sr, .bool c.sw, .int .i32 c.msg, .int .i32 c.cont, .int .i32 c.frame, v, .slice none 0 0]
abbrev tubeC (v : Value) (m : Int) : Array Value := #[.int .i64 0, nilB, nilB, .int .i64 0, v, nilB, .int .i64 4096, .int .i64 0, nilB, .bool false, .int .i64 m, nilB, nilB, .int .i64 4096, .bool false, .bool false, .bool false, .bool false]

theorem pipe_conf {w : World} {g : Nat} {pr : Int} {c : Cfg} {v : Value} (h : w.heap[g]? = some (.cells (pipeC pr c v) 131 (0, 0))) : w.cell? ⟨g, 2, none⟩ = some (.int .i64 pr) ∧ w.cell? ⟨g, 3, none⟩ = some (.bool c.plain) ∧ w.cell? ⟨g, 4, none⟩ = some (.bool c.sr) ∧ w.cell? ⟨g, 5, none⟩ = some (.bool c.sw) ∧
    w.cell? ⟨g, 6, none⟩ = some (.int .i32 c.msg) ∧ w.cell? ⟨g, 7, none⟩ = some (.int .i32 c.cont) ∧ w.cell? ⟨g, 8, none⟩ = some (.int .i32 c.frame) ∧ w.cell? ⟨g, 9, none⟩ = some v ∧ w.cell? ⟨g, 0, none⟩ = some (.int .i64 0) ∧ w.cell? ⟨g, 10, none⟩ = some nilB := by
  simp [cellAt h]

set_option maxRecDepth 100000 in
set_option maxHeartbeats 4000000 in
theorem newTube_nil (pr : Int) (c : Cfg) (a : Option Addr) (cc : Nat) (w : World) :
    Calls Tryz.prog 34 #[pipeV pr c (.slice a 0 cc)] w fun e w' => ∃ TB m, e = .returned (.pointer (some ⟨TB, 0, none⟩)) ∧ w.heap.size ≤ TB ∧ w'.heap[TB]? = some (.cells (tubeC nilB m) 143 (0, 0)) ∧ Keep (fun _ => False) w w' := by
  have hk0 : Keep (fun _ => False) w ((w.alloc (.cells (pipeC pr c (.slice a 0 cc)) 131 (0, 0))).alloc (.cells (tubeC nilB 0) 143 (0, 0))) := ((Keep.refl _ w).alloc _).alloc _
  have hp0 : ((w.alloc (.cells (pipeC pr c (.slice a 0 cc)) 131 (0, 0))).alloc (.cells (tubeC nilB 0) 143 (0, 0))).heap[w.heap.size]? = some (.cells (pipeC pr c (.slice a 0 cc)) 131 (0, 0)) := (Below.heap_alloc _ _ _ (by simp)).trans (heap_alloc_new w _)
  have ht0 : ((w.alloc (.cells (pipeC pr c (.slice a 0 cc)) 131 (0, 0))).alloc (.cells (tubeC nilB 0) 143 (0, 0))).heap[w.heap.size + 1]? = some (.cells (tubeC nilB 0) 143 (0, 0)) := heap_alloc_at (by simp) _
  go_enter Tryz.func34, Tryz.ntmps34
  go_wp2_with fail
  obtain ⟨n, hn⟩ : ∃ n, w.heap.size = n := ⟨_, rfl⟩
  rw [hn] at hp0 ht0 ⊢
  generalize (w.alloc (.cells (pipeC pr c (.slice a 0 cc)) 131 (0, 0))).alloc (.cells (tubeC nilB 0) 143 (0, 0)) = w1 at *
  have HN := Lib.hid hn
  have c4 := cellAt ht0 4
  have f4 := freeAt ht0 4
  have c9 := (pipe_conf hp0).2.2.2.2.2.2.2.1
  have HP := Lib.hid hp0
  have HT := Lib.hid ht0
  have ht2 : (w1.setCell ⟨n + 1, 4, none⟩ nilB).drew.heap[n + 1]? = some (.cells (tubeC nilB 0) 143 (0, 0)) := heap_set_same (i := 4) ht0 nilB
  have hp2 : (w1.setCell ⟨n + 1, 4, none⟩ nilB).drew.heap[n]? = some (.cells (pipeC pr c (.slice a 0 cc)) 131 (0, 0)) := (heap_set_other (p := ⟨n + 1, 4, none⟩) _ (by simp)).trans hp0
  have hk2 : Keep (fun _ => False) w (w1.setCell ⟨n + 1, 4, none⟩ nilB).drew := ((hk0.set (n + 1) 4 (fun h => by omega) nilB)).drew
  have HP2 := Lib.hid hp2
  have HT2 := Lib.hid ht2
  clear hn hp0 ht0 hp2 ht2
  simp at c4
  go_region_law (refine step_append_none0 rfl (.tmp 36) (.tmp 38) rfl rfl a cc rfl rfl ?_)
  all_goals
    clear c4 f4 c9
    generalize (w1.setCell ⟨n + 1, 4, none⟩ nilB).drew = w2 at *
    have d0 := cellAt HT2.out 0
    have d10 := cellAt HT2.out 10
    have e10 := freeAt HT2.out 10
    obtain ⟨p2, p3, p4, p5, p6, p7, p8, _, _, _⟩ := pipe_conf HP2.out
    simp at d0 d10
    go_wp2_with fail
    refine (limits pr c w2).mono ?_
    rintro e w3 ⟨fr, sr, sw, rfl, hk3⟩
    have hN := HN.out
    have ht3 := (hk3.block (n + 1) (lt_of_heap HT2.out) id).trans HT2.out
    have HT3 := Lib.hid ht3
    have d10 := cellAt ht3 10
    have e10 := freeAt ht3 10
    simp at d10
    clear ht3 hN
    go_wp2_with fail
    go_ret
    refine ⟨n + 1, _, rfl, by have := HN.out; omega, heap_set_same (i := 10) HT3.out _, ?_⟩
    exact (hk2.then hk3).set (n + 1) 10 (fun h => by have := HN.out; omega) _

set_option maxRecDepth 100000 in
set_option maxHeartbeats 4000000 in
theorem newTube_some {A : Nat → Prop} (pr : Int) (c : Cfg) (D0 o L cc : Nat) (l : List UInt8) (w : World) (hl : l.length = L) (h0 : 0 < L) (hb : L ≤ 140737488355328) (hc : ∀ j b, l[j]? = some b → w.cell? ⟨D0, o + j, none⟩ = some (.int .u8 (b.toNat : Int))) :
    Calls Tryz.prog 34 #[pipeV pr c (.slice (some ⟨D0, o, none⟩) L cc)] w fun e w' => ∃ TB m v, e = .returned (.pointer (some ⟨TB, 0, none⟩)) ∧ w.heap.size ≤ TB ∧ w'.heap[TB]? = some (.cells (tubeC v m) 143 (0, 0)) ∧ BytesAt (TB < ·) w' v l ∧ Keep (fun _ => False) w w' := by
  have hne : l ≠ [] := by intro e; simp [e] at hl; omega
  have hD : D0 < w.heap.size := BytesAt.lt (A := A) hne hc
  have hk0 : Keep (fun _ => False) w ((w.alloc (.cells (pipeC pr c (.slice (some ⟨D0, o, none⟩) L cc)) 131 (0, 0))).alloc (.cells (tubeC nilB 0) 143 (0, 0))) := ((Keep.refl _ w).alloc _).alloc _
  have hp0 : ((w.alloc (.cells (pipeC pr c (.slice (some ⟨D0, o, none⟩) L cc)) 131 (0, 0))).alloc (.cells (tubeC nilB 0) 143 (0, 0))).heap[w.heap.size]? = some (.cells (pipeC pr c (.slice (some ⟨D0, o, none⟩) L cc)) 131 (0, 0)) := (Below.heap_alloc _ _ _ (by simp)).trans (heap_alloc_new w _)
  have ht0 : ((w.alloc (.cells (pipeC pr c (.slice (some ⟨D0, o, none⟩) L cc)) 131 (0, 0))).alloc (.cells (tubeC nilB 0) 143 (0, 0))).heap[w.heap.size + 1]? = some (.cells (tubeC nilB 0) 143 (0, 0)) := heap_alloc_at (by simp) _
  have hs0 : ((w.alloc (.cells (pipeC pr c (.slice (some ⟨D0, o, none⟩) L cc)) 131 (0, 0))).alloc (.cells (tubeC nilB 0) 143 (0, 0))).heap.size = w.heap.size + 2 := by simp
  have HC := Lib.hid hc
  have HL := Lib.hid hl
  have HNE := Lib.hid hne
  clear hc hl hne
  go_enter Tryz.func34, Tryz.ntmps34
  go_wp2_with fail
  obtain ⟨n, hn⟩ : ∃ n, w.heap.size = n := ⟨_, rfl⟩
  rw [hn] at hp0 ht0 hs0 hD ⊢
  generalize (w.alloc (.cells (pipeC pr c (.slice (some ⟨D0, o, none⟩) L cc)) 131 (0, 0))).alloc (.cells (tubeC nilB 0) 143 (0, 0)) = w1 at *
  have HN := Lib.hid hn
  have HS := Lib.hid hs0
  have c4 := cellAt ht0 4
  have c9 := (pipe_conf hp0).2.2.2.2.2.2.2.1
  have HP := Lib.hid hp0
  have HT := Lib.hid ht0
  have HSRC : Hid (∀ j b, l[j]? = some b → w1.cell? ((⟨D0, o, none⟩ : Addr).add j) = some (.int .u8 (b.toNat : Int))) := Lib.hid (fun j b hj => by
    rw [Addr.add_lit]
    exact (hk0.cell (p := ⟨D0, o + j, none⟩) (by simp; omega) id).trans (HC.out j b hj))
  clear hn hp0 ht0 hs0
  simp at c4
  go_region_law (refine step_nilB rfl (.tmp 36) (.tmp 38) rfl rfl ⟨D0, o, none⟩ L cc l rfl HL.out h0 hb HSRC.out ?_; intro v' w2 hbv hk; obtain ⟨va, vm, vc, rfl⟩ := hbv.shape; clear c4; have ht2 := (hk.block (n + 1) (lt_of_heap HT.out) id).trans HT.out; have c4 := cellAt ht2 4; have f4 := freeAt ht2 4; simp at c4; have HT2 := Lib.hid ht2; have HBV := Lib.hid hbv; clear ht2 hbv)
  all_goals
    have ht3 : (w2.setCell ⟨n + 1, 4, none⟩ (.slice va vm vc)).heap[n + 1]? = some (.cells (tubeC (.slice va vm vc) 0) 143 (0, 0)) := heap_set_same (i := 4) HT2.out (.slice va vm vc)
    have hp3 : (w2.setCell ⟨n + 1, 4, none⟩ (.slice va vm vc)).heap[n]? = some (.cells (pipeC pr c (.slice (some ⟨D0, o, none⟩) L cc)) 131 (0, 0)) := (heap_set_other (p := ⟨n + 1, 4, none⟩) _ (by simp)).trans ((hk.block n (lt_of_heap HP.out) id).trans HP.out)
    have hk2 : Keep (fun _ => False) w (w2.setCell ⟨n + 1, 4, none⟩ (.slice va vm vc)) := ((hk0.drew.then hk).set (n + 1) 4 (fun h => by have := HN.out; omega) (.slice va vm vc))
    have hb3 : BytesAt (n + 1 < ·) (w2.setCell ⟨n + 1, 4, none⟩ (.slice va vm vc)) (.slice va vm vc) l := by
      have e1 : BytesAt (n + 1 < ·) w2 (.slice va vm vc) l := HBV.out.weak (fun i _ hi => by have := HS.out; simp at hi; omega)
      exact e1.keep (((Keep.refl (fun i => n + 1 = i) w2).set (n + 1) 4 (fun _ => rfl) (.slice va vm vc))) (fun i hi e => by omega)
    have HP2 := Lib.hid hp3
    have HT3 := Lib.hid ht3
    have HB3 := Lib.hid hb3
    clear c4 f4 c9 ht3 hp3 hb3 hk
    generalize (w2.setCell ⟨n + 1, 4, none⟩ (.slice va vm vc)) = w3 at *
    have d0 := cellAt HT3.out 0
    have d10 := cellAt HT3.out 10
    have e10 := freeAt HT3.out 10
    obtain ⟨p2, p3, p4, p5, p6, p7, p8, _, _, _⟩ := pipe_conf HP2.out
    simp at d0 d10
    go_wp2_with fail
    refine (limits pr c w3).mono ?_
    rintro e w4 ⟨fr, sr, sw, rfl, hk3⟩
    have ht4 := (hk3.block (n + 1) (lt_of_heap HT3.out) id).trans HT3.out
    have HT4 := Lib.hid ht4
    have d10 := cellAt ht4 10
    have e10 := freeAt ht4 10
    simp at d10
    clear ht4
    go_wp2_with fail
    go_ret
    refine ⟨n + 1, _, .slice va vm vc, rfl, by have := HN.out; omega, heap_set_same (i := 10) HT4.out _, ?_, ?_⟩
    · exact (HB3.out.keep hk3 (fun _ _ x => x)).keep ((Keep.refl (fun i => n + 1 = i) w4).set (n + 1) 10 (fun _ => rfl) _) (fun i hi e => by omega)
    · exact (hk2.then hk3).set (n + 1) 10 (fun h => by have := HN.out; omega) _

/-- A tube over bytes. -/
theorem newTube_at {A : Nat → Prop} (pr : Int) (c : Cfg) (v : Value) (l : List UInt8) (w : World) (h : BytesAt A w v l) :
    Calls Tryz.prog 34 #[pipeV pr c v] w fun e w' => ∃ TB DT, e = .returned (.pointer (some ⟨TB, 0, none⟩)) ∧ w.heap.size ≤ TB ∧ w.heap.size ≤ DT ∧ TubeP TB DT l w' ∧ Keep (fun _ => False) w w' := by
  rcases h with ⟨rfl, a, cc, rfl⟩ | ⟨hne, D0, o, cc, rfl, h1, h2, h3, h4⟩
  · refine (newTube_nil pr c a cc w).mono ?_
    rintro e w' ⟨TB, m, rfl, h1, h2, h3⟩
    exact ⟨TB, TB, rfl, h1, h1, ⟨⟨_, m, h2, .inl ⟨rfl, _, _, rfl⟩⟩, by simp⟩, h3⟩
  · refine (newTube_some (A := A) pr c D0 o l.length cc l w rfl (List.length_pos_iff.2 hne) h2 h4).mono ?_
    rintro e w' ⟨TB, m, v, rfl, h5, h6, h7, h8⟩
    rcases h7 with ⟨h, _⟩ | ⟨_, D, o', c', rfl, e1, e2, e3, e4⟩
    · exact absurd h hne
    · exact ⟨TB, D, rfl, h5, by omega, ⟨⟨_, m, h6, .inr ⟨hne, D, o', c', rfl, e1, e2, ⟨rfl, by omega⟩, e4⟩⟩, e2⟩, h8⟩

end Go.Proofs.YtdmegokbfakjpaaGreatDoor

/- The reference's set-up: a reader over bytes; its Skip. -/
namespace Go.Proofs.YtdmegokbfakjpaaGreatDoor
open Go Go.RowKit

theorem BytesAt.shapeL {A : Nat → Prop} {w : World} {v : Value} {l : List UInt8} (h : BytesAt A w v l) : ∃ a cc, v = .slice a l.length cc := by
  rcases h with ⟨rfl, a, c, rfl⟩ | ⟨_, D, o, c, rfl, _⟩
  · exact ⟨a, c, rfl⟩
  · exact ⟨_, c, rfl⟩

abbrev crV0 : List Value := [.int .i64 0, .slice none 0 0, .bool false, .int .i64 0]

theorem conf_cells {w : World} {g : Nat} {v0 v1 v2 v3 v4 v5 v6 : Value} {T : TypeId} (h : w.heap[g]? = some (.cells #[v0, v1, v2, v3, v4, v5, v6] T (0, 0))) : w.cell? ⟨g, 0, none⟩ = some v0 ∧ w.cell? ⟨g, 1, none⟩ = some v1 ∧ w.cell? ⟨g, 2, none⟩ = some v2 ∧ w.cell? ⟨g, 3, none⟩ = some v3 ∧ w.cell? ⟨g, 4, none⟩ = some v4 ∧ w.cell? ⟨g, 5, none⟩ = some v5 ∧ w.cell? ⟨g, 6, none⟩ = some v6 := by
  simp [cellAt h]

set_option maxRecDepth 100000 in
set_option maxHeartbeats 4000000 in
theorem newReader_at {A : Nat → Prop} (pr : Int) (c : Cfg) (hc : c.ok) (v : Value) (l : List UInt8) (w : World) (h : BytesAt A w v l) (hl : l.length ≤ 140737488355328) :
    Calls Tryz.prog 20 #[confV pr c, v] w fun e w' => ∃ R TB DT, e = .returned (.pointer (some ⟨R, 0, none⟩)) ∧ w.heap.size ≤ TB ∧ RdP R TB DT pr c l.length crV0 l w' ∧ Keep (fun _ => False) w w' := by
  obtain ⟨a, cc, rfl⟩ := h.shapeL
  go_enter Tryz.func20, Tryz.ntmps20
  go_wp2_with fail
  have hk0 : Keep (fun _ => False) w (w.alloc (.cells #[.int .i64 pr, .bool c.plain, .bool c.sr, .bool c.sw, .int .i32 c.msg, .int .i32 c.cont, .int .i32 c.frame] 31 (0, 0))) := (Keep.refl _ w).alloc _
  have hp0 : (w.alloc (.cells #[.int .i64 pr, .bool c.plain, .bool c.sr, .bool c.sw, .int .i32 c.msg, .int .i32 c.cont, .int .i32 c.frame] 31 (0, 0))).heap[w.heap.size]? = some (.cells #[.int .i64 pr, .bool c.plain, .bool c.sr, .bool c.sw, .int .i32 c.msg, .int .i32 c.cont, .int .i32 c.frame] 31 (0, 0)) := heap_alloc_new w _
  obtain ⟨n, hn⟩ : ∃ n, w.heap.size = n := ⟨_, rfl⟩
  rw [hn] at hp0 ⊢
  generalize w.alloc (.cells #[.int .i64 pr, .bool c.plain, .bool c.sr, .bool c.sw, .int .i32 c.msg, .int .i32 c.cont, .int .i32 c.frame] 31 (0, 0)) = w1 at *
  have HN := Lib.hid hn
  have HP := Lib.hid hp0
  obtain ⟨c0, c1, c2, c3, c4, c5, c6⟩ := conf_cells hp0
  clear hn hp0
  go_region_with (go_at_call 34; refine (newTube_at pr c _ l w1.drew (h.keep hk0.drew (fun _ _ => id))).mono ?_; rintro e w2 ⟨TB, DT, rfl, h1, h2, h3, h4⟩; have hp2 := (h4.block n (lt_of_heap HP.out) id).trans HP.out; obtain ⟨q0, q1, q2, q3, q4, q5, q6⟩ := conf_cells hp2; have HP2 := Lib.hid hp2; clear hp2)
  all_goals
    go_wp2_with fail
    go_ret
    have hlt : TB < w2.heap.size := lt_of_cell h3.c0
    exact ⟨w2.heap.size, TB, DT, rfl, by have := HN.out; have := hk0.size; simp at h1; omega, ⟨heap_alloc_new w2 _, h3.fresh ((Keep.refl _ w2).alloc _), by omega, hc, by omega⟩, ((hk0.drew).then h4).alloc _⟩

set_option maxHeartbeats 1000000 in
theorem left_at {R TB DT : Nat} {pr : Int} {c : Cfg} {n : Int} {tl : List Value} {rem : List UInt8} {w : World} (h : RdP R TB DT pr c n tl rem w) :
    Calls Tryz.prog 22 #[.pointer (some ⟨R, 0, none⟩)] w fun e w' => e = .returned (.int .i64 rem.length) ∧ w = w' := by
  obtain ⟨v, m, hb, hv⟩ := h.tube.blk
  have c7 := h.c7
  have c4 := cellAt hb 4
  simp at c4
  obtain ⟨a, cc, rfl⟩ := hv.shapeL
  have hl := h.tube.len
  go_enter Tryz.func22, Tryz.ntmps22
  go_wp2_with fail
  go_ret
  exact ⟨rfl, rfl⟩

end Go.Proofs.YtdmegokbfakjpaaGreatDoor

/- The reference: Skip by the binary protocol. -/
namespace Go.Proofs.YtdmegokbfakjpaaGreatDoor
open Go Go.RowKit

theorem and_255 (t : Int) : bits BinOp.and IntKind.i64 t 255 = ty8 t := by
  have e1 : BitVec.ofInt 64 t = BitVec.ofNat 64 (t % 18446744073709551616).toNat := by
    apply BitVec.eq_of_toNat_eq
    simp only [BitVec.toNat_ofInt, BitVec.toNat_ofNat]
    omega
  have e2 : BitVec.ofInt 64 255 = BitVec.ofNat 64 255 := by decide
  have h3 : (t % 18446744073709551616).toNat &&& 255 = (t % 18446744073709551616).toNat % 256 := by
    have := Nat.and_two_pow_sub_one_eq_mod (t % 18446744073709551616).toNat 8
    simpa using this
  show IntKind.i64.wrap ((BitVec.ofInt 64 t &&& BitVec.ofInt 64 255).toNat : Int) = _
  rw [e1, e2, ← BitVec.ofNat_and, h3, BitVec.toNat_ofNat]
  simp [ty8, IntKind.wrap, IntKind.bits, IntKind.signed]
  omega

def Bin.K0 (c : Cfg) : Bin.Ctx := ⟨⟨0, 0, 0, 0, 0⟩, 0, 0, 0, 0, none, c⟩
theorem Bin.pr_c (K : Bin.Ctx) : Bin.pr K = Bin.pr (Bin.K0 K.c) := rfl

set_option maxRecDepth 100000 in
set_option maxHeartbeats 2000000 in
theorem spec_skip {A : Nat → Prop} (c : Cfg) (hc : c.ok) (t deep : Int) (hd0 : -9223372036854775808 ≤ deep) (hd1 : deep ≤ 9223372036854775807) (v : Value) (l : List UInt8) (w : World) (h : BytesAt A w v l) (hl : l.length ≤ 140737488355328) (r : Int × List UInt8) (hr : skp (Bin.pr (Bin.K0 c)) deep.toNat (ty8 t) l = r) :
    Calls Tryz.prog 8 #[confV 0 c, .int .i64 t, v, .int .i64 deep] w fun e w' => ∃ x left, e = .returned (.tuple #[.int .i64 x, .int .i64 left]) ∧ Sk r.1 x ∧ (x = 0 → left = r.2.length) ∧ Keep (fun _ => False) w w' := by
  have HR := Lib.hid hr
  clear hr
  have ha := and_255 t
  go_enter Tryz.func8, Tryz.ntmps8
  go_wp2_with fail
  have hk0 : Keep (fun _ => False) w (w.alloc (.cells #[.int .i64 0, .bool c.plain, .bool c.sr, .bool c.sw, .int .i32 c.msg, .int .i32 c.cont, .int .i32 c.frame] 31 (0, 0))) := (Keep.refl _ w).alloc _
  generalize w.alloc (.cells #[.int .i64 0, .bool c.plain, .bool c.sr, .bool c.sw, .int .i32 c.msg, .int .i32 c.cont, .int .i32 c.frame] 31 (0, 0)) = w1 at *
  refine (newReader_at 0 c hc v l w1 (h.keep hk0 (fun _ _ => id)) hl).mono ?_
  rintro e w2 ⟨R, TB, DT, rfl, hTB, h2, hk2⟩
  go_wp2_with fail
  refine (rskips (Bin.K0 c) deep.toNat deep (ty8 t) l w2 rfl hd0 hd1 h2).mono ?_
  rintro e w3 ⟨x, rfl, hx, ⟨r', h3, hle, hr3⟩, hk3⟩
  have HX := Lib.hid hx
  have H3 := Lib.hid hr3
  clear hx hr3
  go_wp2_with fail
  refine (left_at h3).mono ?_
  rintro e w4 ⟨rfl, rfl⟩
  go_wp2_with fail
  go_ret2
  have hx := HX.out
  have hr3 := H3.out
  rw [HR.out] at hx hr3
  refine ⟨x, _, rfl, hx, fun hz => by rw [hr3 hz], ?_⟩
  exact (hk0.then hk2).trans hk3 (fun i hi e => by have := hk0.size; omega)

end Go.Proofs.YtdmegokbfakjpaaGreatDoor

/- The thin package: Skip by the binary protocol. -/
namespace Go.Proofs.YtdmegokbfakjpaaGreatDoor
open Go Go.RowKit

/-- The binary protocol, just made over a memory buffer. -/
theorem bin_inv {E : Env} {w2 w3 : World} {MB B D P : Nat} {a : Option Addr} {c : Cfg} {l : List UInt8} (hg : Glob E w2) (hm : Mem E w2 MB B D l) (hP : w2.heap.size ≤ P) (hPb : w3.heap[P]? = some (binO MB a))
    (hcfg : CfgAt (fun i => i < w2.heap.size ∨ P ≤ i) w3 a c) (hk : Keep (fun _ => False) w2 w3) (hc : c.ok) (hl : l.length ≤ 140737488355328) : Bin.Inv ⟨E, P, MB, B, D, a, c⟩ l w3 := by
  have h1 : MB < w2.heap.size := lt_of_cell hm.mb
  have h2 : B < w2.heap.size := hm.buf.lt
  have h3 := hm.ltD
  have h4 := hg.size
  have h5 : BinP E P MB B D a c l w3 := by
    refine ⟨⟨List.replicate 64 0, by simp, hPb⟩, hm.keep hk id id id, hg.keep hk (fun _ x => x.elim), hcfg.weak (fun i hi h => ?_), hc, by omega, by omega, by omega, by omega⟩
    rcases h with h | h <;> omega
  exact ⟨h5, hl⟩

theorem MB2_new {P B n : Nat} (hP : n ≤ P) (hB : n ≤ B) : ∀ i, i < n → MB2 P B i → False := by
  rintro i hi (e | e) <;> omega

theorem Mem.drew {E : Env} {w : World} {MB B D : Nat} {rem : List UInt8} (h : Mem E w MB B D rem) : Mem E w.drew MB B D rem := h.keep ((Keep.refl (fun _ => False) w).drew) id id id
theorem Glob.drew {E : Env} {w : World} (h : Glob E w) : Glob E w.drew := h.keep ((Keep.refl (fun _ => False) w).drew) (fun _ x => x.elim)

set_option maxRecDepth 100000 in
set_option maxHeartbeats 4000000 in
theorem impl_skip {E : Env} {A : Nat → Prop} (pr : Int) (hpr : ¬ pr = 1) (c : Cfg) (hc : c.ok) (t deep : Int) (hd0 : -9223372036854775808 ≤ deep) (hd1 : deep ≤ 9223372036854775807) (v : Value) (l : List UInt8) (w : World) (hg : Glob E w) (h : BytesAt A w v l) (hl : l.length ≤ 140737488355328) (r : Int × List UInt8) (hr : skp (Bin.pr (Bin.K0 c)) deep.toNat (ty8 t) l = r) :
    Calls Tryz.prog 7 #[confV pr c, .int .i64 t, v, .int .i64 deep] w fun e w' => ∃ left, e = .returned (.tuple #[.int .i64 r.1, .int .i64 left]) ∧ (r.1 = 0 → left = r.2.length) ∧ Keep (fun _ => False) w w' := by
  have HR := Lib.hid hr
  clear hr
  go_enter Tryz.func7, Tryz.ntmps7
  go_wp2_with fail
  have hk0 : Keep (fun _ => False) w (w.alloc (.cells #[.int .i64 pr, .bool c.plain, .bool c.sr, .bool c.sw, .int .i32 c.msg, .int .i32 c.cont, .int .i32 c.frame] 23 (0, 0))) := (Keep.refl _ w).alloc _
  have hp0 := heap_alloc_new w (.cells #[.int .i64 pr, .bool c.plain, .bool c.sr, .bool c.sw, .int .i32 c.msg, .int .i32 c.cont, .int .i32 c.frame] 23 (0, 0))
  obtain ⟨n, hn⟩ : ∃ n, w.heap.size = n := ⟨_, rfl⟩
  rw [hn] at hp0 ⊢
  generalize w.alloc (.cells #[.int .i64 pr, .bool c.plain, .bool c.sr, .bool c.sw, .int .i32 c.msg, .int .i32 c.cont, .int .i32 c.frame] 23 (0, 0)) = w1 at *
  have HN := Lib.hid hn
  have HP := Lib.hid hp0
  clear hn hp0
  refine (holding_at (E := E) (h.keep hk0 (fun _ _ => id)) (Nat.le_trans hg.size hk0.size)).mono ?_
  rintro e w2 ⟨MB, B, D, rfl, hm, hk2, b1, b2, b3, b4, b5⟩
  obtain ⟨c0, c1, c2, c3, c4, c5, c6⟩ := conf_cells ((hk2.block n (lt_of_heap HP.out) id).trans HP.out)
  have hgk : Glob E w2 := hg.keep (hk0.then hk2) (fun _ x => x.elim)
  go_wp2_with fail
  go_region_with (first | (go_at_call 15; refine (ctx_at _).mono ?_; rintro e w' ⟨rfl, rfl⟩) | (go_at_call 17; refine (typ_at t _).mono ?_; rintro e w' ⟨rfl, rfl⟩) | (go_at_call 16; refine (protocol_bin pr hpr c MB w2.drew).mono ?_; rintro e w3 ⟨P, a, rfl, hP, hPb, hcfg, hk3⟩; have HI := Lib.hid (bin_inv (hgk.drew) (hm.drew) hP hPb hcfg hk3 hc hl); clear hPb hcfg) | (go_at_call 14; refine (Bin.skips ⟨E, P, MB, B, D, a, c⟩ deep.toNat deep (ty8 t) l _ rfl hd0 hd1 HI.out).mono ?_; rintro e w4 ⟨ev, rfl, hpost⟩; have HPO := Lib.hid hpost; clear hpost))
  all_goals
    have hpost : Bin.Post ⟨E, P, MB, B, D, a, c⟩ w3 w4 (skp (Bin.pr (Bin.K0 c)) deep.toNat (ty8 t) l).1 ev (skp (Bin.pr (Bin.K0 c)) deep.toNat (ty8 t) l).2 := HPO.out
    rw [HR.out] at hpost
    obtain ⟨s', hs, hsz⟩ : ∃ s', BinP E P MB B D a c s' w4 ∧ (r.1 = 0 → s' = r.2) := by
      by_cases hz : r.1 = 0
      · exact ⟨r.2, (hpost.inv hz).p, fun _ => rfl⟩
      · exact ⟨_, hpost.some.choose_spec, fun h => absurd h hz⟩
    have hkind : ∀ W, Keep (fun _ => False) w4 W → Calls Tryz.prog 18 #[ev] W fun e w' => e = .returned (.int .i64 r.1) ∧ Keep (fun _ => False) w4 w' := fun W hW =>
      (kind_any (hs.glob.keep hW (fun _ x => x.elim)) (hpost.err.keep hW (fun _ _ => id))).mono fun e w' ⟨h1, h2⟩ => ⟨h1, hW.then h2⟩
    have hlen : ∀ W, Keep (fun _ => False) w4 W → Calls Tryz.prog 19 #[.pointer (some ⟨B, 0, none⟩)] W fun e w' => e = .returned (.int .i64 s'.length) ∧ Keep (fun _ => False) w4 w' := fun W hW =>
      (buf_len (hs.mem.buf.keep hW id id)).mono fun e w' ⟨h1, n, h2⟩ => ⟨h1, h2 ▸ hW.drewN n⟩
    have hcell : ∀ W, Keep (fun _ => False) w4 W → W.cell? ⟨MB, 0, none⟩ = some (.pointer (some ⟨B, 0, none⟩)) := fun W hW => (hW.cell (p := ⟨MB, 0, none⟩) (lt_of_cell hs.mem.mb) id).trans hs.mem.mb
    have hkd : Keep (fun _ => False) w4 w4.drew := (Keep.refl _ w4).drew
    have hcd := hs.mem.mb
    have HK := Lib.hid hpost.keep
    have HSZ := Lib.hid hsz
    have HKI := Lib.hid hkind
    have HLE := Lib.hid hlen
    have HCE := Lib.hid hcell
    clear hpost hsz hkind hlen hcell hs
    go_wp2_with fail
    go_region_with (first | (go_at_call 18; refine (HKI.out _ (by assumption)).mono ?_; rintro e w5 ⟨rfl, hk5⟩; have hc5 := HCE.out _ hk5) | (go_at_call 19; refine (HLE.out _ (by assumption)).mono ?_; rintro e w6 ⟨rfl, hk6⟩; have hc6 := HCE.out _ hk6))
    all_goals
      go_wp2_with fail
      go_ret2
      refine ⟨_, rfl, fun hz => by rw [HSZ.out hz], ?_⟩
      have hfin := ((hk0.then hk2).drew.then hk3).trans HK.out (fun i hi e => MB2_new (P := P) (B := B) (n := w.heap.size) (by have := hk2.size; have := hk0.size; simp at hP; omega) (by have := hk0.size; omega) i hi e)
      first | exact hfin.then hk6 | exact hfin.then hk5

end Go.Proofs.YtdmegokbfakjpaaGreatDoor

/- The thin package: Get of a number of 32 bits out of five bytes. -/
namespace Go.Proofs.YtdmegokbfakjpaaGreatDoor
open Go Go.RowKit

abbrev five : List UInt8 := [0, 0, 1, 2, 9]

theorem five_K (K : Bin.Ctx) : (Bin.pr K).scK 8 five = 0 ∧ (Bin.pr K).scS 8 five = [9] ∧ (Bin.pr K).scN 8 five = 258 ∧ (Bin.pr K).scB 8 five = [] := by
  rw [Bin.k8, Bin.s8, Bin.n8, Bin.b8]
  decide +kernel

set_option maxRecDepth 100000 in
set_option maxHeartbeats 4000000 in
theorem impl_get_five {E : Env} {A : Nat → Prop} (v : Value) (w : World) (hg : Glob E w) (h : BytesAt A w v five) :
    Calls Tryz.prog 11 #[.agg (confC 0 plainC), .int .i64 8, v, .int .i64 1] w fun e w' => ∃ (Sa : Option Addr) (Sc : Nat), e = .returned (.tuple #[.agg (valC 8 258 (.slice Sa 0 Sc) 0 0 (.slice none 0 0) (.slice none 0 0)), .int .i64 0, .int .i64 1]) ∧ Keep (fun _ => False) w w' := by
  have h8 : ty8 8 = 8 := by decide
  have hk0 : Keep (fun _ => False) w ((w.alloc (.cells (confC 0 plainC) 23 (0, 0))).alloc (.cells zVal 38 (0, 0))) := ((Keep.refl _ w).alloc _).alloc _
  have hc0 : ((w.alloc (.cells (confC 0 plainC) 23 (0, 0))).alloc (.cells zVal 38 (0, 0))).heap[w.heap.size]? = some (.cells (confC 0 plainC) 23 (0, 0)) := (Below.heap_alloc _ _ _ (by simp)).trans (heap_alloc_new w _)
  have hv0 : ((w.alloc (.cells (confC 0 plainC) 23 (0, 0))).alloc (.cells zVal 38 (0, 0))).heap[w.heap.size + 1]? = some (.cells zVal 38 (0, 0)) := heap_alloc_at (by simp) _
  have hs0 : ((w.alloc (.cells (confC 0 plainC) 23 (0, 0))).alloc (.cells zVal 38 (0, 0))).heap.size = w.heap.size + 2 := by simp
  go_enter Tryz.func11, Tryz.ntmps11
  go_wp2_with fail
  obtain ⟨n0, hn⟩ : ∃ n0, w.heap.size = n0 := ⟨_, rfl⟩
  rw [hn] at hc0 hv0 hs0 ⊢
  generalize (w.alloc (.cells (confC 0 plainC) 23 (0, 0))).alloc (.cells zVal 38 (0, 0)) = w1 at *
  have HN := Lib.hid hn
  have HC0 := Lib.hid hc0
  have HV0 := Lib.hid hv0
  have HS0 := Lib.hid hs0
  clear hn hc0 hv0 hs0
  refine (holding_at (E := E) (h.keep hk0 (fun _ _ => id)) (Nat.le_trans hg.size hk0.size)).mono ?_
  rintro e w2 ⟨MB, B, D, rfl, hm, hk2, b1, b2, b3, b4, b5⟩
  obtain ⟨c0, c1, c2, c3, c4, c5, c6⟩ := conf_cells7 ((hk2.block n0 (lt_of_heap HC0.out) id).trans HC0.out)
  have hgk : Glob E w2 := hg.keep (hk0.then hk2) (fun _ x => x.elim)
  go_wp2_with fail
  refine (protocol_bin 0 (by decide) plainC MB w2).mono ?_
  rintro e w3 ⟨P, a, rfl, hP, hPb, hcfg, hk3⟩
  have HI := Lib.hid (bin_inv hgk hm hP hPb hcfg hk3 (by unfold Cfg.ok; decide) (by simp))
  clear c0 c1 c2 c3 c4 c5 c6 hPb hcfg
  go_wp2_with fail
  refine (typ_at 8 _).mono ?_
  rintro e w' ⟨rfl, rfl⟩
  rw [h8]
  go_wp2_with fail
  refine (Bin.get8 ⟨E, P, MB, B, D, a, plainC⟩ 1 (by decide) five _ HI.out).mono ?_
  rintro e w4 ⟨n, S, ev, rfl, hpost, hres⟩
  obtain ⟨f1, f2, f3, f4⟩ := five_K ⟨E, P, MB, B, D, a, plainC⟩
  rw [f1, f2] at hpost
  rw [f1, f3, f4] at hres
  obtain ⟨rfl, hS⟩ := hres rfl
  obtain rfl := hpost.err.isNil
  have HPO := Lib.hid (hpost.inv rfl)
  have HK := Lib.hid hpost.keep
  obtain ⟨Sa, Sc, rfl⟩ := hS.shapeL
  clear hpost hres hS f1 f2 f3 f4
  go_wp2_with fail
  have hk5 : Keep (fun _ => False) w4 (w4.alloc (.cells (valC 8 258 (.slice Sa 0 Sc) 0 0 (.slice none 0 0) (.slice none 0 0)) 38 (0, 0))) := (Keep.refl _ w4).alloc _
  have hV5 := heap_alloc_new w4 (.cells (valC 8 258 (.slice Sa 0 Sc) 0 0 (.slice none 0 0) (.slice none 0 0)) 38 (0, 0))
  obtain ⟨V, hV⟩ : ∃ V, w4.heap.size = V := ⟨_, rfl⟩
  rw [hV] at hV5 ⊢
  generalize w4.alloc (.cells (valC 8 258 (.slice Sa 0 Sc) 0 0 (.slice none 0 0) (.slice none 0 0)) 38 (0, 0)) = w5 at *
  have hI5 := HPO.out.fresh hk5
  have hmb : w5.cell? ⟨MB, 0, none⟩ = some (.pointer (some ⟨B, 0, none⟩)) := hI5.p.mem.mb
  have hkA : Keep (MB2 P B) w1 w5 := ((hk2.then hk3).weak (fun _ _ x => x.elim)).then (HK.out.then (hk5.weak (fun _ _ x => x.elim)))
  have hn1 := HS0.out
  have hR5 := (hkA.block (n0 + 1) (by omega) (by rintro (e | e) <;> omega)).trans HV0.out
  obtain ⟨x0, x1, x2, x3, x4, x5, x6⟩ := got_cells hV5
  obtain ⟨r0, r1, r2, r3, r4, r5, r6⟩ := got_cells hR5
  obtain ⟨z0, z1, z2, z3, z4, z5, z6⟩ := got_free hR5
  have hne1 : ¬ MB = n0 + 1 := by omega
  have hne2 : ¬ n0 + 1 = MB := by omega
  have hne3 : ¬ V = n0 + 1 := by have := hk2.size; have := hk3.size; have := HK.out.size; omega
  have hne4 : ¬ n0 + 1 = V := fun e => hne3 e.symm
  have hB1 : B ≠ n0 + 1 := by omega
  have hD1 : D ≠ n0 + 1 := by omega
  have hlen : ∀ W, Keep (fun i => i = n0 + 1) w5 W → Calls Tryz.prog 19 #[.pointer (some ⟨B, 0, none⟩)] W fun e w' => e = .returned (.int .i64 1) ∧ ∃ n, W.drewN n = w' := fun W hW => buf_len (hI5.p.mem.buf.keep hW hB1 hD1)
  have HLEN := Lib.hid hlen
  have HR5 := Lib.hid hR5
  have HKA := Lib.hid hkA
  clear hlen hV5 hR5 hkA hI5 hn1 hV
  go_region_with (first | (go_at_call 18; refine (kind_nil _).mono ?_; rintro e w' ⟨rfl, rfl⟩) | (go_at_call 19; refine (HLEN.out _ (by exact (Keep.refl _ w5).drew)).mono ?_; rintro e w6 ⟨rfl, k, rfl⟩))
  all_goals
    go_wp2_with fail
    have hn0 := HN.out
    have hn1 := HS0.out
    have hR6 : (w5.drewN (1 + k)).heap[n0 + 1]? = some (.cells zVal 38 (0, 0)) := HR5.out
    have hR7 := val_set hR6 (.int .i64 8) (.int .i64 258) (.slice Sa 0 Sc) (.int .i64 0) (.int .i64 0) (.slice none 0 0) (.slice none 0 0)
    have hk5 : Keep (fun _ => False) w (w5.drewN (1 + k)) := (hk0.trans HKA.out (fun i hi e => MB2_new (P := P) (B := B) (n := w.heap.size) (by have := hk2.size; omega) (by omega) i hi e)).drewN _
    have hk7 := ((((((hk5.set (n0 + 1) 0 (fun h => by omega) (.int .i64 8)).set (n0 + 1) 1 (fun h => by omega) (.int .i64 258)).set (n0 + 1) 2 (fun h => by omega) (.slice Sa 0 Sc)).set (n0 + 1) 3 (fun h => by omega) (.int .i64 0)).set (n0 + 1) 4 (fun h => by omega) (.int .i64 0)).set (n0 + 1) 5 (fun h => by omega) (.slice none 0 0)).set (n0 + 1) 6 (fun h => by omega) (.slice none 0 0)
    exact ret_cell3 (U := n0 + 1) (T := 38) Tryz.results11 rfl rfl rfl rfl hR7 Tryz.underlying38 ival_size ⟨_, _, rfl, hk7⟩

end Go.Proofs.YtdmegokbfakjpaaGreatDoor

/- The laws: what is known: one number is written by each protocol, and read. -/
namespace Go.Proofs.YtdmegokbfakjpaaGreatDoor
open Go Go.RowKit

theorem keepOf {B0 : Nat} {w w' : World} (h : Below B0 w w') : Keep (fun i => B0 ≤ i) w w' := ⟨h.os, h.tape, h.output, h.size, fun k _ hM => h.block k (by omega)⟩
theorem BytesAt.old {A : Nat → Prop} {w : World} {v : Value} {l : List UInt8} (h : BytesAt A w v l) : BytesAt (fun i => i < w.heap.size) w v l := h.weak (fun _ hi _ => hi)
theorem BytesAt.below {w w' : World} {v : Value} {l : List UInt8} (h : BytesAt (fun i => i < w.heap.size) w v l) (hb : Below w.heap.size w w') : BytesAt (fun i => i < w.heap.size) w' v l := h.keep (keepOf hb) (fun i hi e => by omega)

/-- Bytes that are laid as a new row. -/
theorem BytesAt.lit {w : World} {g : Nat} {l : List UInt8} {T : TypeId} (h : w.heap[g]? = some (.cells (bcells l).toArray T (0, 0))) (hl : l.length ≤ 140737488355328) : BytesAt (fun _ => True) w (.slice (some ⟨g, 0, none⟩) l.length l.length) l := by
  by_cases h0 : l = []
  · subst h0
    exact .inl ⟨rfl, _, _, rfl⟩
  · exact .inr ⟨h0, g, 0, _, rfl, Nat.le_refl _, hl, trivial, fun j b hj => by rw [cellAt h]; simp [bcells, hj]⟩

set_option maxRecDepth 100000 in
set_option maxHeartbeats 4000000 in
theorem known_at {E : Env} (w : World) (hg : Glob E w) : Calls Tryz.prog 6 #[] w fun e w' => e = .returned (.bool true) ∧ Keep (fun _ => False) w w' := by
  go_enter Tryz.func6, Tryz.ntmps6
  go_wp2_with fail
  refine (impl_put_bin w).mono ?_
  rintro e w1 ⟨v1, rfl, hb1, hk1⟩
  have HB1 := Lib.hid hb1.old
  clear hb1
  go_wp2_with fail
  refine (impl_put_cmp w1).mono ?_
  rintro e w2 ⟨v2, rfl, hb2, hk2⟩
  have HB2 := Lib.hid hb2.old
  clear hb2
  go_wp2_with fail
  have hk20 : Keep (fun i => w.heap.size ≤ i) w w2 := (keepOf hk1).trans (keepOf hk2) (fun i hi h => by have := hk1.size; omega)
  have hg2 : Glob E w2 := hg.keep hk20 (fun i hi => Nat.le_trans hg.size hi)
  have hk3 : Keep (fun _ => False) w2 (w2.alloc (.cells (bcells five).toArray 5 (0, 0))) := (Keep.refl _ w2).alloc _
  have hb3 : BytesAt (fun _ => True) (w2.alloc (.cells (bcells five).toArray 5 (0, 0))) (.slice (some ⟨w2.heap.size, 0, none⟩) 5 5) five := BytesAt.lit (l := five) (heap_alloc_new w2 _) (by decide)
  refine (impl_get_five (E := E) (.slice (some ⟨w2.heap.size, 0, none⟩) 5 5) _ (hg2.keep hk3 (fun _ x => x.elim)) hb3).mono ?_
  rintro e w4 ⟨Sa, Sc, rfl, hk4⟩
  have hk34 := hk3.then hk4
  have HK20 := Lib.hid hk20
  clear hb3 hk3 hk4 hg2 hk20
  go_wp2_with fail
  have hV := heap_alloc_new w4 (.cells (valC 8 258 (.slice Sa 0 Sc) 0 0 (.slice none 0 0) (.slice none 0 0)) 38 (0, 0))
  have hk5 : Keep (fun _ => False) w4 ((w4.alloc (.cells (valC 8 258 (.slice Sa 0 Sc) 0 0 (.slice none 0 0) (.slice none 0 0)) 38 (0, 0))).alloc (.cells #[.int .u8 0, .int .u8 0, .int .u8 1, .int .u8 2] 5 (0, 0))) := ((Keep.refl _ w4).alloc _).alloc _
  have hb5 : BytesAt (fun _ => True) ((w4.alloc (.cells (valC 8 258 (.slice Sa 0 Sc) 0 0 (.slice none 0 0) (.slice none 0 0)) 38 (0, 0))).alloc (.cells #[.int .u8 0, .int .u8 0, .int .u8 1, .int .u8 2] 5 (0, 0))) (.slice (some ⟨w4.heap.size + 1, 0, none⟩) 4 4) [0, 0, 1, 2] := BytesAt.lit (l := [0, 0, 1, 2]) (heap_alloc_at (by simp) _) (by decide)
  have hV5 : ((w4.alloc (.cells (valC 8 258 (.slice Sa 0 Sc) 0 0 (.slice none 0 0) (.slice none 0 0)) 38 (0, 0))).alloc (.cells #[.int .u8 0, .int .u8 0, .int .u8 1, .int .u8 2] 5 (0, 0))).heap[w4.heap.size]? = _ := (Below.heap_alloc _ _ _ (by simp)).trans hV
  obtain ⟨V, hVe⟩ : ∃ V, w4.heap.size = V := ⟨_, rfl⟩
  rw [hVe] at hb5 hV5 ⊢
  generalize (w4.alloc (.cells (valC 8 258 (.slice Sa 0 Sc) 0 0 (.slice none 0 0) (.slice none 0 0)) 38 (0, 0))).alloc (.cells #[.int .u8 0, .int .u8 0, .int .u8 1, .int .u8 2] 5 (0, 0)) = w5 at *
  clear hV hVe
  have hk25 := hk34.then hk5
  have h1 : BytesAt (fun _ => True) w5 v1 [0, 0, 1, 2] := (((HB1.out.below hk2).keep hk25 (fun _ _ => id)).weak (fun _ _ _ => trivial))
  have h2 : BytesAt (fun _ => True) w5 v2 [5] := ((HB2.out.keep hk25 (fun _ _ => id)).weak (fun _ _ _ => trivial))
  refine (equal_same h1 hb5).mono ?_
  rintro e w6 ⟨rfl, n, rfl⟩
  obtain ⟨x0, x1, x2, x3, x4, x5, x6⟩ := got_cells hV5
  clear hb5
  go_wp2_with fail
  have hb6 : BytesAt (fun _ => True) ((w5.drewN n).alloc (.cells #[.int .u8 5] 5 (0, 0))) (.slice (some ⟨w5.heap.size, 0, none⟩) 1 1) [5] := BytesAt.lit (l := [5]) (heap_alloc_at (by simp) _) (by decide)
  have hk6 : Keep (fun _ => False) w5 ((w5.drewN n).alloc (.cells #[.int .u8 5] 5 (0, 0))) := ((Keep.refl _ w5).drewN n).alloc _
  have hV6 := (hk6.block V (lt_of_heap hV5) id).trans hV5
  have h3 := h2.keep hk6 (fun _ _ => id)
  generalize (w5.drewN n).alloc (.cells #[.int .u8 5] 5 (0, 0)) = w6 at *
  refine (equal_same h3 hb6).mono ?_
  rintro e w7 ⟨rfl, m, rfl⟩
  clear x0 x1 x2 x3 x4 x5 x6
  obtain ⟨x0, x1, x2, x3, x4, x5, x6⟩ := got_cells hV6
  clear hb6 h3 h2 h1
  go_wp2_with fail
  go_ret
  exact ⟨rfl, (HK20.out.trans (hk25.then hk6) (fun _ _ x => x.elim)).weak (fun i hi h => by omega) |>.drewN m⟩

end Go.Proofs.YtdmegokbfakjpaaGreatDoor

/- The law of skipping by the binary protocol. -/
namespace Go.Proofs.YtdmegokbfakjpaaGreatDoor
open Go Go.RowKit

set_option maxHeartbeats 2000000 in
theorem sameKind_at (k x : Int) (h : Sk k x) (w : World) : Calls Tryz.prog 9 #[.int .i64 k, .int .i64 x] w fun e w' => e = .returned (.bool true) ∧ w = w' := by
  by_cases h2 : x = -2
  · have t2 : (x == -2) = true := by simp [h2]
    have H2 := Lib.hid h2
    clear h2 h
    go_enter Tryz.func9, Tryz.ntmps9
    go_wp2
    go_ret
    exact ⟨rfl, rfl⟩
  · have t2 : (x == -2) = false := by simpa using h2
    by_cases h1 : x = -1
    · have t1 : (x == -1) = true := by simp [h1]
      by_cases h0 : k = 0
      · unfold Sk at h; omega
      · have t0 : (k != 0) = true := by simpa using h0
        have H1 := Lib.hid h1
        clear h1 h h2
        go_enter Tryz.func9, Tryz.ntmps9
        go_wp2
        go_ret
        exact ⟨rfl, rfl⟩
    · have t1 : (x == -1) = false := by simpa using h1
      have he : k = x := by unfold Sk at h; omega
      subst he
      clear h
      go_enter Tryz.func9, Tryz.ntmps9
      go_wp2
      go_ret
      exact ⟨rfl, rfl⟩

theorem conf_size : (Tryz.prog.info? 23).map (·.size) = some 7 := by kernel_rfl

set_option maxRecDepth 100000 in
set_option maxHeartbeats 2000000 in
theorem by_at (pr p0 : Int) (c : Cfg) (w : World) : Calls Tryz.prog 5 #[.int .i64 pr, confV p0 c] w fun e w' => e = .returned (confV pr c) ∧ Keep (fun _ => False) w w' := by
  go_enter Tryz.func5, Tryz.ntmps5
  go_wp2_with fail
  exact ret_cell (U := w.heap.size + 1) (T := 23) Tryz.results5 rfl rfl (heap_alloc_at (by simp) _) Tryz.underlying23 conf_size ⟨rfl, ((Keep.refl _ w).alloc _).alloc _⟩

set_option maxRecDepth 100000 in
set_option maxHeartbeats 4000000 in
theorem skips_at {E : Env} {A : Nat → Prop} (c : Cfg) (hc : c.ok) (t deep : Int) (hd0 : -9223372036854775808 ≤ deep) (hd1 : deep ≤ 9223372036854775807) (v : Value) (l : List UInt8) (w : World) (hg : Glob E w) (h : BytesAt A w v l) :
    Calls Tryz.prog 4 #[confV 0 c, .int .i64 t, v, .int .i64 deep] w fun e w' => e = .returned (.bool true) ∧ Keep (fun _ => False) w w' := by
  obtain ⟨a, cc, rfl, hlb, _, _⟩ := h.cellAt'
  obtain ⟨L, hL⟩ : ∃ L, l.length = L := ⟨_, rfl⟩
  obtain ⟨r, hr⟩ : ∃ r, skp (Bin.pr (Bin.K0 c)) deep.toNat (ty8 t) l = r := ⟨_, rfl⟩
  have HR := Lib.hid hr
  have H := Lib.hid h
  clear hr h
  rw [hL] at hlb H ⊢
  have HL := Lib.hid hL
  clear hL
  by_cases hm : 65536 < L
  · have hm' : (65536 : Int) < (L : Int) := by omega
    go_enter Tryz.func4, Tryz.ntmps4
    go_wp2_with fail
    have hk0 : Keep (fun _ => False) w (w.alloc (.cells (confC 0 c) 23 (0, 0))) := (Keep.refl _ w).alloc _
    refine (known_at _ (hg.keep hk0 (fun _ x => x.elim))).mono ?_
    rintro e w1 ⟨rfl, hk1⟩
    go_wp2_with fail
    go_ret
    exact ⟨rfl, hk0.then hk1⟩
  · have hm' : ¬ (65536 : Int) < (L : Int) := by omega
    have hk0 : Keep (fun _ => False) w (w.alloc (.cells (confC 0 c) 23 (0, 0))) := (Keep.refl _ w).alloc _
    have hp0 := heap_alloc_new w (.cells (confC 0 c) 23 (0, 0))
    go_enter Tryz.func4, Tryz.ntmps4
    go_wp2_with fail
    obtain ⟨n, hn⟩ : ∃ n, w.heap.size = n := ⟨_, rfl⟩
    rw [hn] at hp0 ⊢
    generalize w.alloc (.cells (confC 0 c) 23 (0, 0)) = w1 at *
    have HP := Lib.hid hp0
    clear hn hp0
    have hb1 := H.out.keep hk0 (fun _ _ => id)
    refine (impl_skip (E := E) 0 (by decide) c hc t deep hd0 hd1 _ l w1 (hg.keep hk0 (fun _ x => x.elim)) hb1 (by rw [HL.out]; omega) r HR.out).mono ?_
    rintro e w2 ⟨left, rfl, hleft, hk2⟩
    have HLF := Lib.hid hleft
    clear hleft
    obtain ⟨c0, c1, c2, c3, c4, c5, c6⟩ := conf_cells7 ((hk2.block n (lt_of_heap HP.out) id).trans HP.out)
    go_wp2_with fail
    refine (spec_skip c hc t deep hd0 hd1 _ l w2 (hb1.keep hk2 (fun _ _ => id)) (by rw [HL.out]; omega) r HR.out).mono ?_
    rintro e w3 ⟨x, rest, rfl, hx, hrest, hk3⟩
    have HX := Lib.hid hx
    have HRS := Lib.hid hrest
    have hk13 := hk0.then (hk2.then hk3)
    have hg3 : Glob E w3 := hg.keep hk13 (fun _ x => x.elim)
    clear hx hrest c0 c1 c2 c3 c4 c5 c6 hb1
    by_cases hz : x = 0
    · have e0 : r.1 = 0 := Sk.zero (hz ▸ HX.out)
      have e1 : left = rest := (HLF.out e0).trans (HRS.out hz).symm
      subst e1
      have hzb : (x != 0) = false := by simp [hz]
      have HZ := Lib.hid hz
      clear hz e0
      go_wp2_with fail
      refine (sameKind_at _ _ HX.out _).mono ?_
      rintro e w4 ⟨rfl, rfl⟩
      go_wp2_with fail
      refine (known_at _ hg3).mono ?_
      rintro e w5 ⟨rfl, hk5⟩
      go_wp2_with fail
      go_ret
      exact ⟨rfl, hk13.then hk5⟩
    · have hzb : (x != 0) = true := by simpa using hz
      have HZ := Lib.hid hz
      clear hz
      go_wp2_with fail
      refine (sameKind_at _ _ HX.out _).mono ?_
      rintro e w4 ⟨rfl, rfl⟩
      go_wp2_with fail
      refine (known_at _ hg3).mono ?_
      rintro e w5 ⟨rfl, hk5⟩
      go_wp2_with fail
      go_ret
      exact ⟨rfl, hk13.then hk5⟩

set_option maxRecDepth 100000 in
set_option maxHeartbeats 4000000 in
/-- The law: whatever is skipped by the binary protocol. -/
theorem law_skipBinary {E : Env} {A : Nat → Prop} (p0 : Int) (c : Cfg) (hc : c.ok) (t deep : Int) (hd0 : -9223372036854775808 ≤ deep) (hd1 : deep ≤ 9223372036854775807) (v : Value) (l : List UInt8) (w : World) (hg : Glob E w) (h : BytesAt A w v l) :
    Calls Tryz.prog 3 #[confV p0 c, .int .i64 t, v, .int .i64 deep] w fun e w' => e = .returned (.bool true) ∧ Keep (fun _ => False) w w' := by
  obtain ⟨a, cc, rfl, hlb, _, _⟩ := h.cellAt'
  obtain ⟨L, hL⟩ : ∃ L, l.length = L := ⟨_, rfl⟩
  have H := Lib.hid h
  clear h
  rw [hL] at hlb H ⊢
  clear hL
  have hk0 : Keep (fun _ => False) w (w.alloc (.cells (confC p0 c) 23 (0, 0))) := (Keep.refl _ w).alloc _
  by_cases hm : 2147483647 < L
  · have hm' : (2147483647 : Int) < (L : Int) := by omega
    go_enter Tryz.func3, Tryz.ntmps3
    go_wp2_with fail
    go_ret
    exact ⟨rfl, hk0⟩
  · have hm' : ¬ (2147483647 : Int) < (L : Int) := by omega
    go_enter Tryz.func3, Tryz.ntmps3
    go_wp2_with fail
    refine (by_at 0 p0 c _).mono ?_
    rintro e w1 ⟨rfl, hk1⟩
    have hk := hk0.then hk1
    go_wp2_with fail
    refine (skips_at (E := E) c hc t deep hd0 hd1 _ l w1 (hg.keep hk (fun _ x => x.elim)) (H.out.keep hk (fun _ _ => id))).mono ?_
    rintro e w2 ⟨rfl, hk2⟩
    go_wp2_with fail
    go_ret
    exact ⟨rfl, hk.then hk2⟩

end Go.Proofs.YtdmegokbfakjpaaGreatDoor
