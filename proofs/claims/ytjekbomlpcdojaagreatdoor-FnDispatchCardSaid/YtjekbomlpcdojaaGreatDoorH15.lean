/- Part 15 of the proof: Sp4, Sp5, Sp6, Sp7, Sp8, Sp9, Sp10, Sg0. -/
import Derived.Test.YtjekbomlpcdojaaGreatDoorH12
import Derived.Test.YtjekbomlpcdojaaGreatDoorH11
import Derived.Test.YtjekbomlpcdojaaGreatDoorH14
import Derived.Test.YtjekbomlpcdojaaGreatDoorH8
set_option linter.unusedVariables false
set_option linter.unusedSimpArgs false
set_option linter.unusedSectionVars false
set_option maxHeartbeats 16000000
namespace Go.Proofs.YtjekbomlpcdojaaGreatDoor
open Go Go.RowKit
theorem BytesAt.shape {A : Nat → Prop} {w : World} {v : Value} {l : List UInt8} (h : BytesAt A w v l) : ∃ a m cc, v = .slice a m cc := by
 rcases h with ⟨_, a, c, rfl⟩ | ⟨_, D, o, c, rfl, _⟩
 ·exact ⟨_, _, _, rfl⟩
 ·exact ⟨_, _, _, rfl⟩
section
variable {R TB DT : Nat} {pr : Int} {c : Cfg} {n : Int} {tl : List Value} {rem : List UInt8} {w : World}
theorem RdP.cells (h : RdP R TB DT pr c n tl rem w) : w.cell? ⟨R, 0, none⟩ = some (.int .i64 pr) ∧ w.cell? ⟨R, 1, none⟩ = some (.bool c.plain) ∧ w.cell? ⟨R, 2, none⟩ = some (.bool c.sr) ∧ w.cell? ⟨R, 3, none⟩ = some (.bool c.sw) ∧
  w.cell? ⟨R, 4, none⟩ = some (.int .i32 c.msg) ∧ w.cell? ⟨R, 5, none⟩ = some (.int .i32 c.cont) ∧ w.cell? ⟨R, 6, none⟩ = some (.int .i32 c.frame) ∧ w.cell? ⟨R, 7, none⟩ = some (.pointer (some ⟨TB, 0, none⟩)) ∧ w.cell? ⟨R, 8, none⟩ = some (.int .i64 n) := by
 refine ⟨?_, ?_, ?_, ?_, ?_, ?_, ?_, ?_, ?_⟩ <;> simp [cellAt h.blk]
theorem TubeP.c0 {TB DT : Nat} {rem : List UInt8} {w : World} (h : TubeP TB DT rem w) : w.cell? ⟨TB, 0, none⟩ = some (.int .i64 0) := by
 obtain ⟨v, m, hb, _⟩ := h.blk
 simp [cellAt hb 0]
set_option maxRecDepth 100000 in
theorem rd_bytes (hR : RdP R TB DT pr c n tl rem w) (size : Int) (hlo : -2147483648 ≤ size) (hhi : size ≤ 2147483647) :
  Calls Tryz.prog 123 #[.pointer (some ⟨R, 0, none⟩), .int .i64 size] w fun e w' => ∃ v x, e = .returned (.tuple #[v, .int .i64 x]) ∧ Sk (if sizeK size c = 0 then fullK size.toNat rem else sizeK size c) x ∧ (∃ r', RdP R TB DT pr c n tl r' w' ∧ r'.length ≤ rem.length ∧ (x = 0 → r' = rem.drop size.toNat)) ∧ Keep (TB = ·) w w' ∧
   (x = 0 → BytesAt (w.heap.size ≤ ·) w' v (rem.take size.toNat)) ∧ (∃ a m cc, v = .slice a m cc) := by
 obtain ⟨c0, c1, c2, c3, c4, c5, c6, c7, c8⟩ := hR.cells
 have ck := hR.tube.c0
 have hmb := Cfg.msg_bd hR.cok
 obtain ⟨hn1, hn2⟩ := hR.size
 by_cases h1 : size < 0
 ·have e1 : sizeK size c = 12 := by simp [sizeK, h1]
  rw [e1]
  go_enter Tryz.func123, Tryz.ntmps123
  go_wp2_with fail
  refine (limits pr c _).mono ?_
  rintro e w1 ⟨fr, sr, sw, rfl, hk1⟩
  go_wp2_with fail
  go_ret2
  exact ⟨_, _, rfl, .inr (.inr rfl), ⟨_, hR.fresh hk1, Nat.le_refl _, fun hh => by cases hh⟩, hk1.weak (fun _ _ x => x.elim), (fun hh => by cases hh), _, _, _, rfl⟩
 ·by_cases h2 : c.maxMsg < size
  ·have e1 : sizeK size c = 13 := by simp [sizeK, h1, h2]
   rw [e1]
   go_enter Tryz.func123, Tryz.ntmps123
   go_wp2_with fail
   refine (limits pr c _).mono ?_
   rintro e w1 ⟨fr, sr, sw, rfl, hk1⟩
   go_wp2_with fail
   go_ret2
   exact ⟨_, _, rfl, .inr (.inr rfl), ⟨_, hR.fresh hk1, Nat.le_refl _, fun hh => by cases hh⟩, hk1.weak (fun _ _ x => x.elim), (fun hh => by cases hh), _, _, _, rfl⟩
  ·have e1 : sizeK size c = 0 := by simp [sizeK, h1, h2]
   rw [e1, if_pos rfl]
   clear e1
   by_cases h3 : (rem.length : Int) < size
   ·have e2 : fullK size.toNat rem = 10 := by simp [fullK]; omega
    rw [e2]
    clear e2
    go_enter Tryz.func123, Tryz.ntmps123
    go_wp2_with fail
    refine (limits pr c _).mono ?_
    rintro e w1 ⟨fr, sr, sw, rfl, hk1⟩
    have h1' := hR.fresh hk1
    obtain ⟨c0, c1, c2, c3, c4, c5, c6, c7, c8⟩ := h1'.cells
    have ck := h1'.tube.c0
    go_wp2_with fail
    refine (rd_rest h1').mono ?_
    rintro e w2 ⟨rfl, rfl⟩
    go_wp2_with fail
    go_ret2
    exact ⟨_, _, rfl, .inr (.inl ⟨rfl, by decide⟩), ⟨_, h1', Nat.le_refl _, fun hh => by cases hh⟩, hk1.weak (fun _ _ x => x.elim), (fun hh => by cases hh), _, _, _, rfl⟩
   ·have e2 : fullK size.toNat rem = 0 := by simp [fullK]; omega
    have hmin : min size (n + 1) = size := by omega
    obtain ⟨m, rfl⟩ : ∃ m : Nat, size = m := ⟨size.toNat, by omega⟩
    simp only [Int.toNat_natCast] at e2 ⊢
    have e3 : endK m rem = 0 := by simp [endK]; omega
    rw [e2]
    have HE := hdd e3
    clear e2 e3
    go_enter Tryz.func123, Tryz.ntmps123
    go_wp2_with fail
    refine (limits pr c _).mono ?_
    rintro e w1 ⟨fr, sr, sw, rfl, hk1⟩
    have h1' := hR.fresh hk1
    obtain ⟨c0, c1, c2, c3, c4, c5, c6, c7, c8⟩ := h1'.cells
    have ck := h1'.tube.c0
    go_wp2_with fail
    refine (rd_rest h1').mono ?_
    rintro e w2 ⟨rfl, rfl⟩
    go_wp2_with fail
    all_goals
     refine (rd_raw h1' m (by omega)).mono ?_
     rintro e w3 ⟨v, rfl, h3', hk3, hb⟩
     have hb3 := hb (by omega)
     clear hb
     rw [HE.out]
     go_wp2_with fail
     go_ret2
     exact ⟨_, _, rfl, .inr (.inr rfl), ⟨_, h3', by simp, fun _ => rfl⟩, (hk1.weak (fun _ _ x => x.elim)).then hk3, fun _ => hb3.weak (fun i _ hi => Nat.le_trans hk1.size hi), hb3.shape⟩
theorem least_bin (c : Cfg) (t : Int) (w : World) : Calls Tryz.prog 160 #[confV c.b c, .int .i64 t] w fun e w' => ∃ a b, e = .returned (.tuple #[.int .i64 a, .int .i64 b]) ∧ 0 ≤ a ∧ a ≤ minBin t ∧ minBin t ≤ b ∧ b ≤ 16 ∧ Keep (fun _ => False) w w' := by
 have hbn := c.b_ne
 go_enter Tryz.func160, Tryz.ntmps160
 go_wp2_with fail
 all_goals go_ret2
 all_goals refine ⟨_, _, rfl, by decide, ?_, ?_, by decide, (Keep.refl _ w).alloc _⟩
 all_goals simp_all [minBin]
 all_goals (repeat' split) <;> omega
def roomL (c : Cfg) (rem : List UInt8) : Int := if (rem.length : Int) ≤ c.maxMsg then rem.length else c.maxMsg
theorem rd_room (hR : RdP R TB DT pr c n tl rem w) (size low high : Int) (h0 : 0 ≤ size) (hs : size ≤ 2147483647) (hl : 0 ≤ low) (hl2 : low ≤ 32) (hh : 0 ≤ high) (hh2 : high ≤ 32) :
  Calls Tryz.prog 161 #[.pointer (some ⟨R, 0, none⟩), .int .i64 size, .int .i64 low, .int .i64 high] w fun e w' => ∃ x, e = .returned (.int .i64 x) ∧ Keep (fun _ => False) w w' ∧
   ((x = -1 ∧ roomL c rem < size * low) ∨ x = -2 ∨ (x = 0 ∧ size * high ≤ roomL c rem)) := by
 obtain ⟨c0, c1, c2, c3, c4, c5, c6, c7, c8⟩ := hR.cells
 have hmb := Cfg.msg_bd hR.cok
 obtain ⟨hn1, hn2⟩ := hR.size
 have hb1 : size * low ≤ 68719476704 := by have := Int.mul_le_mul hs hl2 hl (by omega); omega
 have hb2 : size * high ≤ 68719476704 := by have := Int.mul_le_mul hs hh2 hh (by omega); omega
 have hb3 : 0 ≤ size * low := Int.mul_nonneg h0 hl
 have hb4 : 0 ≤ size * high := Int.mul_nonneg h0 hh
 by_cases hlm : (rem.length : Int) ≤ c.maxMsg
 all_goals
  have HLM := hdd hlm
  go_enter Tryz.func161, Tryz.ntmps161
  go_wp2_with fail
  refine (limits pr c _).mono ?_
  rintro e w1 ⟨fr, sr, sw, rfl, hk1⟩
  have h1' := hR.fresh hk1
  go_wp2_with fail
  refine (rd_rest h1').mono ?_
  rintro e w2 ⟨rfl, rfl⟩
  go_wp2_with fail
  all_goals go_ret
 all_goals refine ⟨_, rfl, hk1, ?_⟩
 all_goals simp only [roomL]
 all_goals first | rw [if_pos (by have := HLM.out; omega)] | rw [if_neg (by have := HLM.out; omega)]
 all_goals (try simp)
 all_goals omega
theorem count_ok {size low high m : Int} {c : Cfg} {rem : List UInt8} {x : Int} (hc : c.ok) (h1 : ¬ size < 0) (h2 : ¬ c.maxCont < size) (hl : low ≤ m) (hh : m ≤ high)
  (hx : (x = -1 ∧ roomL c rem < size * low) ∨ x = -2 ∨ (x = 0 ∧ size * high ≤ roomL c rem)) : Sk (contK size m rem.length c) x := by
 have hmb := Cfg.msg_bd hc
 have a1 : size * low ≤ size * m := Int.mul_le_mul_of_nonneg_left hl (by omega)
 have a2 : size * m ≤ size * high := Int.mul_le_mul_of_nonneg_left hh (by omega)
 unfold roomL at hx
 unfold Sk contK
 rw [if_neg h1, if_neg h2]
 rcases hx with ⟨rfl, hx⟩ | rfl | ⟨rfl, hx⟩
 ·refine .inr (.inl ⟨rfl, ?_⟩)
  split at hx <;> repeat (first | omega | split)
 ·exact .inl rfl
 ·refine .inr (.inr ?_)
  split at hx <;> repeat (first | omega | split)
set_option maxRecDepth 100000 in
theorem rd_count1 (hR : RdP R TB DT c.b c n tl rem w) (size t : Int) (g : Nat) (hg : w.cell? ⟨g, 0, none⟩ = some (.int .i64 t)) (hlo : -2147483648 ≤ size) (hhi : size ≤ 2147483647) :
  Calls Tryz.prog 147 #[.pointer (some ⟨R, 0, none⟩), .int .i64 size, .slice (some ⟨g, 0, none⟩) 1 1] w fun e w' => ∃ x, e = .returned (.int .i64 x) ∧ Sk (contK size (minBin t) rem.length c) x ∧ Keep (fun _ => False) w w' := by
 obtain ⟨c0, c1, c2, c3, c4, c5, c6, c7, c8⟩ := hR.cells
 have hmb := Cfg.cont_bd hR.cok
 by_cases h1 : size < 0
 ·have e1 : contK size (minBin t) rem.length c = 12 := by simp [contK, h1]
  rw [e1]
  go_enter Tryz.func147, Tryz.ntmps147
  go_wp2_with fail
  refine (limits c.b c _).mono ?_
  rintro e w1 ⟨fr, sr, sw, rfl, hk1⟩
  go_wp2_with fail
  go_ret
  exact ⟨_, rfl, .inr (.inr rfl), hk1⟩
 ·by_cases h2 : c.maxCont < size
  ·have e1 : contK size (minBin t) rem.length c = 13 := by simp [contK, h1, h2]
   rw [e1]
   go_enter Tryz.func147, Tryz.ntmps147
   go_wp2_with fail
   refine (limits c.b c _).mono ?_
   rintro e w1 ⟨fr, sr, sw, rfl, hk1⟩
   go_wp2_with fail
   go_ret
   exact ⟨_, rfl, .inr (.inr rfl), hk1⟩
  ·obtain ⟨S, hS⟩ : ∃ S : Int → Prop, (fun x => Sk (contK size (minBin t) rem.length c) x) = S := ⟨_, rfl⟩
   have HS := hdd (congrFun hS)
   have H12 := hdd (And.intro h1 h2)
   have HMB := hdd (minBin_bd t)
   go_enter Tryz.func147, Tryz.ntmps147
   go_wp2_with fail
   refine (limits c.b c _).mono ?_
   rintro e w1 ⟨fr, sr, sw, rfl, hk1⟩
   have hg1 := (hk1.cell (p := ⟨g, 0, none⟩) (lt_of_cell hg) id).trans hg
   have hR1 := hR.fresh hk1
   clear hg c0 c1 c2 c3 c4 c5 c6 c7 c8
   obtain ⟨c0, c1, c2, c3, c4, c5, c6, c7, c8⟩ := hR1.cells
   go_wp2_with fail
   refine wp_loop_rounds 2 ?_
   rw [rounds_succ]
   go_wp2_with fail
   go_region_with (go_at_call 160; refine (least_bin c t _).mono ?_; rintro e w2 ⟨a, b, rfl, ha0, ha, hb, hb16, hk2⟩)
   all_goals
    have hk3 : Keep (fun _ => False) w1 w2 := ((Keep.refl _ w1).drewN _).then hk2
    have hR2 := hR1.fresh hk3
    have HM := hdd (And.intro ha hb)
    have hm1 := HMB.out.1
    have hm2 := HMB.out.2
    have hb0 : 0 ≤ b := by omega
    have ha32 : a ≤ 32 := by omega
    go_wp2_with fail
    rw [rounds_succ]
    go_wp2_with fail
    refine (rd_room hR2 size a b (by omega) hhi ha0 ha32 hb0 (by omega)).mono ?_
    rintro e w4 ⟨x, rfl, hk4, hx⟩
    go_wp2_with fail
    go_ret
    refine ⟨_, rfl, count_ok hR.cok (by have := H12.out; omega) (by have := H12.out; omega) HM.out.1 HM.out.2 hx, hk1.then (hk3.then hk4)⟩
set_option maxRecDepth 100000 in
theorem rd_count2 (hR : RdP R TB DT c.b c n tl rem w) (size t t2 : Int) (g : Nat) (hg : w.cell? ⟨g, 0, none⟩ = some (.int .i64 t)) (hgb : w.cell? ⟨g, 1, none⟩ = some (.int .i64 t2)) (hlo : -2147483648 ≤ size) (hhi : size ≤ 2147483647) :
  Calls Tryz.prog 147 #[.pointer (some ⟨R, 0, none⟩), .int .i64 size, .slice (some ⟨g, 0, none⟩) 2 2] w fun e w' => ∃ x, e = .returned (.int .i64 x) ∧ Sk (contK size (minBin t + minBin t2) rem.length c) x ∧ Keep (fun _ => False) w w' := by
 obtain ⟨c0, c1, c2, c3, c4, c5, c6, c7, c8⟩ := hR.cells
 have hmb := Cfg.cont_bd hR.cok
 by_cases h1 : size < 0
 ·have e1 : contK size (minBin t + minBin t2) rem.length c = 12 := by simp [contK, h1]
  rw [e1]
  go_enter Tryz.func147, Tryz.ntmps147
  go_wp2_with fail
  refine (limits c.b c _).mono ?_
  rintro e w1 ⟨fr, sr, sw, rfl, hk1⟩
  go_wp2_with fail
  go_ret
  exact ⟨_, rfl, .inr (.inr rfl), hk1⟩
 ·by_cases h2 : c.maxCont < size
  ·have e1 : contK size (minBin t + minBin t2) rem.length c = 13 := by simp [contK, h1, h2]
   rw [e1]
   go_enter Tryz.func147, Tryz.ntmps147
   go_wp2_with fail
   refine (limits c.b c _).mono ?_
   rintro e w1 ⟨fr, sr, sw, rfl, hk1⟩
   go_wp2_with fail
   go_ret
   exact ⟨_, rfl, .inr (.inr rfl), hk1⟩
  ·obtain ⟨S, hS⟩ : ∃ S : Int → Prop, (fun x => Sk (contK size (minBin t + minBin t2) rem.length c) x) = S := ⟨_, rfl⟩
   have HS := hdd (congrFun hS)
   have H12 := hdd (And.intro h1 h2)
   have HMB := hdd (And.intro (minBin_bd t) (minBin_bd t2))
   go_enter Tryz.func147, Tryz.ntmps147
   go_wp2_with fail
   refine (limits c.b c _).mono ?_
   rintro e w1 ⟨fr, sr, sw, rfl, hk1⟩
   have hg1 := (hk1.cell (p := ⟨g, 0, none⟩) (lt_of_cell hg) id).trans hg
   have hg1b := (hk1.cell (p := ⟨g, 1, none⟩) (lt_of_cell hgb) id).trans hgb
   have hR1 := hR.fresh hk1
   clear hg hgb c0 c1 c2 c3 c4 c5 c6 c7 c8
   obtain ⟨c0, c1, c2, c3, c4, c5, c6, c7, c8⟩ := hR1.cells
   go_wp2_with fail
   refine wp_loop_rounds 3 ?_
   rw [rounds_succ]
   go_wp2_with fail
   go_region_with (go_at_call 160; refine (least_bin c t _).mono ?_; rintro e w2 ⟨a, b, rfl, ha0, ha, hb, hb16, hk2⟩)
   all_goals
    have hk3 : Keep (fun _ => False) w1 w2 := ((Keep.refl _ w1).drewN _).then hk2
    have hR2 := hR1.fresh hk3
    have hg2 := (hk3.cell (p := ⟨g, 1, none⟩) (lt_of_cell hg1b) id).trans hg1b
    have hb0 : 0 ≤ b := by have := HMB.out.1.1; omega
    have hai : a ≤ 16 := by have := HMB.out.1.2; omega
    have HA := hdd (And.intro ha hb)
    clear ha hb c0 c1 c2 c3 c4 c5 c6 c7 c8 hg1 hg1b
    obtain ⟨c0, c1, c2, c3, c4, c5, c6, c7, c8⟩ := hR2.cells
    go_wp2_with fail
    rw [rounds_succ]
    go_wp2_with fail
    go_region_with (go_at_call 160; refine (least_bin c t2 _).mono ?_; rintro e w3 ⟨a2, b2, rfl, ha02, ha2, hb2, hb162, hk22⟩)
    all_goals
     have hk4 : Keep (fun _ => False) w2 w3 := ((Keep.refl _ w2).drewN _).then hk22
     have hR3 := hR2.fresh hk4
     have HB := hdd (And.intro ha2 hb2)
     have hb02 : 0 ≤ b2 := by have := HMB.out.2.1; omega
     have hai2 : a2 ≤ 16 := by have := HMB.out.2.2; omega
     clear ha2 hb2
     go_wp2_with fail
     rw [rounds_succ]
     go_wp2_with fail
     refine (rd_room hR3 size (a + a2) (b + b2) (by omega) hhi (by omega) (by omega) (by omega) (by omega)).mono ?_
     rintro e w4 ⟨x, rfl, hk5, hx⟩
     go_wp2_with fail
     go_ret
     refine ⟨_, rfl, count_ok hR.cok (by have := H12.out; omega) (by have := H12.out; omega) (by have := HA.out; have := HB.out; omega) (by have := HA.out; have := HB.out; omega) hx, hk1.then (hk3.then (hk4.then hk5))⟩
end
abbrev gotV (k t kt size id n : Int) (s : Value) : Value := .agg #[.int .i64 k, .int .i64 t, .int .i64 kt, .int .i64 size, .int .i64 id, .int .i64 n, s]
abbrev zGot : Array Value := #[.int .i64 0, .int .i64 0, .int .i64 0, .int .i64 0, .int .i64 0, .int .i64 0, .slice none 0 0]
abbrev gotA (k t kt size id n : Int) (s : Value) : Array Value := #[.int .i64 k, .int .i64 t, .int .i64 kt, .int .i64 size, .int .i64 id, .int .i64 n, s]
theorem got_size : (Tryz.prog.info? 75).map (·.size) = some 7 := by kernel_rfl
theorem got_cells {w : World} {U : Nat} {v0 v1 v2 v3 v4 v5 v6 : Value} {T : TypeId} (h : w.heap[U]? = some (.cells #[v0, v1, v2, v3, v4, v5, v6] T (0, 0))) :
  w.cell? ⟨U, 0, none⟩ = some v0 ∧ w.cell? ⟨U, 1, none⟩ = some v1 ∧ w.cell? ⟨U, 2, none⟩ = some v2 ∧ w.cell? ⟨U, 3, none⟩ = some v3 ∧ w.cell? ⟨U, 4, none⟩ = some v4 ∧ w.cell? ⟨U, 5, none⟩ = some v5 ∧ w.cell? ⟨U, 6, none⟩ = some v6 := by
 refine ⟨?_, ?_, ?_, ?_, ?_, ?_, ?_⟩ <;> simp [cellAt h]
theorem got_free {w : World} {U : Nat} {c : Array Value} {T : TypeId} (h : w.heap[U]? = some (.cells c T (0, 0))) :
  w.frozen? ⟨U, 0, none⟩ = false ∧ w.frozen? ⟨U, 1, none⟩ = false ∧ w.frozen? ⟨U, 2, none⟩ = false ∧ w.frozen? ⟨U, 3, none⟩ = false ∧ w.frozen? ⟨U, 4, none⟩ = false ∧ w.frozen? ⟨U, 5, none⟩ = false ∧ w.frozen? ⟨U, 6, none⟩ = false := by
 refine ⟨?_, ?_, ?_, ?_, ?_, ?_, ?_⟩ <;> exact freeAt h _
abbrev gotW (w : World) (U : Nat) (k t kt size id n : Int) (s : Value) : World :=
 ((((((w.setCell ⟨U, 0, none⟩ (.int .i64 k)).setCell ⟨U, 1, none⟩ (.int .i64 t)).setCell ⟨U, 2, none⟩ (.int .i64 kt)).setCell ⟨U, 3, none⟩ (.int .i64 size)).setCell ⟨U, 4, none⟩ (.int .i64 id)).setCell ⟨U, 5, none⟩ (.int .i64 n)).setCell ⟨U, 6, none⟩ s
theorem got_set {w : World} {U : Nat} {v0 v1 v2 v3 v4 v5 v6 : Value} {T : TypeId} (h : w.heap[U]? = some (.cells #[v0, v1, v2, v3, v4, v5, v6] T (0, 0))) (k t kt size id n : Int) (s : Value) :
  (gotW w U k t kt size id n s).heap[U]? = some (.cells (gotA k t kt size id n s) T (0, 0)) := by
 have h0 := heap_set_same (i := 0) h (.int .i64 k)
 have h1 := heap_set_same (i := 1) h0 (.int .i64 t)
 have h2 := heap_set_same (i := 2) h1 (.int .i64 kt)
 have h3 := heap_set_same (i := 3) h2 (.int .i64 size)
 have h4 := heap_set_same (i := 4) h3 (.int .i64 id)
 have h5 := heap_set_same (i := 5) h4 (.int .i64 n)
 have h6 := heap_set_same (i := 6) h5 s
 simpa using h6
theorem got_keep {w w' : World} {U : Nat} {M : Nat → Prop} (hk : Keep M w w') (hU : U < w.heap.size → M U) (k t kt size id n : Int) (s : Value) : Keep M w (gotW w' U k t kt size id n s) :=
 ((((((hk.set U 0 hU _).set U 1 hU _).set U 2 hU _).set U 3 hU _).set U 4 hU _).set U 5 hU _).set U 6 hU _
theorem ret_got {f : Func} {slot : Nat} {a : Act} {w : World} {U : Nat} {Q : Ending → World → Prop} {k t kt size id n : Int} {s : Value} (hf : f.results = #[.cell slot 75]) (hd : a.defers = []) (ha : a.tmps[slot]?.getD undef = .pointer (some ⟨U, 0, none⟩))
  (hU : w.heap[U]? = some (.cells (gotA k t kt size id n s) 75 (0, 0))) (hQ : Q (.returned (gotV k t kt size id n s)) w) : bodyPost Tryz.prog f Q Exit.ret a w := by
 have hl := run_loadVar_row (P := Tryz.prog) w U 75 75 _ (0, 0) _ hU Tryz.underlying75 rfl got_size
 refine bodyPost_ret (v := gotV k t kt size id n s) ?_ hd hQ
 simp [results, hf, ha, asAddr, hl]
theorem RdP.dlt {R TB DT : Nat} {pr : Int} {c : Cfg} {n : Int} {tl : List Value} {rem : List UInt8} {w : World} (h : RdP R TB DT pr c n tl rem w) (hr : rem ≠ []) : DT < w.heap.size := by
 obtain ⟨⟨v, m, h1, h2⟩, hl⟩ := h.tube
 rcases h2 with h2 | ⟨hne, D, o, c, rfl, e1, e2, e3, e4⟩
 ·exact absurd h2.1 hr
 ·have := BytesAt.lt (A := fun _ => True) hne e4
  rw [← e3.1]; exact this
theorem RdP.got {R TB DT : Nat} {pr : Int} {c : Cfg} {n : Int} {tl : List Value} {rem r' : List UInt8} {w w1 : World} {U : Nat} (hR : RdP R TB DT pr c n tl rem w) (h1 : RdP R TB DT pr c n tl r' w1) (hk : Keep (TB = ·) w w1) (hU : w.heap.size = U) (hr : r'.length ≤ rem.length)
  (k t kt size id nn : Int) (s : Value) : RdP R TB DT pr c n tl r' (gotW w1 U k t kt size id nn s) ∧ Keep (TB = ·) w (gotW w1 U k t kt size id nn s) := by
 have hTU : TB < w.heap.size := lt_of_cell hR.tube.c0
 have hk2 : Keep (TB = ·) w (gotW w1 U k t kt size id nn s) := got_keep hk (fun x => by omega) _ _ _ _ _ _ _
 refine ⟨hR.step hk2 (h1.tube.keep (got_keep (Keep.refl (fun i => U = i) w1) (fun _ => rfl) _ _ _ _ _ _ _) (by omega) (fun hr' => ?_)) hr, hk2⟩
 have := hR.dlt (fun e => hr' (List.eq_nil_of_length_eq_zero (by simp [e] at hr; simpa using hr)))
 omega
section
variable {R TB DT : Nat} {c : Cfg} {n : Int} {tl : List Value} {rem : List UInt8} {w : World}
set_option maxRecDepth 100000 in
theorem rd_number (hR : RdP R TB DT c.b c n tl rem w) (m : Nat) (hm : m = 2 ∨ m = 4 ∨ m = 8) :
  Calls Tryz.prog 121 #[.pointer (some ⟨R, 0, none⟩), .int .i64 m] w fun e w' => ∃ z, e = .returned (gotV (fullK m rem) 0 0 0 0 z nilB) ∧ RdP R TB DT c.b c n tl (rem.drop m) w' ∧ Keep (TB = ·) w w' ∧ (m ≤ rem.length → z = numZ (rem.take m)) := by
 have hTU : TB < w.heap.size := lt_of_cell hR.tube.c0
 go_enter Tryz.func121, Tryz.ntmps121
 go_wp2_with fail
 have hk0 : Keep (fun _ => False) w (w.alloc (.cells zGot 75)) := (Keep.refl _ w).alloc _
 have hU0 := heap_alloc_new w (.cells zGot 75)
 obtain ⟨U, hU⟩ : ∃ U, w.heap.size = U := ⟨_, rfl⟩
 generalize w.alloc (.cells zGot 75) = wA at *
 rw [hU] at hU0 hTU ⊢
 refine (rd_whole (hR.fresh hk0) m hm).mono ?_
 rintro e w1 ⟨z, rfl, h1, hk1, hz⟩
 have HU := hdd ((hk1.block U (lt_of_heap hU0) (by omega)).trans hU0)
 obtain ⟨u0, u1, u2, u3, u4, u5, u6⟩ := got_cells HU.out
 obtain ⟨f0, f1, f2, f3, f4, f5, f6⟩ := got_free HU.out
 go_wp2_with fail
 obtain ⟨h2, hk2⟩ := RdP.got hR h1 ((hk0.weak (fun _ _ x => x.elim)).then hk1) hU (by simp) (fullK m rem) 0 0 0 0 z (.slice none 0 0)
 exact ret_got (U := U) Tryz.results121 rfl rfl (got_set HU.out _ _ _ _ _ _ _) ⟨z, rfl, h2, hk2, hz⟩
set_option maxRecDepth 100000 in
theorem rd_field (hR : RdP R TB DT c.b c n tl rem w) :
  Calls Tryz.prog 117 #[.pointer (some ⟨R, 0, none⟩)] w fun e w' => ∃ t id, e = .returned (gotV (fieldK rem) t 0 0 id 0 nilB) ∧ RdP R TB DT c.b c n tl (fieldRem rem) w' ∧ Keep (TB = ·) w w' ∧ (fieldK rem = 0 → t = fieldT rem ∧ id = fieldI rem) := by
 have hTU : TB < w.heap.size := lt_of_cell hR.tube.c0
 have hk0 : Keep (fun _ => False) w (w.alloc (.cells zGot 75)) := (Keep.refl _ w).alloc _
 have hU0 := heap_alloc_new w (.cells zGot 75)
 cases rem with
 | nil =>
  have e0 : fieldK [] = 1 := rfl
  rw [e0]
  go_enter Tryz.func117, Tryz.ntmps117
  go_wp2_with fail
  obtain ⟨U, hU⟩ : ∃ U, w.heap.size = U := ⟨_, rfl⟩
  generalize w.alloc (.cells zGot 75) = wA at *
  rw [hU] at hU0 hTU ⊢
  refine (rd_one (hR.fresh hk0)).mono ?_
  rintro e w1 ⟨z, rfl, h1, hk1, hz⟩
  have HU := hdd ((hk1.block U (lt_of_heap hU0) (by omega)).trans hU0)
  obtain ⟨u0, u1, u2, u3, u4, u5, u6⟩ := got_cells HU.out
  obtain ⟨f0, f1, f2, f3, f4, f5, f6⟩ := got_free HU.out
  rw [show endK 1 [] = 1 by rfl]
  go_wp2_with fail
  obtain ⟨h2, hk2⟩ := RdP.got hR h1 ((hk0.weak (fun _ _ x => x.elim)).then hk1) hU (by simp) 1 0 0 0 0 0 (.slice none 0 0)
  exact ret_got (U := U) Tryz.results117 rfl rfl (got_set HU.out _ _ _ _ _ _ _) ⟨0, 0, rfl, h2, hk2, fun hh => by cases hh⟩
 | cons b r =>
  by_cases hb : b = 0
  ·subst hb
   have e0 : fieldK ((0 : UInt8) :: r) = 0 := rfl
   rw [e0]
   go_enter Tryz.func117, Tryz.ntmps117
   go_wp2_with fail
   obtain ⟨U, hU⟩ : ∃ U, w.heap.size = U := ⟨_, rfl⟩
   generalize w.alloc (.cells zGot 75) = wA at *
   rw [hU] at hU0 hTU ⊢
   refine (rd_one (hR.fresh hk0)).mono ?_
   rintro e w1 ⟨z, rfl, h1, hk1, hz⟩
   have HU := hdd ((hk1.block U (lt_of_heap hU0) (by omega)).trans hU0)
   obtain ⟨u0, u1, u2, u3, u4, u5, u6⟩ := got_cells HU.out
   obtain ⟨f0, f1, f2, f3, f4, f5, f6⟩ := got_free HU.out
   rw [show endK 1 ((0 : UInt8) :: r) = 0 by simp [endK], show z = 0 by have := hz 0 r rfl; simpa using this]
   go_wp2_with fail
   obtain ⟨h2, hk2⟩ := RdP.got hR h1 ((hk0.weak (fun _ _ x => x.elim)).then hk1) hU (by simp) 0 0 0 0 0 0 (.slice none 0 0)
   exact ret_got (U := U) Tryz.results117 rfl rfl (got_set HU.out _ _ _ _ _ _ _) ⟨0, 0, rfl, h2, hk2, fun _ => ⟨rfl, rfl⟩⟩
  ·have e0 : fieldK (b :: r) = fullK 2 r := by simp [fieldK, hb]
   have e1 : fieldRem (b :: r) = r.drop 2 := by simp [fieldRem, hb]
   have hb0 : ¬ (b.toNat : Int) = 0 := by
    intro e
    exact hb (UInt8.toNat_inj.1 (by simpa using e))
   have hb8 := b.toNat_lt
   rw [e0, e1]
   have H0 := hdd hb
   clear e0 e1 hb
   go_enter Tryz.func117, Tryz.ntmps117
   go_wp2_with fail
   obtain ⟨U, hU⟩ : ∃ U, w.heap.size = U := ⟨_, rfl⟩
   generalize w.alloc (.cells zGot 75) = wA at *
   rw [hU] at hU0 hTU ⊢
   refine (rd_one (hR.fresh hk0)).mono ?_
   rintro e w1 ⟨z, rfl, h1, hk1, hz⟩
   rw [show endK 1 (b :: r) = 0 by simp [endK], hz b r rfl]
   clear hz
   go_wp2_with fail
   refine (rd_whole h1 2 (by omega)).mono ?_
   rintro e w2 ⟨z2, rfl, h2, hk2, hz2⟩
   simp only [List.drop_succ_cons, List.drop_zero] at h2 hz2 ⊢
   have HU := hdd (((hk1.then hk2).block U (lt_of_heap hU0) (by omega)).trans hU0)
   have HZ := hdd hz2
   clear hz2
   obtain ⟨u0, u1, u2, u3, u4, u5, u6⟩ := got_cells HU.out
   obtain ⟨f0, f1, f2, f3, f4, f5, f6⟩ := got_free HU.out
   go_wp2_with fail
   obtain ⟨h3, hk3⟩ := RdP.got hR h2 ((hk0.weak (fun _ _ x => x.elim)).then (hk1.then hk2)) hU (by simp; omega) (fullK 2 r) b.toNat 0 0 z2 0 (.slice none 0 0)
   refine ret_got (U := U) Tryz.results117 rfl rfl (got_set HU.out _ _ _ _ _ _ _) ⟨_, _, rfl, h3, hk3, fun hh => ⟨rfl, ?_⟩⟩
   rw [HZ.out (fullK_len hh), numZ_two _ (by have := fullK_len hh; simp; omega)]
   simp [fieldI, H0.out]
end
section
variable {R TB DT : Nat} {c : Cfg} {n : Int} {tl : List Value} {rem : List UInt8} {w : World}
set_option maxRecDepth 100000 in
theorem rd_list (hR : RdP R TB DT c.b c n tl rem w) :
  Calls Tryz.prog 119 #[.pointer (some ⟨R, 0, none⟩)] w fun e w' => ∃ x t size, e = .returned (gotV x t 0 size 0 0 nilB) ∧ Sk (listK rem c) x ∧ (∃ r', RdP R TB DT c.b c n tl r' w' ∧ r'.length ≤ rem.length ∧ (x = 0 → r' = listRem rem)) ∧ Keep (TB = ·) w w' ∧ (x = 0 → t = listT rem ∧ size = listN rem) := by
 have hTU : TB < w.heap.size := lt_of_cell hR.tube.c0
 have hk0 : Keep (fun _ => False) w (w.alloc (.cells zGot 75)) := (Keep.refl _ w).alloc _
 have hU0 := heap_alloc_new w (.cells zGot 75)
 cases rem with
 | nil =>
  have e0 : listK [] c = 10 := rfl
  rw [e0]
  go_enter Tryz.func119, Tryz.ntmps119
  go_wp2_with fail
  obtain ⟨U, hU⟩ : ∃ U, w.heap.size = U := ⟨_, rfl⟩
  generalize w.alloc (.cells zGot 75) = wA at *
  rw [hU] at hU0 hTU ⊢
  refine (rd_one (hR.fresh hk0)).mono ?_
  rintro e w1 ⟨z, rfl, h1, hk1, hz⟩
  have HU := hdd ((hk1.block U (lt_of_heap hU0) (by omega)).trans hU0)
  obtain ⟨u0, u1, u2, u3, u4, u5, u6⟩ := got_cells HU.out
  obtain ⟨f0, f1, f2, f3, f4, f5, f6⟩ := got_free HU.out
  rw [show endK 1 [] = 1 by rfl]
  go_wp2_with fail
  refine (wrapped_at 1 w1 (.inl rfl)).mono ?_
  rintro e w2 ⟨rfl, rfl⟩
  go_wp2_with fail
  obtain ⟨h2, hk2⟩ := RdP.got hR h1 ((hk0.weak (fun _ _ x => x.elim)).then hk1) hU (by simp) 10 0 0 0 0 0 (.slice none 0 0)
  exact ret_got (U := U) Tryz.results119 rfl rfl (got_set HU.out _ _ _ _ _ _ _) ⟨10, 0, 0, rfl, .inr (.inr rfl), ⟨_, h2, by first | omega | (simp; done) | (simp; omega), fun hh => by cases hh⟩, hk2, fun hh => by cases hh⟩
 | cons b r =>
  have hb8 := b.toNat_lt
  by_cases hl : r.length < 4
  ·have e0 : listK (b :: r) c = 10 := by simp [listK, hl]
   rw [e0]
   have e2 : fullK 4 r = 10 := by simp [fullK]; omega
   have HE := hdd e2
   clear e0 e2
   go_enter Tryz.func119, Tryz.ntmps119
   go_wp2_with fail
   obtain ⟨U, hU⟩ : ∃ U, w.heap.size = U := ⟨_, rfl⟩
   generalize w.alloc (.cells zGot 75) = wA at *
   rw [hU] at hU0 hTU ⊢
   refine (rd_one (hR.fresh hk0)).mono ?_
   rintro e w1 ⟨z, rfl, h1, hk1, hz⟩
   rw [show endK 1 (b :: r) = 0 by simp [endK], hz b r rfl]
   clear hz
   simp only [List.drop_succ_cons, List.drop_zero] at h1
   go_wp2_with fail
   refine (rd_whole h1 4 (by omega)).mono ?_
   rintro e w2 ⟨z2, rfl, h2, hk2, hz2⟩
   rw [HE.out]
   have HU := hdd (((hk1.then hk2).block U (lt_of_heap hU0) (by omega)).trans hU0)
   obtain ⟨u0, u1, u2, u3, u4, u5, u6⟩ := got_cells HU.out
   obtain ⟨f0, f1, f2, f3, f4, f5, f6⟩ := got_free HU.out
   clear hz2
   go_wp2_with fail
   obtain ⟨h3, hk3⟩ := RdP.got hR h2 ((hk0.weak (fun _ _ x => x.elim)).then (hk1.then hk2)) hU (by simp; omega) 10 b.toNat 0 z2 0 0 (.slice none 0 0)
   exact ret_got (U := U) Tryz.results119 rfl rfl (got_set HU.out _ _ _ _ _ _ _) ⟨10, _, _, rfl, .inr (.inr rfl), ⟨_, h3, by first | omega | (simp; done) | (simp; omega), fun hh => by cases hh⟩, hk3, fun hh => by cases hh⟩
  ·have e0 : listK (b :: r) c = contK (wrap32 (Lib.beNat (r.take 4))) (minBin b.toNat) (r.drop 4).length c := by simp only [listK, if_neg hl]
   rw [e0]
   have e2 : fullK 4 r = 0 := by simp [fullK]; omega
   have e3 : listRem (b :: r) = r.drop 4 := rfl
   have e4 : listT (b :: r) = b.toNat := rfl
   have e5 : listN (b :: r) = wrap32 (Lib.beNat (r.take 4)) := rfl
   rw [e3, e4, e5]
   have hzz : numZ (r.take 4) = wrap32 (Lib.beNat (r.take 4)) := numZ_four _ (by simp; omega)
   obtain ⟨sz, hsz⟩ : ∃ sz, wrap32 (Lib.beNat (r.take 4)) = sz := ⟨_, rfl⟩
   have hb1 : -2147483648 ≤ sz ∧ sz ≤ 2147483647 := by rw [← hsz]; simp only [wrap32]; omega
   rw [hsz] at hzz ⊢
   obtain ⟨hb1, hb2⟩ := hb1
   have HE := hdd e2
   have HL := hdd hl
   have HZ := hdd hzz
   clear e0 e2 e3 e4 e5 hl hzz hsz
   go_enter Tryz.func119, Tryz.ntmps119
   go_wp2_with fail
   obtain ⟨U, hU⟩ : ∃ U, w.heap.size = U := ⟨_, rfl⟩
   generalize w.alloc (.cells zGot 75) = wA at *
   rw [hU] at hU0 hTU ⊢
   refine (rd_one (hR.fresh hk0)).mono ?_
   rintro e w1 ⟨z, rfl, h1, hk1, hz⟩
   rw [show endK 1 (b :: r) = 0 by simp [endK], hz b r rfl]
   clear hz
   simp only [List.drop_succ_cons, List.drop_zero] at h1
   go_wp2_with fail
   refine (rd_whole h1 4 (by omega)).mono ?_
   rintro e w2 ⟨z2, rfl, h2, hk2, hz2⟩
   rw [HE.out, (hz2 (by have := HL.out; omega)).trans HZ.out]
   have hUlt := lt_of_heap hU0
   have HU0 := hdd hU0
   clear hz2 hU0
   go_wp2_with fail
   have hk3 : Keep (fun _ => False) w2 (w2.alloc (.cells #[.int .i64 b.toNat] 3)) := (Keep.refl _ w2).alloc _
   have hg : (w2.alloc (.cells #[.int .i64 b.toNat] 3)).cell? ⟨w2.heap.size, 0, none⟩ = some (.int .i64 b.toNat) := by simp
   refine (rd_count1 (h2.fresh hk3) sz b.toNat w2.heap.size hg hb1 hb2).mono ?_
   rintro e w4 ⟨x, rfl, hx, hk4⟩
   have HX := hdd hx
   have hk34 : Keep (TB = ·) w2 w4 := (hk3.then hk4).weak (fun _ _ x => x.elim)
   have h4 := (h2.fresh hk3).fresh hk4
   have HU := hdd ((((hk1.then hk2).then hk34).block U hUlt (by omega)).trans HU0.out)
   clear hx hg
   obtain ⟨u0, u1, u2, u3, u4, u5, u6⟩ := got_cells HU.out
   obtain ⟨f0, f1, f2, f3, f4, f5, f6⟩ := got_free HU.out
   go_wp2_with fail
   obtain ⟨h5, hk5⟩ := RdP.got hR h4 ((hk0.weak (fun _ _ x => x.elim)).then ((hk1.then hk2).then hk34)) hU (by simp; omega) x b.toNat 0 sz 0 0 (.slice none 0 0)
   exact ret_got (U := U) Tryz.results119 rfl rfl (got_set HU.out _ _ _ _ _ _ _) ⟨x, _, _, rfl, HX.out, ⟨_, h5, by first | omega | (simp; done) | (simp; omega), fun _ => rfl⟩, hk5, fun _ => ⟨rfl, rfl⟩⟩
set_option maxRecDepth 100000 in
theorem rd_map (hR : RdP R TB DT c.b c n tl rem w) :
  Calls Tryz.prog 118 #[.pointer (some ⟨R, 0, none⟩)] w fun e w' => ∃ x kt t size, e = .returned (gotV x t kt size 0 0 nilB) ∧ Sk (mapK rem c) x ∧ (∃ r', RdP R TB DT c.b c n tl r' w' ∧ r'.length ≤ rem.length ∧ (x = 0 → r' = mapRem rem)) ∧ Keep (TB = ·) w w' ∧ (x = 0 → kt = mapKT rem ∧ t = mapT rem ∧ size = mapN rem) := by
 have hTU : TB < w.heap.size := lt_of_cell hR.tube.c0
 have hk0 : Keep (fun _ => False) w (w.alloc (.cells zGot 75)) := (Keep.refl _ w).alloc _
 have hU0 := heap_alloc_new w (.cells zGot 75)
 cases rem with
 | nil =>
  have e0 : mapK [] c = 10 := rfl
  rw [e0]
  go_enter Tryz.func118, Tryz.ntmps118
  go_wp2_with fail
  obtain ⟨U, hU⟩ : ∃ U, w.heap.size = U := ⟨_, rfl⟩
  generalize w.alloc (.cells zGot 75) = wA at *
  rw [hU] at hU0 hTU ⊢
  refine (rd_one (hR.fresh hk0)).mono ?_
  rintro e w1 ⟨z, rfl, h1, hk1, hz⟩
  have HU := hdd ((hk1.block U (lt_of_heap hU0) (by omega)).trans hU0)
  obtain ⟨u0, u1, u2, u3, u4, u5, u6⟩ := got_cells HU.out
  obtain ⟨f0, f1, f2, f3, f4, f5, f6⟩ := got_free HU.out
  rw [show endK 1 [] = 1 by rfl]
  go_wp2_with fail
  refine (wrapped_at 1 w1 (.inl rfl)).mono ?_
  rintro e w2 ⟨rfl, rfl⟩
  go_wp2_with fail
  obtain ⟨h2, hk2⟩ := RdP.got hR h1 ((hk0.weak (fun _ _ x => x.elim)).then hk1) hU (by simp) 10 0 0 0 0 0 (.slice none 0 0)
  exact ret_got (U := U) Tryz.results118 rfl rfl (got_set HU.out _ _ _ _ _ _ _) ⟨10, 0, 0, 0, rfl, .inr (.inr rfl), ⟨_, h2, by first | omega | (simp; done) | (simp; omega), fun hh => by cases hh⟩, hk2, fun hh => by cases hh⟩
 | cons kb r0 =>
  have hkb8 := kb.toNat_lt
  cases r0 with
  | nil =>
   have e0 : mapK [kb] c = 10 := rfl
   rw [e0]
   go_enter Tryz.func118, Tryz.ntmps118
   go_wp2_with fail
   obtain ⟨U, hU⟩ : ∃ U, w.heap.size = U := ⟨_, rfl⟩
   generalize w.alloc (.cells zGot 75) = wA at *
   rw [hU] at hU0 hTU ⊢
   refine (rd_one (hR.fresh hk0)).mono ?_
   rintro e wa ⟨z, rfl, ha, hka, hz⟩
   rw [show endK 1 [kb] = 0 by simp [endK], hz kb [] rfl]
   clear hz
   simp only [List.drop_succ_cons, List.drop_zero] at ha
   go_wp2_with fail
   refine (rd_one ha).mono ?_
   rintro e w1 ⟨z, rfl, h1, hk1, hz⟩
   have HU := hdd (((hka.then hk1).block U (lt_of_heap hU0) (by omega)).trans hU0)
   obtain ⟨u0, u1, u2, u3, u4, u5, u6⟩ := got_cells HU.out
   obtain ⟨f0, f1, f2, f3, f4, f5, f6⟩ := got_free HU.out
   rw [show endK 1 [] = 1 by rfl]
   clear hz
   go_wp2_with fail
   refine (wrapped_at 1 w1 (.inl rfl)).mono ?_
   rintro e w2 ⟨rfl, rfl⟩
   go_wp2_with fail
   obtain ⟨h2, hk2⟩ := RdP.got hR h1 ((hk0.weak (fun _ _ x => x.elim)).then (hka.then hk1)) hU (by simp) 10 0 0 0 0 0 (.slice none 0 0)
   exact ret_got (U := U) Tryz.results118 rfl rfl (got_set HU.out _ _ _ _ _ _ _) ⟨10, 0, 0, 0, rfl, .inr (.inr rfl), ⟨_, h2, by first | omega | (simp; done) | (simp; omega), fun hh => by cases hh⟩, hk2, fun hh => by cases hh⟩
  | cons b r =>
   have hb8 := b.toNat_lt
   by_cases hl : r.length < 4
   ·have e0 : mapK (kb :: b :: r) c = 10 := by simp [mapK, hl]
    rw [e0]
    have e2 : fullK 4 r = 10 := by simp [fullK]; omega
    have HE := hdd e2
    clear e0 e2
    go_enter Tryz.func118, Tryz.ntmps118
    go_wp2_with fail
    obtain ⟨U, hU⟩ : ∃ U, w.heap.size = U := ⟨_, rfl⟩
    generalize w.alloc (.cells zGot 75) = wA at *
    rw [hU] at hU0 hTU ⊢
    refine (rd_one (hR.fresh hk0)).mono ?_
    rintro e wa ⟨z, rfl, ha, hka, hz⟩
    rw [show endK 1 (kb :: b :: r) = 0 by simp [endK], hz kb _ rfl]
    clear hz
    simp only [List.drop_succ_cons, List.drop_zero] at ha
    go_wp2_with fail
    refine (rd_one ha).mono ?_
    rintro e w1 ⟨z, rfl, h1, hk1, hz⟩
    rw [show endK 1 (b :: r) = 0 by simp [endK], hz b r rfl]
    clear hz
    simp only [List.drop_succ_cons, List.drop_zero] at h1
    go_wp2_with fail
    refine (rd_whole h1 4 (by omega)).mono ?_
    rintro e w2 ⟨z2, rfl, h2, hk2, hz2⟩
    rw [HE.out]
    have HU := hdd ((((hka.then hk1).then hk2).block U (lt_of_heap hU0) (by omega)).trans hU0)
    obtain ⟨u0, u1, u2, u3, u4, u5, u6⟩ := got_cells HU.out
    obtain ⟨f0, f1, f2, f3, f4, f5, f6⟩ := got_free HU.out
    clear hz2
    go_wp2_with fail
    obtain ⟨h3, hk3⟩ := RdP.got hR h2 ((hk0.weak (fun _ _ x => x.elim)).then ((hka.then hk1).then hk2)) hU (by simp; omega) 10 b.toNat kb.toNat z2 0 0 (.slice none 0 0)
    exact ret_got (U := U) Tryz.results118 rfl rfl (got_set HU.out _ _ _ _ _ _ _) ⟨10, _, _, _, rfl, .inr (.inr rfl), ⟨_, h3, by first | omega | (simp; done) | (simp; omega), fun hh => by cases hh⟩, hk3, fun hh => by cases hh⟩
   ·have e0 : mapK (kb :: b :: r) c = contK (wrap32 (Lib.beNat (r.take 4))) (minBin kb.toNat + minBin b.toNat) (r.drop 4).length c := by simp only [mapK, if_neg hl]
    rw [e0]
    have e2 : fullK 4 r = 0 := by simp [fullK]; omega
    have e3 : mapRem (kb :: b :: r) = r.drop 4 := rfl
    have e4 : mapT (kb :: b :: r) = b.toNat := rfl
    have e6 : mapKT (kb :: b :: r) = kb.toNat := rfl
    have e5 : mapN (kb :: b :: r) = wrap32 (Lib.beNat (r.take 4)) := rfl
    rw [e3, e4, e5, e6]
    have hzz : numZ (r.take 4) = wrap32 (Lib.beNat (r.take 4)) := numZ_four _ (by simp; omega)
    obtain ⟨sz, hsz⟩ : ∃ sz, wrap32 (Lib.beNat (r.take 4)) = sz := ⟨_, rfl⟩
    have hb1 : -2147483648 ≤ sz ∧ sz ≤ 2147483647 := by rw [← hsz]; simp only [wrap32]; omega
    rw [hsz] at hzz ⊢
    obtain ⟨hb1, hb2⟩ := hb1
    have HE := hdd e2
    have HL := hdd hl
    have HZ := hdd hzz
    clear e0 e2 e3 e4 e5 e6 hl hzz hsz
    go_enter Tryz.func118, Tryz.ntmps118
    go_wp2_with fail
    obtain ⟨U, hU⟩ : ∃ U, w.heap.size = U := ⟨_, rfl⟩
    generalize w.alloc (.cells zGot 75) = wA at *
    rw [hU] at hU0 hTU ⊢
    refine (rd_one (hR.fresh hk0)).mono ?_
    rintro e wa ⟨z, rfl, ha, hka, hz⟩
    rw [show endK 1 (kb :: b :: r) = 0 by simp [endK], hz kb _ rfl]
    clear hz
    simp only [List.drop_succ_cons, List.drop_zero] at ha
    go_wp2_with fail
    refine (rd_one ha).mono ?_
    rintro e w1 ⟨z, rfl, h1, hk1, hz⟩
    rw [show endK 1 (b :: r) = 0 by simp [endK], hz b r rfl]
    clear hz
    simp only [List.drop_succ_cons, List.drop_zero] at h1
    go_wp2_with fail
    refine (rd_whole h1 4 (by omega)).mono ?_
    rintro e w2 ⟨z2, rfl, h2, hk2, hz2⟩
    rw [HE.out, (hz2 (by have := HL.out; omega)).trans HZ.out]
    have hUlt := lt_of_heap hU0
    have HU0 := hdd hU0
    clear hz2 hU0
    go_wp2_with fail
    have hk3 : Keep (fun _ => False) w2 (w2.alloc (.cells #[.int .i64 kb.toNat, .int .i64 b.toNat] 3)) := (Keep.refl _ w2).alloc _
    have hg : (w2.alloc (.cells #[.int .i64 kb.toNat, .int .i64 b.toNat] 3)).cell? ⟨w2.heap.size, 0, none⟩ = some (.int .i64 kb.toNat) := by simp
    have hgb : (w2.alloc (.cells #[.int .i64 kb.toNat, .int .i64 b.toNat] 3)).cell? ⟨w2.heap.size, 1, none⟩ = some (.int .i64 b.toNat) := by simp
    refine (rd_count2 (h2.fresh hk3) sz kb.toNat b.toNat w2.heap.size hg hgb hb1 hb2).mono ?_
    rintro e w4 ⟨x, rfl, hx, hk4⟩
    have HX := hdd hx
    have hk34 : Keep (TB = ·) w2 w4 := (hk3.then hk4).weak (fun _ _ x => x.elim)
    have h4 := (h2.fresh hk3).fresh hk4
    have HU := hdd (((((hka.then hk1).then hk2).then hk34).block U hUlt (by omega)).trans HU0.out)
    clear hx hg hgb
    obtain ⟨u0, u1, u2, u3, u4, u5, u6⟩ := got_cells HU.out
    obtain ⟨f0, f1, f2, f3, f4, f5, f6⟩ := got_free HU.out
    go_wp2_with fail
    obtain ⟨h5, hk5⟩ := RdP.got hR h4 ((hk0.weak (fun _ _ x => x.elim)).then (((hka.then hk1).then hk2).then hk34)) hU (by simp; omega) x b.toNat kb.toNat sz 0 0 (.slice none 0 0)
    exact ret_got (U := U) Tryz.results118 rfl rfl (got_set HU.out _ _ _ _ _ _ _) ⟨x, _, _, _, rfl, HX.out, ⟨_, h5, by first | omega | (simp; done) | (simp; omega), fun _ => rfl⟩, hk5, fun _ => ⟨rfl, rfl, rfl⟩⟩
end
def GP (R TB DT : Nat) (c : Cfg) (n : Int) (tl : List Value) (rem : List UInt8) (w : World) (k : Int) (s' : List UInt8) (T KT SZ ID N : Int) (S : List UInt8) (e : Ending) (w' : World) : Prop :=
 ∃ x t kt size id N' S', e = .returned (gotV x t kt size id N' S') ∧ (∃ a m cc, S' = .slice a m cc) ∧ Sk k x ∧ (∃ r', RdP R TB DT c.b c n tl r' w' ∧ r'.length ≤ rem.length ∧ (x = 0 → r' = s')) ∧ Keep (TB = ·) w w' ∧
  (x = 0 → t = T ∧ kt = KT ∧ size = SZ ∧ id = ID ∧ N' = N ∧ BytesAt (w.heap.size ≤ ·) w' S' S)
theorem BytesAt.nil (A : Nat → Prop) (w : World) : BytesAt A w nilB [] := .inl ⟨rfl, _, _, rfl⟩
theorem BytesAt.got {w w1 : World} {U : Nat} {S : Value} {l : List UInt8} (h : BytesAt (U + 1 ≤ ·) w1 S l) (hU : w.heap.size = U) (k t kt size id nn : Int) (s : Value) : BytesAt (w.heap.size ≤ ·) (gotW w1 U k t kt size id nn s) S l :=
 (h.keep (got_keep (M := fun i => U = i) (Keep.refl _ w1) (fun _ => rfl) _ _ _ _ _ _ _) (fun i hi e => by omega)).weak (fun i _ hi => by omega)
section
variable {R TB DT : Nat} {c : Cfg} {n : Int} {tl : List Value} {rem : List UInt8} {w : World}
set_option maxRecDepth 100000 in
theorem bin_op4 (hR : RdP R TB DT c.b c n tl rem w) : Calls Tryz.prog 83 #[.pointer (some ⟨R, 0, none⟩), .int .i64 4] w (GP R TB DT c n tl rem w (fieldK rem) (fieldRem rem) (fieldT rem) 0 0 (fieldI rem) 0 []) := by
 have hTU : TB < w.heap.size := lt_of_cell hR.tube.c0
 have hk0 : Keep (fun _ => False) w (w.alloc (.cells zGot 75)) := (Keep.refl _ w).alloc _
 have hU0 := heap_alloc_new w (.cells zGot 75)
 go_enter Tryz.func83, Tryz.ntmps83
 go_wp2_with fail
 obtain ⟨U, hU⟩ : ∃ U, w.heap.size = U := ⟨_, rfl⟩
 have hUs : (w.alloc (.cells zGot 75)).heap.size = U + 1 := by simp [hU]
 generalize w.alloc (.cells zGot 75) = wA at *
 rw [hU] at hU0 hTU ⊢
 refine (rd_field (hR.fresh hk0)).mono ?_
 rintro e w1 ⟨t, id, rfl, h1, hk1, hv⟩
 have HU := hdd ((hk1.block U (lt_of_heap hU0) (by omega)).trans hU0)
 obtain ⟨u0, u1, u2, u3, u4, u5, u6⟩ := got_cells HU.out
 obtain ⟨f0, f1, f2, f3, f4, f5, f6⟩ := got_free HU.out
 have HV := hdd hv
 have HLE := hdd (show (fieldRem rem).length ≤ rem.length by cases rem with | nil => exact Nat.le_refl _ | cons b r => simp only [fieldRem]; split <;> simp <;> omega)
 clear hv
 go_wp2_with fail
 obtain ⟨h2, hk2⟩ := RdP.got hR h1 ((hk0.weak (fun _ _ x => x.elim)).then hk1) hU (HLE.out) (fieldK rem) t 0 0 id 0 (.slice none 0 0)
 exact ret_got (U := U) Tryz.results83 rfl rfl (got_set HU.out _ _ _ _ _ _ _) ⟨_, _, _, _, _, _, _, rfl, ⟨_, _, _, rfl⟩, .inr (.inr rfl), ⟨_, h2, HLE.out, fun _ => rfl⟩, hk2, fun hz => ⟨(HV.out hz).1, rfl, rfl, (HV.out hz).2, rfl, BytesAt.nil _ _⟩⟩
set_option maxRecDepth 100000 in
theorem bin_op7 (hR : RdP R TB DT c.b c n tl rem w) : Calls Tryz.prog 83 #[.pointer (some ⟨R, 0, none⟩), .int .i64 7] w (GP R TB DT c n tl rem w (mapK rem c) (mapRem rem) (mapT rem) (mapKT rem) (mapN rem) 0 0 []) := by
 have hTU : TB < w.heap.size := lt_of_cell hR.tube.c0
 have hk0 : Keep (fun _ => False) w (w.alloc (.cells zGot 75)) := (Keep.refl _ w).alloc _
 have hU0 := heap_alloc_new w (.cells zGot 75)
 go_enter Tryz.func83, Tryz.ntmps83
 go_wp2_with fail
 obtain ⟨U, hU⟩ : ∃ U, w.heap.size = U := ⟨_, rfl⟩
 have hUs : (w.alloc (.cells zGot 75)).heap.size = U + 1 := by simp [hU]
 generalize w.alloc (.cells zGot 75) = wA at *
 rw [hU] at hU0 hTU ⊢
 refine (rd_map (hR.fresh hk0)).mono ?_
 rintro e w1 ⟨x, kt, t, size, rfl, hx, ⟨r', h1, hle, hr⟩, hk1, hv⟩
 have HU := hdd ((hk1.block U (lt_of_heap hU0) (by omega)).trans hU0)
 obtain ⟨u0, u1, u2, u3, u4, u5, u6⟩ := got_cells HU.out
 obtain ⟨f0, f1, f2, f3, f4, f5, f6⟩ := got_free HU.out
 have HV := hdd hv
 have HX := hdd hx
 have HR := hdd hr
 have HLE := hdd hle
 clear hv hx hr hle
 go_wp2_with fail
 obtain ⟨h2, hk2⟩ := RdP.got hR h1 ((hk0.weak (fun _ _ x => x.elim)).then hk1) hU (HLE.out) x t kt size 0 0 (.slice none 0 0)
 exact ret_got (U := U) Tryz.results83 rfl rfl (got_set HU.out _ _ _ _ _ _ _) ⟨_, _, _, _, _, _, _, rfl, ⟨_, _, _, rfl⟩, HX.out, ⟨_, h2, HLE.out, HR.out⟩, hk2, fun hz => ⟨(HV.out hz).2.1, (HV.out hz).1, (HV.out hz).2.2, rfl, rfl, BytesAt.nil _ _⟩⟩
set_option maxRecDepth 100000 in
theorem bin_op9 (hR : RdP R TB DT c.b c n tl rem w) : Calls Tryz.prog 83 #[.pointer (some ⟨R, 0, none⟩), .int .i64 9] w (GP R TB DT c n tl rem w (listK rem c) (listRem rem) (listT rem) 0 (listN rem) 0 0 []) := by
 have hTU : TB < w.heap.size := lt_of_cell hR.tube.c0
 have hk0 : Keep (fun _ => False) w (w.alloc (.cells zGot 75)) := (Keep.refl _ w).alloc _
 have hU0 := heap_alloc_new w (.cells zGot 75)
 go_enter Tryz.func83, Tryz.ntmps83
 go_wp2_with fail
 obtain ⟨U, hU⟩ : ∃ U, w.heap.size = U := ⟨_, rfl⟩
 have hUs : (w.alloc (.cells zGot 75)).heap.size = U + 1 := by simp [hU]
 generalize w.alloc (.cells zGot 75) = wA at *
 rw [hU] at hU0 hTU ⊢
 refine (rd_list (hR.fresh hk0)).mono ?_
 rintro e w1 ⟨x, t, size, rfl, hx, ⟨r', h1, hle, hr⟩, hk1, hv⟩
 have HU := hdd ((hk1.block U (lt_of_heap hU0) (by omega)).trans hU0)
 obtain ⟨u0, u1, u2, u3, u4, u5, u6⟩ := got_cells HU.out
 obtain ⟨f0, f1, f2, f3, f4, f5, f6⟩ := got_free HU.out
 have HV := hdd hv
 have HX := hdd hx
 have HR := hdd hr
 have HLE := hdd hle
 clear hv hx hr hle
 go_wp2_with fail
 obtain ⟨h2, hk2⟩ := RdP.got hR h1 ((hk0.weak (fun _ _ x => x.elim)).then hk1) hU (HLE.out) x t 0 size 0 0 (.slice none 0 0)
 exact ret_got (U := U) Tryz.results83 rfl rfl (got_set HU.out _ _ _ _ _ _ _) ⟨_, _, _, _, _, _, _, rfl, ⟨_, _, _, rfl⟩, HX.out, ⟨_, h2, HLE.out, HR.out⟩, hk2, fun hz => ⟨(HV.out hz).1, rfl, (HV.out hz).2, rfl, rfl, BytesAt.nil _ _⟩⟩
set_option maxRecDepth 100000 in
theorem bin_op11 (hR : RdP R TB DT c.b c n tl rem w) : Calls Tryz.prog 83 #[.pointer (some ⟨R, 0, none⟩), .int .i64 11] w (GP R TB DT c n tl rem w (listK rem c) (listRem rem) (listT rem) 0 (listN rem) 0 0 []) := by
 have hTU : TB < w.heap.size := lt_of_cell hR.tube.c0
 have hk0 : Keep (fun _ => False) w (w.alloc (.cells zGot 75)) := (Keep.refl _ w).alloc _
 have hU0 := heap_alloc_new w (.cells zGot 75)
 go_enter Tryz.func83, Tryz.ntmps83
 go_wp2_with fail
 obtain ⟨U, hU⟩ : ∃ U, w.heap.size = U := ⟨_, rfl⟩
 have hUs : (w.alloc (.cells zGot 75)).heap.size = U + 1 := by simp [hU]
 generalize w.alloc (.cells zGot 75) = wA at *
 rw [hU] at hU0 hTU ⊢
 refine (rd_list (hR.fresh hk0)).mono ?_
 rintro e w1 ⟨x, t, size, rfl, hx, ⟨r', h1, hle, hr⟩, hk1, hv⟩
 have HU := hdd ((hk1.block U (lt_of_heap hU0) (by omega)).trans hU0)
 obtain ⟨u0, u1, u2, u3, u4, u5, u6⟩ := got_cells HU.out
 obtain ⟨f0, f1, f2, f3, f4, f5, f6⟩ := got_free HU.out
 have HV := hdd hv
 have HX := hdd hx
 have HR := hdd hr
 have HLE := hdd hle
 clear hv hx hr hle
 go_wp2_with fail
 obtain ⟨h2, hk2⟩ := RdP.got hR h1 ((hk0.weak (fun _ _ x => x.elim)).then hk1) hU (HLE.out) x t 0 size 0 0 (.slice none 0 0)
 exact ret_got (U := U) Tryz.results83 rfl rfl (got_set HU.out _ _ _ _ _ _ _) ⟨_, _, _, _, _, _, _, rfl, ⟨_, _, _, rfl⟩, HX.out, ⟨_, h2, HLE.out, HR.out⟩, hk2, fun hz => ⟨(HV.out hz).1, rfl, (HV.out hz).2, rfl, rfl, BytesAt.nil _ _⟩⟩
set_option maxRecDepth 100000 in
theorem bin_op15 (hR : RdP R TB DT c.b c n tl rem w) : Calls Tryz.prog 83 #[.pointer (some ⟨R, 0, none⟩), .int .i64 15] w (GP R TB DT c n tl rem w (fullK 2 rem) (rem.drop 2) 0 0 0 0 (IntKind.i16.wrap (Lib.beNat (rem.take 2))) []) := by
 have hTU : TB < w.heap.size := lt_of_cell hR.tube.c0
 have hk0 : Keep (fun _ => False) w (w.alloc (.cells zGot 75)) := (Keep.refl _ w).alloc _
 have hU0 := heap_alloc_new w (.cells zGot 75)
 go_enter Tryz.func83, Tryz.ntmps83
 go_wp2_with fail
 obtain ⟨U, hU⟩ : ∃ U, w.heap.size = U := ⟨_, rfl⟩
 have hUs : (w.alloc (.cells zGot 75)).heap.size = U + 1 := by simp [hU]
 generalize w.alloc (.cells zGot 75) = wA at *
 rw [hU] at hU0 hTU ⊢
 refine (rd_number (hR.fresh hk0) 2 (by omega)).mono ?_
 rintro e w1 ⟨z, rfl, h1, hk1, hv⟩
 have HU := hdd ((hk1.block U (lt_of_heap hU0) (by omega)).trans hU0)
 obtain ⟨u0, u1, u2, u3, u4, u5, u6⟩ := got_cells HU.out
 obtain ⟨f0, f1, f2, f3, f4, f5, f6⟩ := got_free HU.out
 have HV := hdd hv
 have HLE := hdd (show (rem.drop 2).length ≤ rem.length by simp)
 clear hv
 go_wp2_with fail
 obtain ⟨h2, hk2⟩ := RdP.got hR h1 ((hk0.weak (fun _ _ x => x.elim)).then hk1) hU (HLE.out) (fullK 2 rem) 0 0 0 0 z (.slice none 0 0)
 exact ret_got (U := U) Tryz.results83 rfl rfl (got_set HU.out _ _ _ _ _ _ _) ⟨_, _, _, _, _, _, _, rfl, ⟨_, _, _, rfl⟩, .inr (.inr rfl), ⟨_, h2, HLE.out, fun _ => rfl⟩, hk2, fun hz => ⟨rfl, rfl, rfl, rfl, by rw [HV.out (fullK_len hz), numZ_two _ (by have := fullK_len hz; simp; omega)], BytesAt.nil _ _⟩⟩
set_option maxRecDepth 100000 in
theorem bin_op16 (hR : RdP R TB DT c.b c n tl rem w) : Calls Tryz.prog 83 #[.pointer (some ⟨R, 0, none⟩), .int .i64 16] w (GP R TB DT c n tl rem w (fullK 4 rem) (rem.drop 4) 0 0 0 0 (wrap32 (Lib.beNat (rem.take 4))) []) := by
 have hTU : TB < w.heap.size := lt_of_cell hR.tube.c0
 have hk0 : Keep (fun _ => False) w (w.alloc (.cells zGot 75)) := (Keep.refl _ w).alloc _
 have hU0 := heap_alloc_new w (.cells zGot 75)
 go_enter Tryz.func83, Tryz.ntmps83
 go_wp2_with fail
 obtain ⟨U, hU⟩ : ∃ U, w.heap.size = U := ⟨_, rfl⟩
 have hUs : (w.alloc (.cells zGot 75)).heap.size = U + 1 := by simp [hU]
 generalize w.alloc (.cells zGot 75) = wA at *
 rw [hU] at hU0 hTU ⊢
 refine (rd_number (hR.fresh hk0) 4 (by omega)).mono ?_
 rintro e w1 ⟨z, rfl, h1, hk1, hv⟩
 have HU := hdd ((hk1.block U (lt_of_heap hU0) (by omega)).trans hU0)
 obtain ⟨u0, u1, u2, u3, u4, u5, u6⟩ := got_cells HU.out
 obtain ⟨f0, f1, f2, f3, f4, f5, f6⟩ := got_free HU.out
 have HV := hdd hv
 have HLE := hdd (show (rem.drop 4).length ≤ rem.length by simp)
 clear hv
 go_wp2_with fail
 obtain ⟨h2, hk2⟩ := RdP.got hR h1 ((hk0.weak (fun _ _ x => x.elim)).then hk1) hU (HLE.out) (fullK 4 rem) 0 0 0 0 z (.slice none 0 0)
 exact ret_got (U := U) Tryz.results83 rfl rfl (got_set HU.out _ _ _ _ _ _ _) ⟨_, _, _, _, _, _, _, rfl, ⟨_, _, _, rfl⟩, .inr (.inr rfl), ⟨_, h2, HLE.out, fun _ => rfl⟩, hk2, fun hz => ⟨rfl, rfl, rfl, rfl, by rw [HV.out (fullK_len hz), numZ_four _ (by have := fullK_len hz; simp; omega)], BytesAt.nil _ _⟩⟩
set_option maxRecDepth 100000 in
theorem bin_op17 (hR : RdP R TB DT c.b c n tl rem w) : Calls Tryz.prog 83 #[.pointer (some ⟨R, 0, none⟩), .int .i64 17] w (GP R TB DT c n tl rem w (fullK 8 rem) (rem.drop 8) 0 0 0 0 (wrap64 (Lib.beNat (rem.take 8))) []) := by
 have hTU : TB < w.heap.size := lt_of_cell hR.tube.c0
 have hk0 : Keep (fun _ => False) w (w.alloc (.cells zGot 75)) := (Keep.refl _ w).alloc _
 have hU0 := heap_alloc_new w (.cells zGot 75)
 go_enter Tryz.func83, Tryz.ntmps83
 go_wp2_with fail
 obtain ⟨U, hU⟩ : ∃ U, w.heap.size = U := ⟨_, rfl⟩
 have hUs : (w.alloc (.cells zGot 75)).heap.size = U + 1 := by simp [hU]
 generalize w.alloc (.cells zGot 75) = wA at *
 rw [hU] at hU0 hTU ⊢
 refine (rd_number (hR.fresh hk0) 8 (by omega)).mono ?_
 rintro e w1 ⟨z, rfl, h1, hk1, hv⟩
 have HU := hdd ((hk1.block U (lt_of_heap hU0) (by omega)).trans hU0)
 obtain ⟨u0, u1, u2, u3, u4, u5, u6⟩ := got_cells HU.out
 obtain ⟨f0, f1, f2, f3, f4, f5, f6⟩ := got_free HU.out
 have HV := hdd hv
 have HLE := hdd (show (rem.drop 8).length ≤ rem.length by simp)
 clear hv
 go_wp2_with fail
 obtain ⟨h2, hk2⟩ := RdP.got hR h1 ((hk0.weak (fun _ _ x => x.elim)).then hk1) hU (HLE.out) (fullK 8 rem) 0 0 0 0 z (.slice none 0 0)
 exact ret_got (U := U) Tryz.results83 rfl rfl (got_set HU.out _ _ _ _ _ _ _) ⟨_, _, _, _, _, _, _, rfl, ⟨_, _, _, rfl⟩, .inr (.inr rfl), ⟨_, h2, HLE.out, fun _ => rfl⟩, hk2, fun hz => ⟨rfl, rfl, rfl, rfl, by rw [HV.out (fullK_len hz), numZ_eight _ (by have := fullK_len hz; simp; omega)], BytesAt.nil _ _⟩⟩
set_option maxRecDepth 100000 in
theorem bin_op18 (hR : RdP R TB DT c.b c n tl rem w) : Calls Tryz.prog 83 #[.pointer (some ⟨R, 0, none⟩), .int .i64 18] w (GP R TB DT c n tl rem w (fullK 8 rem) (rem.drop 8) 0 0 0 0 (wrap64 (Lib.beNat (rem.take 8))) []) := by
 have hTU : TB < w.heap.size := lt_of_cell hR.tube.c0
 have hk0 : Keep (fun _ => False) w (w.alloc (.cells zGot 75)) := (Keep.refl _ w).alloc _
 have hU0 := heap_alloc_new w (.cells zGot 75)
 go_enter Tryz.func83, Tryz.ntmps83
 go_wp2_with fail
 obtain ⟨U, hU⟩ : ∃ U, w.heap.size = U := ⟨_, rfl⟩
 have hUs : (w.alloc (.cells zGot 75)).heap.size = U + 1 := by simp [hU]
 generalize w.alloc (.cells zGot 75) = wA at *
 rw [hU] at hU0 hTU ⊢
 refine (rd_number (hR.fresh hk0) 8 (by omega)).mono ?_
 rintro e w1 ⟨z, rfl, h1, hk1, hv⟩
 have HU := hdd ((hk1.block U (lt_of_heap hU0) (by omega)).trans hU0)
 obtain ⟨u0, u1, u2, u3, u4, u5, u6⟩ := got_cells HU.out
 obtain ⟨f0, f1, f2, f3, f4, f5, f6⟩ := got_free HU.out
 have HV := hdd hv
 have HLE := hdd (show (rem.drop 8).length ≤ rem.length by simp)
 clear hv
 go_wp2_with fail
 obtain ⟨h2, hk2⟩ := RdP.got hR h1 ((hk0.weak (fun _ _ x => x.elim)).then hk1) hU (HLE.out) (fullK 8 rem) 0 0 0 0 z (.slice none 0 0)
 exact ret_got (U := U) Tryz.results83 rfl rfl (got_set HU.out _ _ _ _ _ _ _) ⟨_, _, _, _, _, _, _, rfl, ⟨_, _, _, rfl⟩, .inr (.inr rfl), ⟨_, h2, HLE.out, fun _ => rfl⟩, hk2, fun hz => ⟨rfl, rfl, rfl, rfl, by rw [HV.out (fullK_len hz), numZ_eight _ (by have := fullK_len hz; simp; omega)], BytesAt.nil _ _⟩⟩
set_option maxRecDepth 100000 in
theorem bin_op2 (hR : RdP R TB DT c.b c n tl rem w) : Calls Tryz.prog 83 #[.pointer (some ⟨R, 0, none⟩), .int .i64 2] w (GP R TB DT c n tl rem w 0 rem 0 0 0 0 0 []) := by
 have hk0 : Keep (fun _ => False) w (w.alloc (.cells zGot 75)) := (Keep.refl _ w).alloc _
 have hU0 := heap_alloc_new w (.cells zGot 75)
 go_enter Tryz.func83, Tryz.ntmps83
 go_wp2_with fail
 exact ret_got (U := w.heap.size) (k := 0) (t := 0) (kt := 0) (size := 0) (id := 0) (n := 0) (s := .slice none 0 0) Tryz.results83 rfl rfl hU0 ⟨0, 0, 0, 0, 0, 0, .slice none 0 0, rfl, ⟨_, _, _, rfl⟩, .inr (.inr rfl), ⟨_, hR.fresh hk0, Nat.le_refl _, fun _ => rfl⟩, hk0.weak (fun _ _ x => x.elim), fun _ => ⟨rfl, rfl, rfl, rfl, rfl, BytesAt.nil _ _⟩⟩
set_option maxRecDepth 100000 in
theorem bin_op3 (hR : RdP R TB DT c.b c n tl rem w) : Calls Tryz.prog 83 #[.pointer (some ⟨R, 0, none⟩), .int .i64 3] w (GP R TB DT c n tl rem w 0 rem 0 0 0 0 0 []) := by
 have hk0 : Keep (fun _ => False) w (w.alloc (.cells zGot 75)) := (Keep.refl _ w).alloc _
 have hU0 := heap_alloc_new w (.cells zGot 75)
 go_enter Tryz.func83, Tryz.ntmps83
 go_wp2_with fail
 exact ret_got (U := w.heap.size) (k := 0) (t := 0) (kt := 0) (size := 0) (id := 0) (n := 0) (s := .slice none 0 0) Tryz.results83 rfl rfl hU0 ⟨0, 0, 0, 0, 0, 0, .slice none 0 0, rfl, ⟨_, _, _, rfl⟩, .inr (.inr rfl), ⟨_, hR.fresh hk0, Nat.le_refl _, fun _ => rfl⟩, hk0.weak (fun _ _ x => x.elim), fun _ => ⟨rfl, rfl, rfl, rfl, rfl, BytesAt.nil _ _⟩⟩
set_option maxRecDepth 100000 in
theorem bin_op5 (hR : RdP R TB DT c.b c n tl rem w) : Calls Tryz.prog 83 #[.pointer (some ⟨R, 0, none⟩), .int .i64 5] w (GP R TB DT c n tl rem w 0 rem 0 0 0 0 0 []) := by
 have hk0 : Keep (fun _ => False) w (w.alloc (.cells zGot 75)) := (Keep.refl _ w).alloc _
 have hU0 := heap_alloc_new w (.cells zGot 75)
 go_enter Tryz.func83, Tryz.ntmps83
 go_wp2_with fail
 exact ret_got (U := w.heap.size) (k := 0) (t := 0) (kt := 0) (size := 0) (id := 0) (n := 0) (s := .slice none 0 0) Tryz.results83 rfl rfl hU0 ⟨0, 0, 0, 0, 0, 0, .slice none 0 0, rfl, ⟨_, _, _, rfl⟩, .inr (.inr rfl), ⟨_, hR.fresh hk0, Nat.le_refl _, fun _ => rfl⟩, hk0.weak (fun _ _ x => x.elim), fun _ => ⟨rfl, rfl, rfl, rfl, rfl, BytesAt.nil _ _⟩⟩
set_option maxRecDepth 100000 in
theorem bin_op8 (hR : RdP R TB DT c.b c n tl rem w) : Calls Tryz.prog 83 #[.pointer (some ⟨R, 0, none⟩), .int .i64 8] w (GP R TB DT c n tl rem w 0 rem 0 0 0 0 0 []) := by
 have hk0 : Keep (fun _ => False) w (w.alloc (.cells zGot 75)) := (Keep.refl _ w).alloc _
 have hU0 := heap_alloc_new w (.cells zGot 75)
 go_enter Tryz.func83, Tryz.ntmps83
 go_wp2_with fail
 exact ret_got (U := w.heap.size) (k := 0) (t := 0) (kt := 0) (size := 0) (id := 0) (n := 0) (s := .slice none 0 0) Tryz.results83 rfl rfl hU0 ⟨0, 0, 0, 0, 0, 0, .slice none 0 0, rfl, ⟨_, _, _, rfl⟩, .inr (.inr rfl), ⟨_, hR.fresh hk0, Nat.le_refl _, fun _ => rfl⟩, hk0.weak (fun _ _ x => x.elim), fun _ => ⟨rfl, rfl, rfl, rfl, rfl, BytesAt.nil _ _⟩⟩
set_option maxRecDepth 100000 in
theorem bin_op10 (hR : RdP R TB DT c.b c n tl rem w) : Calls Tryz.prog 83 #[.pointer (some ⟨R, 0, none⟩), .int .i64 10] w (GP R TB DT c n tl rem w 0 rem 0 0 0 0 0 []) := by
 have hk0 : Keep (fun _ => False) w (w.alloc (.cells zGot 75)) := (Keep.refl _ w).alloc _
 have hU0 := heap_alloc_new w (.cells zGot 75)
 go_enter Tryz.func83, Tryz.ntmps83
 go_wp2_with fail
 exact ret_got (U := w.heap.size) (k := 0) (t := 0) (kt := 0) (size := 0) (id := 0) (n := 0) (s := .slice none 0 0) Tryz.results83 rfl rfl hU0 ⟨0, 0, 0, 0, 0, 0, .slice none 0 0, rfl, ⟨_, _, _, rfl⟩, .inr (.inr rfl), ⟨_, hR.fresh hk0, Nat.le_refl _, fun _ => rfl⟩, hk0.weak (fun _ _ x => x.elim), fun _ => ⟨rfl, rfl, rfl, rfl, rfl, BytesAt.nil _ _⟩⟩
set_option maxRecDepth 100000 in
theorem bin_op12 (hR : RdP R TB DT c.b c n tl rem w) : Calls Tryz.prog 83 #[.pointer (some ⟨R, 0, none⟩), .int .i64 12] w (GP R TB DT c n tl rem w 0 rem 0 0 0 0 0 []) := by
 have hk0 : Keep (fun _ => False) w (w.alloc (.cells zGot 75)) := (Keep.refl _ w).alloc _
 have hU0 := heap_alloc_new w (.cells zGot 75)
 go_enter Tryz.func83, Tryz.ntmps83
 go_wp2_with fail
 exact ret_got (U := w.heap.size) (k := 0) (t := 0) (kt := 0) (size := 0) (id := 0) (n := 0) (s := .slice none 0 0) Tryz.results83 rfl rfl hU0 ⟨0, 0, 0, 0, 0, 0, .slice none 0 0, rfl, ⟨_, _, _, rfl⟩, .inr (.inr rfl), ⟨_, hR.fresh hk0, Nat.le_refl _, fun _ => rfl⟩, hk0.weak (fun _ _ x => x.elim), fun _ => ⟨rfl, rfl, rfl, rfl, rfl, BytesAt.nil _ _⟩⟩
end
theorem wrap_i8 (n : Int) : wrap64 (IntKind.i8.wrap n) = IntKind.i8.wrap n := by
 simp [IntKind.wrap, IntKind.bits, IntKind.signed, wrap64]
 split <;> omega
section
variable {R TB DT : Nat} {c : Cfg} {n : Int} {tl : List Value} {rem : List UInt8} {w : World}
set_option maxRecDepth 100000 in
theorem bin_op13 (hR : RdP R TB DT c.b c n tl rem w) : Calls Tryz.prog 83 #[.pointer (some ⟨R, 0, none⟩), .int .i64 13] w (GP R TB DT c n tl rem w (endK 1 rem) (rem.drop 1) 0 0 0 0 (Bin.scN 2 rem) []) := by
 have hTU : TB < w.heap.size := lt_of_cell hR.tube.c0
 have hk0 : Keep (fun _ => False) w (w.alloc (.cells zGot 75)) := (Keep.refl _ w).alloc _
 have hU0 := heap_alloc_new w (.cells zGot 75)
 cases rem with
 | nil =>
  rw [show endK 1 [] = 1 by rfl]
  go_enter Tryz.func83, Tryz.ntmps83
  go_wp2_with fail
  obtain ⟨U, hU⟩ : ∃ U, w.heap.size = U := ⟨_, rfl⟩
  have hUs : (w.alloc (.cells zGot 75)).heap.size = U + 1 := by simp [hU]
  generalize w.alloc (.cells zGot 75) = wA at *
  rw [hU] at hU0 hTU ⊢
  refine (rd_one (hR.fresh hk0)).mono ?_
  rintro e w1 ⟨z, rfl, h1, hk1, hz⟩
  rw [show endK 1 [] = 1 by rfl]
  clear hz
  have HU := hdd ((hk1.block U (lt_of_heap hU0) (by omega)).trans hU0)
  obtain ⟨u0, u1, u2, u3, u4, u5, u6⟩ := got_cells HU.out
  obtain ⟨f0, f1, f2, f3, f4, f5, f6⟩ := got_free HU.out
  go_wp2_with fail
  obtain ⟨h9, hk9⟩ := RdP.got hR h1 ((hk0.weak (fun _ _ x => x.elim)).then hk1) hU (by simp <;> omega) 1 0 0 0 0 0 (.slice none 0 0)
  exact ret_got (U := U) Tryz.results83 rfl rfl (got_set HU.out _ _ _ _ _ _ _) ⟨_, _, _, _, _, _, _, rfl, ⟨_, _, _, rfl⟩, .inr (.inr rfl), ⟨_, h9, by simp, fun hh => by cases hh⟩, hk9, fun hh => by cases hh⟩
 | cons b r =>
  have hn2 : Bin.scN 2 (b :: r) = if b.toNat = 1 then 1 else 0 := by
   have e1 := Bin.n2 ⟨⟨0, 0, 0, 0, 0⟩, 0, 0, 0, 0, none, c⟩ (b :: r)
   have e2 : Bin.scN 2 (b :: r) = if (b == 1) = true then 1 else 0 := e1
   rw [e2]
   by_cases hb : b = 1
   ·subst hb; rfl
   ·have h3 : ¬ b.toNat = 1 := fun e => hb (UInt8.toNat_inj.1 (by simpa using e))
    simp [hb, h3]
  by_cases hb : b.toNat = 1
  ·have HN := hdd (hn2.trans (if_pos hb))
   have hbi : (b.toNat : Int) = 1 := by omega
   clear hn2 hb
   rw [show endK 1 (b :: r) = 0 by simp [endK]]
   go_enter Tryz.func83, Tryz.ntmps83
   go_wp2_with fail
   obtain ⟨U, hU⟩ : ∃ U, w.heap.size = U := ⟨_, rfl⟩
   have hUs : (w.alloc (.cells zGot 75)).heap.size = U + 1 := by simp [hU]
   generalize w.alloc (.cells zGot 75) = wA at *
   rw [hU] at hU0 hTU ⊢
   refine (rd_one (hR.fresh hk0)).mono ?_
   rintro e w1 ⟨z, rfl, h1, hk1, hz⟩
   rw [show endK 1 (b :: r) = 0 by simp [endK], hz b r rfl]
   clear hz
   have HU := hdd ((hk1.block U (lt_of_heap hU0) (by omega)).trans hU0)
   obtain ⟨u0, u1, u2, u3, u4, u5, u6⟩ := got_cells HU.out
   obtain ⟨f0, f1, f2, f3, f4, f5, f6⟩ := got_free HU.out
   go_wp2_with fail
   obtain ⟨h9, hk9⟩ := RdP.got hR h1 ((hk0.weak (fun _ _ x => x.elim)).then hk1) hU (by simp <;> omega) 0 0 0 0 0 1 (.slice none 0 0)
   exact ret_got (U := U) Tryz.results83 rfl rfl (got_set HU.out _ _ _ _ _ _ _) ⟨_, _, _, _, _, _, _, rfl, ⟨_, _, _, rfl⟩, .inr (.inr rfl), ⟨_, h9, by simp, fun _ => rfl⟩, hk9, fun _ => ⟨rfl, rfl, rfl, rfl, HN.out.symm, BytesAt.nil _ _⟩⟩
  ·have HN := hdd (hn2.trans (if_neg hb))
   have hbi : ¬ (b.toNat : Int) = 1 := by omega
   clear hn2 hb
   rw [show endK 1 (b :: r) = 0 by simp [endK]]
   go_enter Tryz.func83, Tryz.ntmps83
   go_wp2_with fail
   obtain ⟨U, hU⟩ : ∃ U, w.heap.size = U := ⟨_, rfl⟩
   have hUs : (w.alloc (.cells zGot 75)).heap.size = U + 1 := by simp [hU]
   generalize w.alloc (.cells zGot 75) = wA at *
   rw [hU] at hU0 hTU ⊢
   refine (rd_one (hR.fresh hk0)).mono ?_
   rintro e w1 ⟨z, rfl, h1, hk1, hz⟩
   rw [show endK 1 (b :: r) = 0 by simp [endK], hz b r rfl]
   clear hz
   have HU := hdd ((hk1.block U (lt_of_heap hU0) (by omega)).trans hU0)
   obtain ⟨u0, u1, u2, u3, u4, u5, u6⟩ := got_cells HU.out
   obtain ⟨f0, f1, f2, f3, f4, f5, f6⟩ := got_free HU.out
   go_wp2_with fail
   obtain ⟨h9, hk9⟩ := RdP.got hR h1 ((hk0.weak (fun _ _ x => x.elim)).then hk1) hU (by simp <;> omega) 0 0 0 0 0 0 (.slice none 0 0)
   exact ret_got (U := U) Tryz.results83 rfl rfl (got_set HU.out _ _ _ _ _ _ _) ⟨_, _, _, _, _, _, _, rfl, ⟨_, _, _, rfl⟩, .inr (.inr rfl), ⟨_, h9, by simp, fun _ => rfl⟩, hk9, fun _ => ⟨rfl, rfl, rfl, rfl, HN.out.symm, BytesAt.nil _ _⟩⟩
set_option maxRecDepth 100000 in
theorem bin_op14 (hR : RdP R TB DT c.b c n tl rem w) : Calls Tryz.prog 83 #[.pointer (some ⟨R, 0, none⟩), .int .i64 14] w (GP R TB DT c n tl rem w (endK 1 rem) (rem.drop 1) 0 0 0 0 (Bin.scN 3 rem) []) := by
 have hTU : TB < w.heap.size := lt_of_cell hR.tube.c0
 have hk0 : Keep (fun _ => False) w (w.alloc (.cells zGot 75)) := (Keep.refl _ w).alloc _
 have hU0 := heap_alloc_new w (.cells zGot 75)
 cases rem with
 | nil =>
  rw [show endK 1 [] = 1 by rfl]
  go_enter Tryz.func83, Tryz.ntmps83
  go_wp2_with fail
  obtain ⟨U, hU⟩ : ∃ U, w.heap.size = U := ⟨_, rfl⟩
  have hUs : (w.alloc (.cells zGot 75)).heap.size = U + 1 := by simp [hU]
  generalize w.alloc (.cells zGot 75) = wA at *
  rw [hU] at hU0 hTU ⊢
  refine (rd_one (hR.fresh hk0)).mono ?_
  rintro e w1 ⟨z, rfl, h1, hk1, hz⟩
  rw [show endK 1 [] = 1 by rfl]
  clear hz
  have HU := hdd ((hk1.block U (lt_of_heap hU0) (by omega)).trans hU0)
  obtain ⟨u0, u1, u2, u3, u4, u5, u6⟩ := got_cells HU.out
  obtain ⟨f0, f1, f2, f3, f4, f5, f6⟩ := got_free HU.out
  go_wp2_with fail
  obtain ⟨h9, hk9⟩ := RdP.got hR h1 ((hk0.weak (fun _ _ x => x.elim)).then hk1) hU (by simp <;> omega) 1 0 0 0 0 (wrap64 (IntKind.i8.wrap z)) (.slice none 0 0)
  exact ret_got (U := U) Tryz.results83 rfl rfl (got_set HU.out _ _ _ _ _ _ _) ⟨_, _, _, _, _, _, _, rfl, ⟨_, _, _, rfl⟩, .inr (.inr rfl), ⟨_, h9, by simp, fun hh => by cases hh⟩, hk9, fun hh => by cases hh⟩
 | cons b r =>
  have HN := hdd (Bin.n3 ⟨⟨0, 0, 0, 0, 0⟩, 0, 0, 0, 0, none, c⟩ (b :: r))
  have hb8 := b.toNat_lt
  rw [show endK 1 (b :: r) = 0 by simp [endK]]
  go_enter Tryz.func83, Tryz.ntmps83
  go_wp2_with fail
  obtain ⟨U, hU⟩ : ∃ U, w.heap.size = U := ⟨_, rfl⟩
  have hUs : (w.alloc (.cells zGot 75)).heap.size = U + 1 := by simp [hU]
  generalize w.alloc (.cells zGot 75) = wA at *
  rw [hU] at hU0 hTU ⊢
  refine (rd_one (hR.fresh hk0)).mono ?_
  rintro e w1 ⟨z, rfl, h1, hk1, hz⟩
  rw [show endK 1 (b :: r) = 0 by simp [endK], hz b r rfl]
  clear hz
  have HU := hdd ((hk1.block U (lt_of_heap hU0) (by omega)).trans hU0)
  obtain ⟨u0, u1, u2, u3, u4, u5, u6⟩ := got_cells HU.out
  obtain ⟨f0, f1, f2, f3, f4, f5, f6⟩ := got_free HU.out
  go_wp2_with fail
  obtain ⟨h9, hk9⟩ := RdP.got hR h1 ((hk0.weak (fun _ _ x => x.elim)).then hk1) hU (by simp <;> omega) 0 0 0 0 0 (wrap64 (IntKind.i8.wrap b.toNat)) (.slice none 0 0)
  exact ret_got (U := U) Tryz.results83 rfl rfl (got_set HU.out _ _ _ _ _ _ _) ⟨_, _, _, _, _, _, _, rfl, ⟨_, _, _, rfl⟩, .inr (.inr rfl), ⟨_, h9, by simp, fun _ => rfl⟩, hk9, fun _ => ⟨rfl, rfl, rfl, rfl, (wrap_i8 _).trans HN.out.symm, BytesAt.nil _ _⟩⟩
end
section
variable {R TB DT : Nat} {c : Cfg} {n : Int} {tl : List Value} {rem : List UInt8} {w : World}
set_option maxRecDepth 100000 in
theorem bin_op21 (hR : RdP R TB DT c.b c n tl rem w) : Calls Tryz.prog 83 #[.pointer (some ⟨R, 0, none⟩), .int .i64 21] w (GP R TB DT c n tl rem w (fullK 16 rem) (rem.drop 16) 0 0 0 0 0 (rem.take 16)) := by
 have hTU : TB < w.heap.size := lt_of_cell hR.tube.c0
 have hk0 : Keep (fun _ => False) w (w.alloc (.cells zGot 75)) := (Keep.refl _ w).alloc _
 have hU0 := heap_alloc_new w (.cells zGot 75)
 by_cases hl : 16 ≤ rem.length
 ·have e0 : endK 16 rem = 0 := by simp [endK, hl]
  have e1 : fullK 16 rem = 0 := by simp [fullK, hl]
  rw [e1]
  have HE := hdd e0
  have HL := hdd hl
  clear e0 e1 hl
  go_enter Tryz.func83, Tryz.ntmps83
  go_wp2_with fail
  obtain ⟨U, hU⟩ : ∃ U, w.heap.size = U := ⟨_, rfl⟩
  have hUs : (w.alloc (.cells zGot 75)).heap.size = U + 1 := by simp [hU]
  generalize w.alloc (.cells zGot 75) = wA at *
  rw [hU] at hU0 hTU ⊢
  refine (rd_raw (hR.fresh hk0) 16 (by omega)).mono ?_
  rintro e w1 ⟨S, rfl, h1, hk1, hb⟩
  rw [HE.out]
  have hb1 := hb HL.out
  obtain ⟨Sa, Sm, Sc, rfl⟩ := hb1.shape
  have HB := hdd hb1
  clear hb hb1
  have HU := hdd ((hk1.block U (lt_of_heap hU0) (by omega)).trans hU0)
  obtain ⟨u0, u1, u2, u3, u4, u5, u6⟩ := got_cells HU.out
  obtain ⟨f0, f1, f2, f3, f4, f5, f6⟩ := got_free HU.out
  go_wp2_with fail
  obtain ⟨h9, hk9⟩ := RdP.got hR h1 ((hk0.weak (fun _ _ x => x.elim)).then hk1) hU (by simp <;> omega) 0 0 0 0 0 0 (.slice Sa Sm Sc)
  exact ret_got (U := U) Tryz.results83 rfl rfl (got_set HU.out _ _ _ _ _ _ _) ⟨_, _, _, _, _, _, _, rfl, ⟨_, _, _, rfl⟩, .inr (.inr rfl), ⟨_, h9, by simp, fun _ => rfl⟩, hk9, fun _ => ⟨rfl, rfl, rfl, rfl, rfl, BytesAt.got (by have := HB.out; rw [hUs] at this; exact this) hU _ _ _ _ _ _ _⟩⟩
 ·have e0 : endK 16 rem = 1 ∨ endK 16 rem = 2 := by
   unfold endK; rw [if_neg hl]; split <;> simp
  have e1 : fullK 16 rem = 10 := by simp [fullK, hl]
  rw [e1]
  obtain ⟨k, hk⟩ : ∃ k, endK 16 rem = k := ⟨_, rfl⟩
  rw [hk] at e0
  have hkn : ¬ k = 0 := by omega
  have H0 := hdd e0
  have HK := hdd hk
  clear e0 e1 hk hl
  go_enter Tryz.func83, Tryz.ntmps83
  go_wp2_with fail
  obtain ⟨U, hU⟩ : ∃ U, w.heap.size = U := ⟨_, rfl⟩
  have hUs : (w.alloc (.cells zGot 75)).heap.size = U + 1 := by simp [hU]
  generalize w.alloc (.cells zGot 75) = wA at *
  rw [hU] at hU0 hTU ⊢
  refine (rd_raw (hR.fresh hk0) 16 (by omega)).mono ?_
  rintro e w1 ⟨S, rfl, h1, hk1, _⟩
  rw [HK.out]
  have HU := hdd ((hk1.block U (lt_of_heap hU0) (by omega)).trans hU0)
  obtain ⟨u0, u1, u2, u3, u4, u5, u6⟩ := got_cells HU.out
  obtain ⟨f0, f1, f2, f3, f4, f5, f6⟩ := got_free HU.out
  go_wp2_with fail
  refine (wrapped_at k w1 H0.out).mono ?_
  rintro e w2 ⟨rfl, rfl⟩
  go_wp2_with fail
  obtain ⟨h9, hk9⟩ := RdP.got hR h1 ((hk0.weak (fun _ _ x => x.elim)).then hk1) hU (by simp <;> omega) 10 0 0 0 0 0 (.slice none 0 0)
  exact ret_got (U := U) Tryz.results83 rfl rfl (got_set HU.out _ _ _ _ _ _ _) ⟨_, _, _, _, _, _, _, rfl, ⟨_, _, _, rfl⟩, .inr (.inr rfl), ⟨_, h9, by simp, fun hh => by cases hh⟩, hk9, fun hh => by cases hh⟩
set_option maxRecDepth 100000 in
theorem bin_op19 (hR : RdP R TB DT c.b c n tl rem w) : Calls Tryz.prog 83 #[.pointer (some ⟨R, 0, none⟩), .int .i64 19] w (GP R TB DT c n tl rem w (strK rem c) (strRem rem) 0 0 0 0 0 (strS rem)) := by
 have hTU : TB < w.heap.size := lt_of_cell hR.tube.c0
 have hk0 : Keep (fun _ => False) w (w.alloc (.cells zGot 75)) := (Keep.refl _ w).alloc _
 have hU0 := heap_alloc_new w (.cells zGot 75)
 by_cases hl : rem.length < 4
 ·have e1 : fullK 4 rem = 10 := by simp [fullK]; omega
  have e2 : strK rem c = 10 := by simp [strK, hl]
  rw [e2]
  have HE := hdd e1
  clear e1 e2 hl
  go_enter Tryz.func83, Tryz.ntmps83
  go_wp2_with fail
  obtain ⟨U, hU⟩ : ∃ U, w.heap.size = U := ⟨_, rfl⟩
  have hUs : (w.alloc (.cells zGot 75)).heap.size = U + 1 := by simp [hU]
  generalize w.alloc (.cells zGot 75) = wA at *
  rw [hU] at hU0 hTU ⊢
  refine (rd_whole (hR.fresh hk0) 4 (by omega)).mono ?_
  rintro e w1 ⟨z, rfl, h1, hk1, hz⟩
  rw [HE.out]
  clear hz
  have HU := hdd ((hk1.block U (lt_of_heap hU0) (by omega)).trans hU0)
  obtain ⟨u0, u1, u2, u3, u4, u5, u6⟩ := got_cells HU.out
  obtain ⟨f0, f1, f2, f3, f4, f5, f6⟩ := got_free HU.out
  go_wp2_with fail
  obtain ⟨h9, hk9⟩ := RdP.got hR h1 ((hk0.weak (fun _ _ x => x.elim)).then hk1) hU (by simp <;> omega) 10 0 0 0 0 0 (.slice none 0 0)
  exact ret_got (U := U) Tryz.results83 rfl rfl (got_set HU.out _ _ _ _ _ _ _) ⟨_, _, _, _, _, _, _, rfl, ⟨_, _, _, rfl⟩, .inr (.inr rfl), ⟨_, h9, by simp, fun hh => by cases hh⟩, hk9, fun hh => by cases hh⟩
 ·have e1 : fullK 4 rem = 0 := by simp [fullK]; omega
  have e2 : strK rem c = if sizeK (strN rem) c = 0 then fullK (strN rem).toNat (rem.drop 4) else sizeK (strN rem) c := by simp only [strK, if_neg hl]
  rw [e2]
  have hzz : numZ (rem.take 4) = strN rem := numZ_four _ (by simp; omega)
  have hb1 : -2147483648 ≤ strN rem ∧ strN rem ≤ 2147483647 := by simp only [strN, wrap32]; omega
  have e3 : strRem rem = (rem.drop 4).drop (strN rem).toNat := rfl
  have e4 : strS rem = (rem.drop 4).take (strN rem).toNat := rfl
  rw [e3, e4]
  obtain ⟨sz, hsz⟩ : ∃ sz, strN rem = sz := ⟨_, rfl⟩
  rw [hsz] at hzz hb1 ⊢
  obtain ⟨kk, hkk⟩ : ∃ kk, (if sizeK sz c = 0 then fullK sz.toNat (rem.drop 4) else sizeK sz c) = kk := ⟨_, rfl⟩
  rw [hkk]
  have HKK := hdd hkk
  clear hkk
  obtain ⟨hlo, hhi⟩ := hb1
  have HE := hdd e1
  have HZ := hdd hzz
  have HL := hdd (show 4 ≤ rem.length by omega)
  clear e1 e2 e3 e4 hl hsz hzz
  go_enter Tryz.func83, Tryz.ntmps83
  go_wp2_with fail
  obtain ⟨U, hU⟩ : ∃ U, w.heap.size = U := ⟨_, rfl⟩
  have hUs : (w.alloc (.cells zGot 75)).heap.size = U + 1 := by simp [hU]
  generalize w.alloc (.cells zGot 75) = wA at *
  rw [hU] at hU0 hTU ⊢
  refine (rd_whole (hR.fresh hk0) 4 (by omega)).mono ?_
  rintro e w1 ⟨z, rfl, h1, hk1, hz⟩
  rw [HE.out, (hz HL.out).trans HZ.out]
  clear hz
  go_wp2_with fail
  refine (rd_bytes h1 sz hlo hhi).mono ?_
  rintro e w2 ⟨S, x, rfl, hx, ⟨r', h2, hle, hr⟩, hk2, hb, Sa, Sm, Sc, rfl⟩
  have HX := hdd hx
  have HR := hdd hr
  have HB := hdd hb
  have HLE := hdd (show r'.length ≤ rem.length by simp at hle; omega)
  clear hx hr hb hle
  have HU := hdd (((hk1.then hk2).block U (lt_of_heap hU0) (by omega)).trans hU0)
  obtain ⟨u0, u1, u2, u3, u4, u5, u6⟩ := got_cells HU.out
  obtain ⟨f0, f1, f2, f3, f4, f5, f6⟩ := got_free HU.out
  go_wp2_with fail
  obtain ⟨h9, hk9⟩ := RdP.got hR h2 ((hk0.weak (fun _ _ x => x.elim)).then (hk1.then hk2)) hU HLE.out x 0 0 0 0 0 (.slice Sa Sm Sc)
  exact ret_got (U := U) Tryz.results83 rfl rfl (got_set HU.out _ _ _ _ _ _ _) ⟨_, _, _, _, _, _, _, rfl, ⟨_, _, _, rfl⟩, HKK.out ▸ HX.out, ⟨_, h9, HLE.out, HR.out⟩, hk9, fun hh => ⟨rfl, rfl, rfl, rfl, rfl, BytesAt.got ((HB.out hh).weak (fun i _ hi => by have := hk1.size; omega)) hU _ _ _ _ _ _ _⟩⟩
end
section
variable {R TB DT : Nat} {c : Cfg} {n : Int} {tl : List Value} {rem : List UInt8} {w : World}
abbrev stepG (op t k z i n : Int) (sv : Value) : Array Value := #[.int .i64 op, .int .i64 t, .int .i64 k, .int .i64 z, .int .i64 i, .int .i64 n, sv]
abbrev stepA (op : Int) : Array Value := stepG op 0 0 0 0 0 (.slice none 0 0)
variable {a1 a2 a3 a4 a5 : Int} {sv : Value}
set_option maxRecDepth 100000 in
theorem rd_step (op : Int) (h0 : 0 ≤ op) (h22 : op < 22) (h6 : ¬ op = 6) (hR : RdP R TB DT c.b c n tl rem w) {k : Int} {s' : List UInt8} {T KT SZ ID N : Int} {S : List UInt8}
  (hbin : ∀ w, RdP R TB DT c.b c n tl rem w → Calls Tryz.prog 83 #[.pointer (some ⟨R, 0, none⟩), .int .i64 op] w (GP R TB DT c n tl rem w k s' T KT SZ ID N S)) :
  Calls Tryz.prog 49 #[.pointer (some ⟨R, 0, none⟩), .agg (stepG op a1 a2 a3 a4 a5 sv)] w (GP R TB DT c n tl rem w k s' T KT SZ ID N S) := by
 have hbn := c.b_ne
 obtain ⟨c0, c1, c2, c3, c4, c5, c6, c7, c8⟩ := hR.cells
 have hTU : TB < w.heap.size := lt_of_cell hR.tube.c0
 have hRU : R < w.heap.size := lt_of_cell c0
 have n22 : ¬ op = 22 := by omega
 have ncond : (decide (op < 0) || decide (22 < op) || op == 6) = false := by simp; omega
 have ncond1 : decide (op < 0) = false := by simp; omega
 have ncond2 : decide (22 < op) = false := by simp; omega
 have ncond3 : (op == 6) = false := by simp; omega
 have hk0 : Keep (fun _ => False) w ((w.alloc (.cells (stepG op a1 a2 a3 a4 a5 sv) 119)).alloc (.cells zGot 75)) := ((Keep.refl _ w).alloc _).alloc _
 have hU0 := heap_alloc_new (w.alloc (.cells (stepG op a1 a2 a3 a4 a5 sv) 119)) (.cells zGot 75)
 go_enter Tryz.func49, Tryz.ntmps49
 go_wp2_with fail
 obtain ⟨U, hU⟩ : ∃ U, w.heap.size + 1 = U := ⟨_, rfl⟩
 have hUs : ((w.alloc (.cells (stepG op a1 a2 a3 a4 a5 sv) 119)).alloc (.cells zGot 75)).heap.size = U + 1 := by simp [← hU]
 rw [show (w.alloc (.cells (stepG op a1 a2 a3 a4 a5 sv) 119)).heap.size = U by simp [← hU]] at hU0
 generalize (w.alloc (.cells (stepG op a1 a2 a3 a4 a5 sv) 119)).alloc (.cells zGot 75) = wA at *
 rw [hU]
 refine (hbin wA (hR.fresh hk0)).mono ?_
 rintro e w1 ⟨x, t, kt, size, id, N', S', rfl, ⟨Sa, Sm, Sc, rfl⟩, hx, ⟨r', h1, hle, hr⟩, hk1, hv⟩
 have HU := hdd ((hk1.block U (lt_of_heap hU0) (by omega)).trans hU0)
 have HX := hdd hx
 have HR := hdd hr
 have HV := hdd hv
 have HLE := hdd hle
 clear hx hr hv hle
 obtain ⟨u0, u1, u2, u3, u4, u5, u6⟩ := got_cells HU.out
 obtain ⟨f0, f1, f2, f3, f4, f5, f6⟩ := got_free HU.out
 go_wp2_with fail
 have hk00 : Keep (TB = ·) w w1 := (hk0.weak (fun _ _ x => x.elim)).then hk1
 have hk2 : Keep (TB = ·) w (gotW w1 U x t kt size id N' (.slice Sa Sm Sc)) := got_keep hk00 (fun x => by omega) _ _ _ _ _ _ _
 have hkU : Keep (fun i => U = i) w1 (gotW w1 U x t kt size id N' (.slice Sa Sm Sc)) := got_keep (Keep.refl _ w1) (fun _ => rfl) _ _ _ _ _ _ _
 have h9 : RdP R TB DT c.b c n tl r' (gotW w1 U x t kt size id N' (.slice Sa Sm Sc)) := by
  refine ⟨(hkU.block R (lt_of_heap h1.blk) (by omega)).trans h1.blk, h1.tube.keep hkU (by omega) (fun hr' => ?_), h1.ne, h1.cok, h1.size⟩
  have := hR.dlt (fun e => hr' (List.eq_nil_of_length_eq_zero (by have := HLE.out; simp [e] at this; simpa using this)))
  omega
 refine ret_got (U := U) Tryz.results49 rfl rfl (got_set HU.out _ _ _ _ _ _ _) ⟨_, _, _, _, _, _, _, rfl, ⟨_, _, _, rfl⟩, HX.out, ⟨_, h9, HLE.out, HR.out⟩, hk2, fun hz => ?_⟩
 obtain ⟨v1, v2, v3, v4, v5, v6⟩ := HV.out hz
 exact ⟨v1, v2, v3, v4, v5, ((v6.weak (A' := fun i => U + 1 ≤ i) (fun i _ hi => by omega)).keep (got_keep (M := fun i => U = i) (Keep.refl _ w1) (fun _ => rfl) _ _ _ _ _ _ _) (fun i hi e => by omega)).weak (fun i _ hi => by omega)⟩
end
structure Sg where
 op : Int
 t : Int
 k : Int
 z : Int
 i : Int
 n : Int
 s : List UInt8
def Row7 (w : World) (D o : Nat) (v0 v1 v2 v3 v4 v5 v6 : Value) : Prop :=
 w.cell? ⟨D, o, none⟩ = some v0 ∧ w.cell? ⟨D, o + 1, none⟩ = some v1 ∧ w.cell? ⟨D, o + 2, none⟩ = some v2 ∧ w.cell? ⟨D, o + 3, none⟩ = some v3 ∧ w.cell? ⟨D, o + 4, none⟩ = some v4 ∧ w.cell? ⟨D, o + 5, none⟩ = some v5 ∧ w.cell? ⟨D, o + 6, none⟩ = some v6
theorem Row7.keep {M : Nat → Prop} {w w' : World} {D o : Nat} {v0 v1 v2 v3 v4 v5 v6 : Value} (h : Row7 w D o v0 v1 v2 v3 v4 v5 v6) (k : Keep M w w') (hM : ¬ M D) : Row7 w' D o v0 v1 v2 v3 v4 v5 v6 := by
 obtain ⟨h0, h1, h2, h3, h4, h5, h6⟩ := h
 exact ⟨(k.cell (p := ⟨D, o, none⟩) (lt_of_cell h0) hM).trans h0, (k.cell (p := ⟨D, o + 1, none⟩) (lt_of_cell h1) hM).trans h1, (k.cell (p := ⟨D, o + 2, none⟩) (lt_of_cell h2) hM).trans h2, (k.cell (p := ⟨D, o + 3, none⟩) (lt_of_cell h3) hM).trans h3, (k.cell (p := ⟨D, o + 4, none⟩) (lt_of_cell h4) hM).trans h4, (k.cell (p := ⟨D, o + 5, none⟩) (lt_of_cell h5) hM).trans h5, (k.cell (p := ⟨D, o + 6, none⟩) (lt_of_cell h6) hM).trans h6⟩
def StepsAt (A : Nat → Prop) (w : World) (v : Value) (l : List Sg) : Prop :=
 ∃ a c, v = .slice a l.length c ∧ l.length ≤ 140737488355328 ∧ (l.length ≠ 0 → l.length ≤ c ∧ c ≤ 9223372036854775807) ∧ ∀ j x, l[j]? = some x → ∃ D o sv, a = some ⟨D, o, none⟩ ∧ A D ∧ BytesAt A w sv x.s ∧ Row7 w D (o + j * 7) (.int .i64 x.op) (.int .i64 x.t) (.int .i64 x.k) (.int .i64 x.z) (.int .i64 x.i) (.int .i64 x.n) sv
theorem StepsAt.keep {A M : Nat → Prop} {w w' : World} {v : Value} {l : List Sg} (h : StepsAt A w v l) (k : Keep M w w') (hM : ∀ i, A i → ¬ M i) : StepsAt A w' v l := by
 obtain ⟨a, c, rfl, h1, h2, h3⟩ := h
 refine ⟨a, c, rfl, h1, h2, fun j x hj => ?_⟩
 obtain ⟨D, o, sv, e1, e2, e3, e4⟩ := h3 j x hj
 exact ⟨D, o, sv, e1, e2, e3.keep k hM, e4.keep k (hM D e2)⟩
theorem StepsAt.weak {A A' : Nat → Prop} {w : World} {v : Value} {l : List Sg} (h : StepsAt A w v l) (hA : ∀ i, i < w.heap.size → A i → A' i) : StepsAt A' w v l := by
 obtain ⟨a, c, rfl, h1, h2, h3⟩ := h
 refine ⟨a, c, rfl, h1, h2, fun j x hj => ?_⟩
 obtain ⟨D, o, sv, e1, e2, e3, e4⟩ := h3 j x hj
 exact ⟨D, o, sv, e1, hA D (lt_of_cell e4.1) e2, e3.weak hA, e4⟩
def BoolP (P : Bool → Prop) (w : World) (e : Ending) (w' : World) : Prop := ∃ b, e = .returned (.bool b) ∧ P b ∧ Keep (fun _ => False) w w'
end Go.Proofs.YtjekbomlpcdojaaGreatDoor
