/- Part 9 of the proof: Sp2. -/
import Derived.Test.YtjekbomlpcdojaaGreatDoorH7
import Derived.Deep.AppendSrc
set_option linter.unusedVariables false
set_option linter.unusedSimpArgs false
set_option linter.unusedSectionVars false
set_option maxHeartbeats 16000000
namespace Go.Proofs.YtjekbomlpcdojaaGreatDoor
open Go Go.RowKit
theorem tube_take_zero {TB : Nat} {w : World} :
  Calls Tryz.prog 152 #[.pointer (some ⟨TB, 0, none⟩), .int .i64 0] w fun e w' => e = .returned (.tuple #[nilB, .int .i64 0]) ∧ w = w' := by
 go_enter Tryz.func152, Tryz.ntmps152
 go_wp2_with fail
 refine wp_loop_rounds 1 ?_
 rw [rounds_succ]
 go_wp2_with fail
 go_ret2
 exact ⟨rfl, rfl⟩
theorem tube_take_end {TB DT : Nat} {w : World} (h : TubeP TB DT [] w) (n : Nat) (hn : 0 < n) (hnb : n ≤ 9223372036854775807) :
  Calls Tryz.prog 152 #[.pointer (some ⟨TB, 0, none⟩), .int .i64 n] w fun e w' => e = .returned (.tuple #[nilB, .int .i64 1]) ∧ w = w' := by
 go_enter Tryz.func152, Tryz.ntmps152
 go_wp2_with fail
 refine wp_loop_rounds 1 ?_
 rw [rounds_succ]
 go_wp2_with fail
 refine (tube_read_end h n hn).mono ?_
 rintro e w1 ⟨rfl, rfl⟩
 go_wp2_with fail
 go_ret2
 exact ⟨rfl, rfl⟩
theorem tube_take_all {TB DT : Nat} {rem : List UInt8} {w : World} (h : TubeP TB DT rem w) (n : Nat) (hn : 0 < n) (hl : n ≤ rem.length) :
  Calls Tryz.prog 152 #[.pointer (some ⟨TB, 0, none⟩), .int .i64 n] w fun e w' => ∃ v, e = .returned (.tuple #[v, .int .i64 0]) ∧ TubeP TB DT (rem.drop n) w' ∧ Keep (TB = ·) w w' ∧ BytesAt (w.heap.size ≤ ·) w' v (rem.take n) := by
 have hr : rem ≠ [] := by intro e; simp [e] at hl; omega
 have hlen := h.len
 go_enter Tryz.func152, Tryz.ntmps152
 go_wp2_with fail
 refine wp_loop_rounds 2 ?_
 rw [rounds_succ]
 go_wp2_with fail
 refine (tube_read h n hn hr (by omega)).mono ?_
 rintro e w1 ⟨v, rfl, hv, h1, hk1⟩
 rcases hv with ⟨hv0, _⟩ | ⟨hv0, D, o, c, rfl, e1, e2, e3, e4⟩
 ·exact absurd hv0 (take_ne hr hn)
 have hln : (rem.take n).length = n := by simp; omega
 rw [hln] at e1 e2 ⊢
 have HE := hdd e4
 have HL := hdd hln
 clear e4 hln hv0
 go_wp2_with (refine wpList_nilB rfl (.tmp 22) (.tmp 23) rfl rfl ⟨D, o, none⟩ n c (rem.take n) rfl HL.out hn (by omega) (fun j b hj => by rw [Addr.add_lit]; exact HE.out j b hj) ?_)
 intro v2 w2 hb2 hk2
 rcases hb2 with ⟨hv0, _⟩ | ⟨hv0, D2, o2, c2, rfl, f1, f2, f3, f4⟩
 ·exact absurd hv0 (take_ne hr hn)
 have hln := HL.out
 rw [hln] at f1 f2 ⊢
 have HF := hdd f4
 have HV := hdd hv0
 clear f4 hv0 hln
 go_wp2_with fail
 rw [rounds_succ]
 go_wp2_with fail
 go_ret2
 exact ⟨_, rfl, h1.fresh hk2, hk1.then (hk2.weak (fun _ _ x => x.elim)), .inr ⟨HV.out, D2, o2, c2, by rw [HL.out]; rfl, by rw [HL.out]; omega, by rw [HL.out]; omega, Nat.le_trans hk1.size f3, HF.out⟩⟩
theorem tube_take_some {TB DT : Nat} {rem : List UInt8} {w : World} (h : TubeP TB DT rem w) (n : Nat) (hr : rem ≠ []) (hl : rem.length < n) (hnb : n ≤ 9223372036854775807) :
  Calls Tryz.prog 152 #[.pointer (some ⟨TB, 0, none⟩), .int .i64 n] w fun e w' => ∃ v, e = .returned (.tuple #[v, .int .i64 2]) ∧ TubeP TB DT [] w' ∧ Keep (TB = ·) w w' := by
 have hlen := h.len
 have hn : 0 < n := by omega
 go_enter Tryz.func152, Tryz.ntmps152
 go_wp2_with fail
 refine wp_loop_rounds 2 ?_
 rw [rounds_succ]
 go_wp2_with fail
 refine (tube_read h n hn hr (by omega)).mono ?_
 rintro e w1 ⟨v, rfl, hv, h1, hk1⟩
 rw [List.drop_eq_nil_of_le (by omega)] at h1
 rw [List.take_of_length_le (by omega)] at hv
 rcases hv with ⟨hv0, _⟩ | ⟨hv0, D, o, c, rfl, e1, e2, e3, e4⟩
 ·exact absurd hv0 hr
 obtain ⟨m, hm⟩ : ∃ m, rem.length = m := ⟨_, rfl⟩
 have hm0 : 0 < m := by have := List.length_pos_iff.2 hr; omega
 rw [hm] at hl hlen e1 e2 ⊢
 have HE := hdd e4
 have HL := hdd hm
 clear e4 hm hv0
 go_wp2_with (refine wpList_nilB rfl (.tmp 22) (.tmp 23) rfl rfl ⟨D, o, none⟩ m c rem rfl HL.out hm0 (by omega) (fun j b hj => by rw [Addr.add_lit]; exact HE.out j b hj) ?_)
 intro v2 w2 hb2 hk2
 rcases hb2 with ⟨hv0, _⟩ | ⟨hv0, D2, o2, c2, rfl, f1, f2, f3, f4⟩
 ·exact absurd hv0 hr
 have hln := HL.out
 rw [hln] at f1 f2 ⊢
 clear f4 hv0 hln
 have h2 := h1.fresh hk2
 go_wp2_with fail
 rw [rounds_succ]
 go_wp2_with fail
 have hend := tube_read_end h2 (n - m) (by omega)
 rw [show ((n - m : Nat) : Int) = (n : Int) - m by omega] at hend
 refine hend.mono ?_
 rintro e w3 ⟨rfl, rfl⟩
 go_wp2_with fail
 go_ret2
 exact ⟨_, rfl, h2, hk1.then (hk2.weak (fun _ _ x => x.elim))⟩
theorem tube_take {TB DT : Nat} {rem : List UInt8} {w : World} (h : TubeP TB DT rem w) (n : Nat) (hnb : n ≤ 9223372036854775807) :
  Calls Tryz.prog 152 #[.pointer (some ⟨TB, 0, none⟩), .int .i64 n] w fun e w' => ∃ v, e = .returned (.tuple #[v, .int .i64 (endK n rem)]) ∧ TubeP TB DT (rem.drop n) w' ∧ Keep (TB = ·) w w' ∧ (n ≤ rem.length → BytesAt (w.heap.size ≤ ·) w' v (rem.take n)) := by
 by_cases hn : n = 0
 ·subst hn
  refine (tube_take_zero (TB := TB)).mono ?_
  rintro e w' ⟨rfl, rfl⟩
  exact ⟨nilB, by simp [endK], h, Keep.refl _ _, fun _ => .inl ⟨by simp, _, _, rfl⟩⟩
 ·by_cases hl : n ≤ rem.length
  ·refine (tube_take_all h n (by omega) hl).mono ?_
   rintro e w' ⟨v, rfl, h1, hk, hb⟩
   exact ⟨_, by simp [endK, hl], h1, hk, fun _ => hb⟩
  ·by_cases hr : rem = []
   ·subst hr
    refine (tube_take_end h n (by omega) hnb).mono ?_
    rintro e w' ⟨rfl, rfl⟩
    exact ⟨nilB, by simp [endK, hn], by simpa using h, Keep.refl _ _, fun hh => absurd hh hl⟩
   ·refine (tube_take_some h n hr (by omega) hnb).mono ?_
    rintro e w' ⟨v, rfl, h1, hk⟩
    refine ⟨v, ?_, by rw [List.drop_eq_nil_of_le (by omega)]; exact h1, hk, fun hh => absurd hh hl⟩
    rw [endK, if_neg hl, if_neg (by simpa using hr)]
theorem tube_one {TB DT : Nat} {rem : List UInt8} {w : World} (h : TubeP TB DT rem w) :
  Calls Tryz.prog 148 #[.pointer (some ⟨TB, 0, none⟩)] w fun e w' => ∃ b, e = .returned (.tuple #[.int .u8 b, .int .i64 (endK 1 rem)]) ∧ TubeP TB DT (rem.drop 1) w' ∧ Keep (TB = ·) w w' ∧ (∀ c r, rem = c :: r → b = c.toNat) := by
 obtain ⟨v0, mm, hb, _⟩ := h.blk
 have c0 := cellAt hb 0
 simp at c0
 by_cases hr : rem = []
 ·subst hr
  go_enter Tryz.func148, Tryz.ntmps148
  go_wp2_with fail
  refine (tube_read_end h 1 (by omega)).mono ?_
  rintro e w1 ⟨rfl, rfl⟩
  go_wp2_with fail
  go_ret2
  exact ⟨_, by simp [endK]; rfl, by simpa using h, Keep.refl _ _, fun c r hh => by cases hh⟩
 ·go_enter Tryz.func148, Tryz.ntmps148
  go_wp2_with fail
  refine (tube_read h 1 (by omega) hr (by omega)).mono ?_
  rintro e w1 ⟨v, rfl, hv, h1, hk1⟩
  rcases hv with ⟨hv0, _⟩ | ⟨hv0, D, o, c, rfl, e1, e2, e3, e4⟩
  ·exact absurd hv0 (take_ne hr (by omega))
  cases rem with
  | nil => exact absurd rfl hr
  | cons x r =>
   have hc := e4 0 x (by simp)
   simp at hc e1 e2
   have hl1 : ((x :: r).take 1).length = 1 := by simp
   rw [hl1]
   clear e4 hv0
   go_wp2_with fail
   go_ret2
   exact ⟨_, by simp [endK]; rfl, h1, hk1, fun c r hh => by cases hh; rfl⟩
theorem tube_rest {TB DT : Nat} {rem : List UInt8} {w : World} (h : TubeP TB DT rem w) :
  Calls Tryz.prog 166 #[.pointer (some ⟨TB, 0, none⟩)] w fun e w' => e = .returned (.tuple #[.int .i64 rem.length, .bool true]) ∧ w = w' := by
 obtain ⟨v, mm, hb, hv⟩ := h.blk
 have c0 := cellAt hb 0
 have c4 := cellAt hb 4
 simp at c0 c4
 obtain ⟨a, c, rfl⟩ : ∃ a c, v = .slice a rem.length c := by
  rcases hv with ⟨rfl, a, c, rfl⟩ | ⟨_, D, o, c, rfl, _⟩
  ·exact ⟨a, c, rfl⟩
  ·exact ⟨_, c, rfl⟩
 have hlen := h.len
 go_enter Tryz.func166, Tryz.ntmps166
 go_wp2_with fail
 go_ret2
 exact ⟨rfl, rfl⟩
end Go.Proofs.YtjekbomlpcdojaaGreatDoor
