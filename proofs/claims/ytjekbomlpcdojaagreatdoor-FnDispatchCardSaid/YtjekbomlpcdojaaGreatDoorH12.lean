/- Part 12 of the proof: Sp3. -/
import Derived.Test.YtjekbomlpcdojaaGreatDoorH9
import Derived.Test.YtjekbomlpcdojaaGreatDoorH11
import Derived.Deep.LoopGhost
set_option linter.unusedVariables false
set_option linter.unusedSimpArgs false
set_option linter.unusedSectionVars false
set_option maxHeartbeats 16000000
namespace Go.Proofs.YtjekbomlpcdojaaGreatDoor
open Go Go.RowKit
abbrev confV (pr : Int) (c : Cfg) : Value := .agg #[.int .i64 pr, .bool c.plain, .bool c.sr, .bool c.sw, .int .i32 c.msg, .int .i32 c.cont, .int .i32 c.frame]
structure RdP (R TB DT : Nat) (pr : Int) (c : Cfg) (n : Int) (tl : List Value) (rem : List UInt8) (w : World) : Prop where
 blk : w.heap[R]? = some (.cells (.int .i64 pr :: .bool c.plain :: .bool c.sr :: .bool c.sw :: .int .i32 c.msg :: .int .i32 c.cont :: .int .i32 c.frame :: .pointer (some ⟨TB, 0, none⟩) :: .int .i64 n :: tl).toArray 216 (0, 0))
 tube : TubeP TB DT rem w
 ne : R ≠ TB
 cok : c.ok
 size : rem.length ≤ n ∧ n ≤ 140737488355328
theorem RdP.step {R TB DT : Nat} {pr : Int} {c : Cfg} {n : Int} {tl : List Value} {rem rem' : List UInt8} {w w' : World} (h : RdP R TB DT pr c n tl rem w) (k : Keep (TB = ·) w w') (ht : TubeP TB DT rem' w') (hl : rem'.length ≤ rem.length) : RdP R TB DT pr c n tl rem' w' :=
 ⟨(k.block R (lt_of_heap h.blk) (fun e => h.ne e.symm)).trans h.blk, ht, h.ne, h.cok, by have := h.size; omega⟩
theorem RdP.fresh {R TB DT : Nat} {pr : Int} {c : Cfg} {n : Int} {tl : List Value} {rem : List UInt8} {w w' : World} (h : RdP R TB DT pr c n tl rem w) (k : Keep (fun _ => False) w w') : RdP R TB DT pr c n tl rem w' :=
 h.step (k.weak (fun _ _ x => x.elim)) (h.tube.fresh k) (Nat.le_refl _)
theorem limits (pr : Int) (c : Cfg) (w : World) : Calls Tryz.prog 108 #[confV pr c] w fun e w' => ∃ fr sr sw, e = .returned (.tuple #[.int .i32 c.maxMsg, .int .i32 fr, .int .i32 c.maxCont, .bool sr, .bool sw]) ∧ Keep (fun _ => False) w w' := by
 by_cases hp : c.plain = true
 ·have h1 : c.maxMsg = 104857600 := by simp [Cfg.maxMsg, hp]
  have h2 : c.maxCont = 2147483647 := by simp [Cfg.maxCont, hp]
  rw [h1, h2]
  clear h1 h2
  go_enter Tryz.func108, Tryz.ntmps108
  go_wp2_with fail
  go_returns
  exact ⟨_, _, _, rfl, (Keep.refl _ w).alloc _⟩
 ·have hp0 : c.plain = false := by simpa using hp
  obtain ⟨m, hm⟩ : ∃ m, c.maxMsg = m := ⟨_, rfl⟩
  obtain ⟨t, ht⟩ : ∃ t, c.maxCont = t := ⟨_, rfl⟩
  rw [hm, ht]
  by_cases hm0 : 0 < c.msg
  ·have e1 : m = c.msg := by rw [← hm]; simp [Cfg.maxMsg, hp0]; omega
   rw [e1]
   by_cases ht0 : 0 < c.cont
   ·have e2 : t = c.cont := by rw [← ht]; simp [Cfg.maxCont, hp0]; omega
    rw [e2]
    clear hm ht e1 e2 hp
    go_enter Tryz.func108, Tryz.ntmps108
    go_wp2_with fail
    all_goals (go_quiet (fail))
    all_goals (go_wp2_with fail)
    all_goals go_returns
    all_goals exact ⟨_, _, _, rfl, ((Keep.refl _ w).alloc _).drewN _⟩
   ·have e2 : t = 2147483647 := by rw [← ht]; simp [Cfg.maxCont, hp0]; omega
    rw [e2]
    clear hm ht e1 e2 hp
    go_enter Tryz.func108, Tryz.ntmps108
    go_wp2_with fail
    all_goals (go_quiet (fail))
    all_goals (go_wp2_with fail)
    all_goals go_returns
    all_goals exact ⟨_, _, _, rfl, ((Keep.refl _ w).alloc _).drewN _⟩
  ·have e1 : m = 104857600 := by rw [← hm]; simp [Cfg.maxMsg, hp0]; omega
   rw [e1]
   by_cases ht0 : 0 < c.cont
   ·have e2 : t = c.cont := by rw [← ht]; simp [Cfg.maxCont, hp0]; omega
    rw [e2]
    clear hm ht e1 e2 hp
    go_enter Tryz.func108, Tryz.ntmps108
    go_wp2_with fail
    all_goals (go_quiet (fail))
    all_goals (go_wp2_with fail)
    all_goals go_returns
    all_goals exact ⟨_, _, _, rfl, ((Keep.refl _ w).alloc _).drewN _⟩
   ·have e2 : t = 2147483647 := by rw [← ht]; simp [Cfg.maxCont, hp0]; omega
    rw [e2]
    clear hm ht e1 e2 hp
    go_enter Tryz.func108, Tryz.ntmps108
    go_wp2_with fail
    all_goals (go_quiet (fail))
    all_goals (go_wp2_with fail)
    all_goals go_returns
    all_goals exact ⟨_, _, _, rfl, ((Keep.refl _ w).alloc _).drewN _⟩
theorem or_step (m : Int) (x : Nat) (hx : x < 256) : bits BinOp.or IntKind.i64 (wrap64 (wrap64 m * 256)) (wrap64 x) = wrap64 (m * 256 + x) := by
 have e1 : BitVec.ofInt 64 (wrap64 (wrap64 m * 256)) = BitVec.ofNat 64 ((m % 72057594037927936).toNat * 256) := by
  apply BitVec.eq_of_toNat_eq
  simp only [BitVec.toNat_ofInt, BitVec.toNat_ofNat, wrap64]
  omega
 have e2 : BitVec.ofInt 64 (wrap64 x) = BitVec.ofNat 64 x := by
  apply BitVec.eq_of_toNat_eq
  simp only [BitVec.toNat_ofInt, BitVec.toNat_ofNat, wrap64]
  omega
 have h3 : ((m % 72057594037927936).toNat * 256) ||| x = (m % 72057594037927936).toNat * 256 + x := by
  have := Nat.shiftLeft_add_eq_or_of_lt (i := 8) (b := x) (by omega) (m % 72057594037927936).toNat
  rw [Nat.shiftLeft_eq] at this
  rw [show (2 : Nat) ^ 8 = 256 by decide] at this
  exact this.symm
 show IntKind.i64.wrap ((BitVec.ofInt 64 (wrap64 (wrap64 m * 256)) ||| BitVec.ofInt 64 (wrap64 x)).toNat : Int) = _
 rw [e1, e2, ← BitVec.ofNat_or, h3, BitVec.toNat_ofNat]
 simp [IntKind.wrap, IntKind.bits, IntKind.signed, wrap64]
 split <;> omega
theorem beFrom_snoc : ∀ (l : List UInt8) (acc : Nat) (b : UInt8), Lib.beFrom acc (l ++ [b]) = Lib.beFrom acc l * 256 + b.toNat := by
 intro l
 induction l with
 | nil => intro acc b; rfl
 | cons x r ih => intro acc b; exact ih _ b
theorem beNat_take (l : List UInt8) (i : Nat) (b : UInt8) (h : l[i]? = some b) : Lib.beNat (l.take (i + 1)) = Lib.beNat (l.take i) * 256 + b.toNat := by
 rw [List.take_add_one, h]
 exact beFrom_snoc _ _ _
def numZ (l : List UInt8) : Int := wrap64 (wrap64 (Lib.beNat l) * 2 ^ (64 - 8 * l.length)) / 2 ^ (64 - 8 * l.length)
theorem number {A : Nat → Prop} (v : Value) (l : List UInt8) (w : World) (h : BytesAt A w v l) (hl : l.length ≤ 8) (h0 : l ≠ []) : Calls Tryz.prog 149 #[v] w fun e w' => e = .returned (.int .i64 (numZ l)) ∧ w = w' := by
 rcases h with ⟨hv0, _⟩ | ⟨hv0, D, o, c, rfl, e1, e2, e3, e4⟩
 ·exact absurd hv0 h0
 unfold numZ
 obtain ⟨n, hn⟩ : ∃ n, l.length = n := ⟨_, rfl⟩
 have hn0 : 0 < n := by have := List.length_pos_iff.2 h0; omega
 rw [hn] at e1 e2 hl ⊢
 have HN := hdd hn
 have HE := hdd e4
 clear e4 hv0 h0
 go_enter Tryz.func149, Tryz.ntmps149
 go_wp2_with fail
 go_loopg [3, 4] n (fun k v3 v4 wr => ∃ i : Nat, v4 = .int .i64 i ∧ k + i = n ∧ v3 = .int .i64 (wrap64 (Lib.beNat (l.take i))) ∧ wr = w)
 case atStart => exact ⟨0, rfl, rfl, by simp [Lib.beNat, Lib.beFrom, wrap64], rfl⟩
 case round =>
  obtain ⟨i, rfl, hk, rfl, rfl⟩ := hrel
  by_cases hi : i < n
  ·obtain ⟨b, hb⟩ : ∃ b, l[i]? = some b := ⟨_, List.getElem?_eq_getElem (by have := HN.out; omega)⟩
   have hc := HE.out i b hb
   have HB := hdd hb
   clear hb
   go_wp2_with fail
   go_roundg (gk - 1)
   case measure => omega
   case rel =>
    refine ⟨i + 1, by simp, by omega, ?_, rfl⟩
    rw [or_step _ _ (b.toNat_lt), beNat_take _ _ _ HB.out]
    simp
  ·have hin : i = n := by omega
   subst hin
   have ht : l.take i = l := List.take_of_length_le (by have := HN.out; omega)
   rw [ht]
   clear ht
   go_wp2_with fail
   go_ret
   exact ⟨rfl, rfl⟩
theorem beNat_lt (l : List UInt8) : Lib.beNat l < 256 ^ l.length := by
 have := beFrom_lt l 0
 simpa [Lib.beNat] using this
theorem numZ_two (l : List UInt8) (h : l.length = 2) : numZ l = IntKind.i16.wrap (Lib.beNat l) := by
 have := beNat_lt l
 rw [h] at this
 unfold numZ
 rw [h]
 simp [IntKind.wrap, IntKind.bits, IntKind.signed, wrap64]
 split <;> omega
theorem numZ_four (l : List UInt8) (h : l.length = 4) : numZ l = wrap32 (Lib.beNat l) := by
 have := beNat_lt l
 rw [h] at this
 unfold numZ
 rw [h]
 simp [wrap64, wrap32]
 omega
theorem numZ_eight (l : List UInt8) (h : l.length = 8) : numZ l = wrap64 (Lib.beNat l) := by
 unfold numZ
 rw [h]
 simp [wrap64]
theorem wrapped_at (k : Int) (w : World) (hk : k = 1 ∨ k = 2) : Calls Tryz.prog 50 #[.int .i64 k] w fun e w' => e = .returned (.int .i64 10) ∧ w = w' := by
 rcases hk with rfl | rfl
 all_goals
  go_enter Tryz.func50, Tryz.ntmps50
  go_wp2_with fail
  go_ret
  exact ⟨rfl, rfl⟩
section
variable {R TB DT : Nat} {pr : Int} {c : Cfg} {n : Int} {tl : List Value} {rem : List UInt8} {w : World}
theorem RdP.c7 (h : RdP R TB DT pr c n tl rem w) : w.cell? ⟨R, 7, none⟩ = some (.pointer (some ⟨TB, 0, none⟩)) := by simp [cellAt h.blk 7]
theorem rd_raw (h : RdP R TB DT pr c n tl rem w) (m : Nat) (hm : m ≤ 9223372036854775807) :
  Calls Tryz.prog 124 #[.pointer (some ⟨R, 0, none⟩), .int .i64 m] w fun e w' => ∃ v, e = .returned (.tuple #[v, .int .i64 (endK m rem)]) ∧ RdP R TB DT pr c n tl (rem.drop m) w' ∧ Keep (TB = ·) w w' ∧ (m ≤ rem.length → BytesAt (w.heap.size ≤ ·) w' v (rem.take m)) := by
 have c7 := h.c7
 go_enter Tryz.func124, Tryz.ntmps124
 go_wp2_with fail
 refine (tube_take h.tube m hm).mono ?_
 rintro e w1 ⟨v, rfl, h1, hk, hb⟩
 go_wp2_with fail
 go_ret2
 exact ⟨_, rfl, h.step hk h1 (by simp), hk, hb⟩
theorem rd_one (h : RdP R TB DT pr c n tl rem w) :
  Calls Tryz.prog 120 #[.pointer (some ⟨R, 0, none⟩)] w fun e w' => ∃ b, e = .returned (.tuple #[.int .u8 b, .int .i64 (endK 1 rem)]) ∧ RdP R TB DT pr c n tl (rem.drop 1) w' ∧ Keep (TB = ·) w w' ∧ (∀ x r, rem = x :: r → b = x.toNat) := by
 have c7 := h.c7
 go_enter Tryz.func120, Tryz.ntmps120
 go_wp2_with fail
 refine (tube_one h.tube).mono ?_
 rintro e w1 ⟨b, rfl, h1, hk, hb⟩
 go_wp2_with fail
 go_ret2
 exact ⟨_, rfl, h.step hk h1 (by simp), hk, hb⟩
theorem rd_rest (h : RdP R TB DT pr c n tl rem w) :
  Calls Tryz.prog 150 #[.pointer (some ⟨R, 0, none⟩)] w fun e w' => e = .returned (.int .i64 rem.length) ∧ w = w' := by
 have c7 := h.c7
 go_enter Tryz.func150, Tryz.ntmps150
 go_wp2_with fail
 refine (tube_rest h.tube).mono ?_
 rintro e w1 ⟨rfl, rfl⟩
 go_wp2_with fail
 go_ret
 exact ⟨rfl, rfl⟩
theorem rd_whole (h : RdP R TB DT pr c n tl rem w) (m : Nat) (hm : m = 2 ∨ m = 4 ∨ m = 8) :
  Calls Tryz.prog 122 #[.pointer (some ⟨R, 0, none⟩), .int .i64 m] w fun e w' => ∃ z, e = .returned (.tuple #[.int .i64 z, .int .i64 (fullK m rem)]) ∧ RdP R TB DT pr c n tl (rem.drop m) w' ∧ Keep (TB = ·) w w' ∧ (m ≤ rem.length → z = numZ (rem.take m)) := by
 have hm8 : 0 < m ∧ m ≤ 8 := by omega
 by_cases hl : m ≤ rem.length
 ·have e0 : endK m rem = 0 := by simp [endK, hl]
  have e1 : fullK m rem = 0 := by simp [fullK, hl]
  rw [e1]
  go_enter Tryz.func122, Tryz.ntmps122
  go_wp2_with fail
  refine (rd_raw h m (by omega)).mono ?_
  rintro e w1 ⟨v, rfl, h1, hk, hb⟩
  rw [e0]
  have hb1 := hb hl
  clear e0 e1 hb
  go_wp2_with fail
  refine (number v (rem.take m) w1 hb1 (by simp; omega) (take_ne (by intro e; simp [e] at hl; omega) hm8.1)).mono ?_
  rintro e w2 ⟨rfl, rfl⟩
  go_wp2_with fail
  go_ret2
  exact ⟨_, rfl, h1, hk, fun _ => rfl⟩
 ·have e0 : endK m rem = 1 ∨ endK m rem = 2 := by
   unfold endK; rw [if_neg hl]; split <;> simp
  have e1 : fullK m rem = 10 := by simp [fullK, hl]
  rw [e1]
  obtain ⟨k, hk0⟩ : ∃ k, endK m rem = k := ⟨_, rfl⟩
  rw [hk0] at e0
  have hkn : ¬ k = 0 := by omega
  have H0 := hdd e0
  have HK := hdd hk0
  clear e0 e1 hk0
  go_enter Tryz.func122, Tryz.ntmps122
  go_wp2_with fail
  refine (rd_raw h m (by omega)).mono ?_
  rintro e w1 ⟨v, rfl, h1, hk, _⟩
  rw [HK.out]
  go_wp2_with fail
  refine (wrapped_at k w1 H0.out).mono ?_
  rintro e w2 ⟨rfl, rfl⟩
  go_wp2_with fail
  go_ret2
  exact ⟨_, rfl, h1, hk, fun hh => absurd hh hl⟩
end
end Go.Proofs.YtjekbomlpcdojaaGreatDoor
