/- Part 31 of the proof: SpC1, SpC2, SpC3, SpC4, SpC5, SpC6. -/
import Derived.Test.YtjekbomlpcdojaaGreatDoorH15
import Derived.Test.YtjekbomlpcdojaaGreatDoorH25
import Derived.Test.YtjekbomlpcdojaaGreatDoorH14
import Derived.Deep.LoopGhost
set_option linter.unusedVariables false
set_option linter.unusedSimpArgs false
set_option linter.unusedSectionVars false
set_option maxHeartbeats 16000000
namespace Go.Proofs.YtjekbomlpcdojaaGreatDoor
open Go Go.RowKit
section
variable {R TB DT : Nat} {pr : Int} {c : Cfg} {n : Int} {tl : List Value} {rem : List UInt8} {w : World}
def RByte (R TB DT : Nat) (pr : Int) (c : Cfg) (n : Int) (tl : List Value) (rem : List UInt8) (w : World) (e : Ending) (w' : World) : Prop :=
 ∃ b x, e = .returned (.tuple #[.int .u8 b, .int .i64 x]) ∧ ((x = -1 ∧ rem = []) ∨ (x = 0 ∧ rem ≠ [])) ∧ RdP R TB DT pr c n tl (rem.drop 1) w' ∧ Keep (TB = ·) w w' ∧ (∀ y r, rem = y :: r → b = y.toNat)
theorem rd_byte (h : RdP R TB DT pr c n tl rem w) :
  Calls Tryz.prog 137 #[.pointer (some ⟨R, 0, none⟩)] w (RByte R TB DT pr c n tl rem w) := by
 cases rem with
 | nil =>
  go_enter Tryz.func137, Tryz.ntmps137
  go_wp2_with fail
  refine (rd_one h).mono ?_
  rintro e w1 ⟨b, rfl, h1, hk, hb⟩
  rw [show endK 1 [] = 1 by decide]
  go_wp2_with fail
  go_ret2
  exact ⟨_, _, rfl, .inl ⟨rfl, rfl⟩, h1, hk, hb⟩
 | cons y r =>
  go_enter Tryz.func137, Tryz.ntmps137
  go_wp2_with fail
  refine (rd_one h).mono ?_
  rintro e w1 ⟨b, rfl, h1, hk, hb⟩
  rw [show endK 1 (y :: r) = 0 by simp [endK]]
  go_wp2_with fail
  go_ret2
  exact ⟨_, _, rfl, .inr ⟨rfl, by simp⟩, h1, hk, hb⟩
theorem rd_some (h : RdP R TB DT pr c n tl rem w) (m : Nat) (hm : m ≤ 9223372036854775807) :
  Calls Tryz.prog 146 #[.pointer (some ⟨R, 0, none⟩), .int .i64 m] w fun e w' => ∃ v x, e = .returned (.tuple #[v, .int .i64 x]) ∧ ((x = -1 ∧ ¬ m ≤ rem.length) ∨ (x = 0 ∧ m ≤ rem.length)) ∧ RdP R TB DT pr c n tl (rem.drop m) w' ∧ Keep (TB = ·) w w' ∧ (x = 0 → BytesAt (w.heap.size ≤ ·) w' v (rem.take m)) := by
 by_cases hl : m ≤ rem.length
 ·have e0 : endK m rem = 0 := by simp [endK, hl]
  have E0 := hdd e0
  have HL := hdd hl
  clear e0 hl
  go_enter Tryz.func146, Tryz.ntmps146
  go_wp2_with fail
  refine (rd_raw h m hm).mono ?_
  rintro e w1 ⟨v, rfl, h1, hk, hb⟩
  rw [E0.out]
  have hb1 := hb HL.out
  obtain ⟨va, vm, vc, rfl⟩ := hb1.shape
  clear hb
  go_wp2_with fail
  go_ret2
  exact ⟨_, _, rfl, .inr ⟨rfl, HL.out⟩, h1, hk, fun _ => hb1⟩
 ·have e0 : endK m rem = 1 ∨ endK m rem = 2 := by unfold endK; rw [if_neg hl]; split <;> simp
  obtain ⟨k, hk0⟩ : ∃ k, endK m rem = k := ⟨_, rfl⟩
  rw [hk0] at e0
  have hkn : (k != 0) = true := by simpa using (show ¬ k = 0 by omega)
  have hkn2 : (k != -2) = true := by simpa using (show ¬ k = -2 by omega)
  have HK := hdd hk0
  have HL := hdd hl
  clear e0 hk0 hl
  go_enter Tryz.func146, Tryz.ntmps146
  go_wp2_with fail
  refine (rd_raw h m hm).mono ?_
  rintro e w1 ⟨v, rfl, h1, hk, _⟩
  rw [HK.out]
  go_wp2_with fail
  go_ret2
  exact ⟨_, _, rfl, .inl ⟨rfl, HL.out⟩, h1, hk, fun hh => by cases hh⟩
def RVRel (R TB DT : Nat) (pr : Int) (c : Cfg) (n : Int) (tl : List Value) (rem : List UInt8) (w : World) (B k : Nat) (nv sh : Value) (wr : World) : Prop :=
 ∃ (i acc : Nat) (l : List UInt8), i + k = 11 ∧ sh = .int .i64 ((7 * i : Nat) : Int) ∧ nv = .int .u64 (acc : Nat) ∧ acc < 2 ^ (7 * i) ∧ acc < 2 ^ B ∧ (i = 0 ∨ 7 * i < B + 7) ∧ RdP R TB DT pr c n tl l wr ∧ l.length ≤ rem.length ∧ Keep (TB = ·) w wr ∧
  (vGo (10 - i) l).1 = vK rem ∧ acc + (vGo (10 - i) l).2.1 * 2 ^ (7 * i) = vN rem ∧ (vGo (10 - i) l).2.2 = vR rem
def RVar (R TB DT : Nat) (pr : Int) (c : Cfg) (n : Int) (tl : List Value) (rem : List UInt8) (w : World) (B : Nat) (e : Ending) (w' : World) : Prop :=
 ∃ (N : Nat) (x : Int) (r' : List UInt8), e = .returned (.tuple #[.int .u64 N, .int .i64 x]) ∧ RdP R TB DT pr c n tl r' w' ∧ r'.length ≤ rem.length ∧ Keep (TB = ·) w w' ∧
   ((x = -2 ∧ N = 0) ∨ (x = -1 ∧ N = 0 ∧ vK rem ≠ 0) ∨ (x = 0 ∧ vK rem = 0 ∧ N = vN rem ∧ r' = vR rem)) ∧ N < 2 ^ B
set_option maxRecDepth 100000 in
theorem rd_varint (h : RdP R TB DT pr c n tl rem w) (B : Nat) (hB : B = 32 ∨ B = 64) :
  Calls Tryz.prog 138 #[.pointer (some ⟨R, 0, none⟩), .int .i64 (B : Nat)] w (RVar R TB DT pr c n tl rem w B) := by
 go_enter Tryz.func138, Tryz.ntmps138
 go_wp2_with fail
 have HH := hdd h
 have HB := hdd hB
 go_loopg [6, 7] 11 (fun k nv sh wr => RVRel R TB DT pr c n tl rem w B k nv sh wr)
 case atStart => exact ⟨0, 0, rem, rfl, rfl, rfl, by simp, Nat.two_pow_pos B, .inl rfl, HH.out, Nat.le_refl _, Keep.refl _ _, rfl, by simp [vN], rfl⟩
 case round =>
  obtain ⟨i, acc, l, hik, rfl, rfl, hacc, haB, hiB, hP, hlen, hK, h1, h2, h3⟩ := hrel
  have hi10 : i ≤ 10 := by rcases hB with rfl | rfl <;> omega
  cases gk with
  | zero => omega
  | succ k =>
  have H1 := hdd h1
  have H2 := hdd h2
  have H3 := hdd h3
  have HK := hdd hK
  have HA := hdd hacc
  have HAB := hdd haB
  have HP := hdd hP
  have HLEN := hdd hlen
  clear h1 h2 h3 hK hacc haB hP hlen
  go_wp2_with fail
  refine (rd_byte HP.out).mono ?_
  rintro e w1 ⟨n0, x, rfl, hx, hp1, hk1, hv⟩
  cases l with
  | nil =>
   have hx1 : x = -1 := by rcases hx with ⟨hx, _⟩ | ⟨_, hx⟩; exact hx; exact absurd rfl hx
   subst hx1
   have e1 : vK rem ≠ 0 := by
    rw [← H1.out]
    cases hj : 10 - i with
    | zero => simp [vGo]
    | succ j => simp [vGo]
   have E1 := hdd e1
   clear hx e1 hv
   go_wp2_with fail
   go_ret2
   exact ⟨0, _, _, rfl, hp1, by simp, HK.out.then hk1, .inr (.inl ⟨rfl, rfl, E1.out⟩), Nat.two_pow_pos B⟩
  | cons b r =>
   have hx1 : x = 0 := by rcases hx with ⟨_, hx⟩ | ⟨hx, _⟩; cases hx; exact hx
   subst hx1
   have hnb := hv b r rfl
   subst hnb
   have hm := u8_and127' b
   have hb8 := b.toNat_lt
   clear hx hv
   have hp2 : RdP R TB DT pr c n tl r w1 := hp1
   have HP2 := hdd hp2
   have hlr : r.length ≤ rem.length := by have := HLEN.out; simp at this; omega
   have HLR := hdd hlr
   clear hp1 hp2 hlr
   obtain ⟨low, hlow⟩ : ∃ low, b.toNat % 128 = low := ⟨_, rfl⟩
   have hl128 : low < 128 := by omega
   have hcast : ((b.toNat : Int) % 128) = ((low : Nat) : Int) := by omega
   rw [hlow] at hm
   have HLOW := hdd hlow
   clear hlow
   have HB64 : Hid (2 ^ B ≤ 18446744073709551616) := hdd (by rcases HB.out with e | e <;> rw [e] <;> decide)
   by_cases hge : B ≤ 7 * i
   ·have hgeb : decide ((B : Int) ≤ 7 * (i : Int)) = true := by simpa using (show (B : Int) ≤ 7 * (i : Int) by omega)
    go_wp2_with fail
    go_ret2
    exact ⟨0, _, _, rfl, HP2.out, HLR.out, HK.out.then hk1, .inl ⟨rfl, rfl⟩, Nat.two_pow_pos B⟩
   ·have hgeb : decide ((B : Int) ≤ 7 * (i : Int)) = false := by simpa using (show ¬ (B : Int) ≤ 7 * (i : Int) by omega)
    by_cases hns : B < 7 * i + 7
    ·have hns' : (B : Int) - 7 * (i : Int) < 7 := by omega
     by_cases hq : low / 2 ^ (B - 7 * i) = 0
     ·have hqb : (((low : Nat) : Int) / 2 ^ (B - 7 * i) != 0) = false := by
       have : ((low : Nat) : Int) / 2 ^ (B - 7 * i) = ((low / 2 ^ (B - 7 * i) : Nat) : Int) := by simp
       rw [this, hq]; rfl
      have hlw : low < 2 ^ (B - 7 * i) := by
       rcases (Nat.div_eq_zero_iff).1 hq with h0 | h0
       ·have := Nat.two_pow_pos (B - 7 * i); omega
       ·exact h0
      have hB2 : (2 : Nat) ^ B = 2 ^ (B - 7 * i) * 2 ^ (7 * i) := by rw [← Nat.pow_add]; congr 1; omega
      have HSUM : Hid (acc + low * 2 ^ (7 * i) < 2 ^ B) := hdd (by
       have hA := HA.out
       have : (low + 1) * 2 ^ (7 * i) ≤ 2 ^ (B - 7 * i) * 2 ^ (7 * i) := Nat.mul_le_mul_right _ hlw
       rw [← hB2, Nat.add_mul] at this
       omega)
      clear hlw hB2 hq
      have hlo : low * 2 ^ (7 * i) < 18446744073709551616 := Nat.lt_of_lt_of_le (Nat.lt_of_le_of_lt (Nat.le_add_left _ acc) HSUM.out) HB64.out
      have hor : bits .or .u64 ((acc : Nat) : Int) (IntKind.u64.wrap ((low : Int) * 2 ^ (7 * i))) = ((acc + low * 2 ^ (7 * i) : Nat) : Int) := or_u64 (7 * i) acc low HA.out hlo (Nat.lt_of_lt_of_le HSUM.out HB64.out)
      have HOR := hdd hor
      clear hlo hor
      have hi9 : i < 10 := by rcases HB.out with e | e <;> omega
      obtain ⟨j, hj⟩ : ∃ j, 10 - i = j + 1 := ⟨9 - i, by omega⟩
      have HJ := hdd hj
      clear hj
      by_cases hlast : b.toNat < 128
      ·have HQ2 := hdd (show low = b.toNat by rw [← HLOW.out]; omega)
       have g1 := H1.out
       have g2 := H2.out
       have g3 := H3.out
       rw [HJ.out, vGo_last j b r hlast] at g1 g2 g3
       have G1 := hdd g1
       have G2 := hdd g2
       have G3 := hdd g3
       clear g1 g2 g3
       go_wp2_with fail
       go_ret2
       rw [HOR.out]
       exact ⟨_, _, _, rfl, HP2.out, HLR.out, HK.out.then hk1, .inr (.inr ⟨rfl, G1.out.symm, by rw [← G2.out, HQ2.out], G3.out⟩), HSUM.out⟩
      ·have HM := hdd (vGo_more j b r hlast)
       have hlastb : decide ((b.toNat : Int) < 128) = false := by simpa using (show ¬ (b.toNat : Int) < 128 by omega)
       go_wp2_with fail
       go_roundg k
       case measure => exact Nat.lt_succ_self _
       case rel =>
        have e9 : (2 : Nat) ^ (7 * (i + 1)) = 128 * 2 ^ (7 * i) := by rw [show 7 * (i + 1) = 7 + 7 * i by omega, Nat.pow_add]
        have hM := HM.out
        have hA := HA.out
        have hj := HJ.out
        refine ⟨i + 1, acc + low * 2 ^ (7 * i), r, by omega, by first | rfl | (congr 1; omega), by rw [HOR.out], ?_, HSUM.out, by omega, HP2.out, HLR.out, HK.out.then hk1, ?_, ?_, ?_⟩
        ·rw [e9]
         have : low * 2 ^ (7 * i) ≤ 127 * 2 ^ (7 * i) := Nat.mul_le_mul_right _ (by omega)
         omega
        ·rw [← H1.out, hj, show 10 - (i + 1) = j by omega]; exact hM.1.symm
        ·rw [← H2.out, hj, show 10 - (i + 1) = j by omega, hM.2.1, e9, Nat.add_mul, Nat.add_assoc, HLOW.out]
         congr 2
         rw [← Nat.mul_assoc, Nat.mul_comm 128]
        ·rw [← H3.out, hj, show 10 - (i + 1) = j by omega]; exact hM.2.2.symm
     ·have hqb : (((low : Nat) : Int) / 2 ^ (B - 7 * i) != 0) = true := by
       have : ((low : Nat) : Int) / 2 ^ (B - 7 * i) = ((low / 2 ^ (B - 7 * i) : Nat) : Int) := by simp
       rw [this]; exact bne_iff_ne.2 (fun e => hq (by omega))
      go_wp2_with fail
      go_ret2
      exact ⟨0, _, _, rfl, HP2.out, HLR.out, HK.out.then hk1, .inl ⟨rfl, rfl⟩, Nat.two_pow_pos B⟩
    ·have hns' : ¬ (B : Int) - 7 * (i : Int) < 7 := by omega
     have HSUM : Hid (acc + low * 2 ^ (7 * i) < 2 ^ B) := hdd (by
      have hA := HA.out
      have h7 : (2 : Nat) ^ (7 * i + 7) ≤ 2 ^ B := Nat.pow_le_pow_right (by decide) (by omega)
      rw [Nat.pow_add] at h7
      have : low * 2 ^ (7 * i) ≤ 127 * 2 ^ (7 * i) := Nat.mul_le_mul_right _ (by omega)
      omega)
     have hlo : low * 2 ^ (7 * i) < 18446744073709551616 := Nat.lt_of_lt_of_le (Nat.lt_of_le_of_lt (Nat.le_add_left _ acc) HSUM.out) HB64.out
     have hor : bits .or .u64 ((acc : Nat) : Int) (IntKind.u64.wrap ((low : Int) * 2 ^ (7 * i))) = ((acc + low * 2 ^ (7 * i) : Nat) : Int) := or_u64 (7 * i) acc low HA.out hlo (Nat.lt_of_lt_of_le HSUM.out HB64.out)
     have HOR := hdd hor
     clear hlo hor
     have hi9 : i < 10 := by rcases HB.out with e | e <;> omega
     obtain ⟨j, hj⟩ : ∃ j, 10 - i = j + 1 := ⟨9 - i, by omega⟩
     have HJ := hdd hj
     clear hj
     by_cases hlast : b.toNat < 128
     ·have HQ2 := hdd (show low = b.toNat by rw [← HLOW.out]; omega)
      have g1 := H1.out
      have g2 := H2.out
      have g3 := H3.out
      rw [HJ.out, vGo_last j b r hlast] at g1 g2 g3
      have G1 := hdd g1
      have G2 := hdd g2
      have G3 := hdd g3
      clear g1 g2 g3
      go_wp2_with fail
      go_ret2
      unfold RVar
      rw [HOR.out]
      exact ⟨_, _, _, rfl, HP2.out, HLR.out, HK.out.then hk1, .inr (.inr ⟨rfl, G1.out.symm, by rw [← G2.out, HQ2.out], G3.out⟩), HSUM.out⟩
     ·have HM := hdd (vGo_more j b r hlast)
      have hlastb : decide ((b.toNat : Int) < 128) = false := by simpa using (show ¬ (b.toNat : Int) < 128 by omega)
      go_wp2_with fail
      go_roundg k
      case measure => exact Nat.lt_succ_self _
      case rel =>
       have e9 : (2 : Nat) ^ (7 * (i + 1)) = 128 * 2 ^ (7 * i) := by rw [show 7 * (i + 1) = 7 + 7 * i by omega, Nat.pow_add]
       have hM := HM.out
       have hA := HA.out
       have hj := HJ.out
       refine ⟨i + 1, acc + low * 2 ^ (7 * i), r, by omega, by first | rfl | (congr 1; omega), by rw [HOR.out], ?_, HSUM.out, by omega, HP2.out, HLR.out, HK.out.then hk1, ?_, ?_, ?_⟩
       ·rw [e9]
        have : low * 2 ^ (7 * i) ≤ 127 * 2 ^ (7 * i) := Nat.mul_le_mul_right _ (by omega)
        omega
       ·rw [← H1.out, hj, show 10 - (i + 1) = j by omega]; exact hM.1.symm
       ·rw [← H2.out, hj, show 10 - (i + 1) = j by omega, hM.2.1, e9, Nat.add_mul, Nat.add_assoc, HLOW.out]
        congr 2
        rw [← Nat.mul_assoc, Nat.mul_comm 128]
       ·rw [← H3.out, hj, show 10 - (i + 1) = j by omega]; exact hM.2.2.symm
end
section
variable {R TB DT : Nat} {pr : Int} {c : Cfg} {n : Int} {tl : List Value} {rem : List UInt8} {w : World}
def RSize (R TB DT : Nat) (pr : Int) (c : Cfg) (n : Int) (tl : List Value) (rem : List UInt8) (w : World) (e : Ending) (w' : World) : Prop :=
 ∃ (z x : Int) (r' : List UInt8), e = .returned (.tuple #[.int .i32 z, .int .i64 x]) ∧ RdP R TB DT pr c n tl r' w' ∧ r'.length ≤ rem.length ∧ Keep (TB = ·) w w' ∧
  (x = -2 ∨ (x = -1 ∧ (vK rem ≠ 0 ∨ vK rem = 0 ∧ v32 rem < 0)) ∨ (x = 0 ∧ vK rem = 0 ∧ z = v32 rem ∧ 0 ≤ z ∧ r' = vR rem)) ∧ -2147483648 ≤ z ∧ z ≤ 2147483647
theorem i32_w32 (n : Int) : IntKind.i32.wrap n = wrap32 n := by rw [IntKind.wrap_i32, wrap32]
theorem rd_sized (h : RdP R TB DT pr c n tl rem w) :
  Calls Tryz.prog 142 #[.pointer (some ⟨R, 0, none⟩)] w (RSize R TB DT pr c n tl rem w) := by
 go_enter Tryz.func142, Tryz.ntmps142
 go_wp2_with fail
 refine (rd_varint h 32 (.inl rfl)).mono ?_
 rintro e w1 ⟨N, x, r', rfl, h1, hl, hk, hx, hN⟩
 rcases hx with ⟨rfl, rfl⟩ | ⟨rfl, rfl, hv⟩ | ⟨rfl, hv, hn, hr⟩
 ·go_wp2_with fail
  go_ret2
  exact ⟨_, _, _, rfl, h1, hl, hk, .inl rfl, by decide, by decide⟩
 ·have HV := hdd hv
  clear hv
  go_wp2_with fail
  go_ret2
  exact ⟨_, _, _, rfl, h1, hl, hk, .inr (.inl ⟨rfl, .inl HV.out⟩), by decide, by decide⟩
 ·have hb : -2147483648 ≤ wrap32 (N : Int) ∧ wrap32 (N : Int) ≤ 2147483647 := by simp only [wrap32]; omega
  have e2 : wrap32 (N : Int) = v32 rem := by rw [v32_eq, hn]
  have HV := hdd hv
  have HR := hdd hr
  have HE2 := hdd e2
  obtain ⟨z, hz⟩ : ∃ z, wrap32 (N : Int) = z := ⟨_, rfl⟩
  have hzi : IntKind.i32.wrap (N : Int) = z := by rw [i32_w32]; exact hz
  rw [hz] at hb HE2
  clear hv hn hr e2
  by_cases h0 : z < 0
  ·go_wp2_with fail
   go_ret2
   exact ⟨_, _, _, rfl, h1, hl, hk, .inr (.inl ⟨rfl, .inr ⟨HV.out, by rw [← HE2.out]; exact h0⟩⟩), by decide, by decide⟩
  ·go_wp2_with fail
   go_ret2
   exact ⟨_, _, _, rfl, h1, hl, hk, .inr (.inr ⟨rfl, HV.out, HE2.out, by omega, HR.out⟩), hb.1, hb.2⟩
def RText (R TB DT : Nat) (pr : Int) (c : Cfg) (n : Int) (tl : List Value) (rem : List UInt8) (w : World) (e : Ending) (w' : World) : Prop :=
 ∃ v x r', e = .returned (.tuple #[v, .int .i64 x]) ∧ Sk (cstrK rem c) x ∧ RdP R TB DT pr c n tl r' w' ∧ r'.length ≤ rem.length ∧ (x = 0 → r' = cstrRem rem) ∧ Keep (TB = ·) w w' ∧ (x = 0 → BytesAt (w.heap.size ≤ ·) w' v (cstrS rem)) ∧ ∃ a m cc, v = .slice a m cc
theorem rd_text (h : RdP R TB DT pr c n tl rem w) :
  Calls Tryz.prog 139 #[.pointer (some ⟨R, 0, none⟩)] w (RText R TB DT pr c n tl rem w) := by
 go_enter Tryz.func139, Tryz.ntmps139
 go_wp2_with fail
 refine (rd_sized h).mono ?_
 rintro e w1 ⟨z, x, r1, rfl, h1, hl, hk, hx, hz0, hz1⟩
 rcases hx with rfl | ⟨rfl, hv⟩ | ⟨rfl, hv, hz, hzz, hr⟩
 ·go_wp2_with fail
  go_ret2
  exact ⟨_, _, _, rfl, .inl rfl, h1, hl, (fun hh => by cases hh), hk, (fun hh => by cases hh), _, _, _, rfl⟩
 ·have HV := hdd hv
  clear hv
  go_wp2_with fail
  go_ret2
  refine ⟨_, _, _, rfl, .inr (.inl ⟨rfl, ?_, cstrK_lt _ _⟩), h1, hl, (fun hh => by cases hh), hk, (fun hh => by cases hh), _, _, _, rfl⟩
  unfold cstrK
  rcases HV.out with hv | ⟨hv, hn⟩
  ·rw [if_neg hv]; exact pk_ne hv
  ·rw [if_pos hv, if_neg (by simp [sizeK, hn])]
   simp [sizeK, hn]
 ·have HV := hdd hv
  have HZ := hdd hz
  have HR := hdd hr
  have hw : IntKind.i64.wrap z = z := IntWalk.i64_in _ (by omega)
  clear hv hz hr
  go_wp2_with fail
  refine (rd_bytes h1 z hz0 hz1).mono ?_
  rintro e w2 ⟨v, x2, rfl, hx2, ⟨r2, h2, hl2, hr2⟩, hk2, hb2, a, m, cc, rfl⟩
  have HX := hdd hx2
  have HR2 := hdd hr2
  have HB2 := hdd hb2
  clear hx2 hr2 hb2
  go_wp2_with fail
  go_ret2
  have e1 : cstrK rem c = (if sizeK z c = 0 then fullK z.toNat r1 else sizeK z c) := by unfold cstrK; rw [if_pos HV.out, HZ.out, HR.out]
  refine ⟨_, _, _, rfl, by rw [e1]; exact HX.out, h2, by omega, fun hh => ?_, hk.then hk2, fun hh => ?_, _, _, _, rfl⟩
  ·rw [HR2.out hh, cstrRem, HZ.out, HR.out]
  ·have := HB2.out hh
   rw [cstrS, ← HZ.out, ← HR.out]
   exact this.weak (fun i _ hi => Nat.le_trans hk.size hi)
theorem least_cmp (c : Cfg) (t : Int) (w : World) : Calls Tryz.prog 160 #[confV 1 c, .int .i64 t] w fun e w' => ∃ a b, e = .returned (.tuple #[.int .i64 a, .int .i64 b]) ∧ 0 ≤ a ∧ a ≤ minCmp t ∧ minCmp t ≤ b ∧ b ≤ 16 ∧ Keep (fun _ => False) w w' := by
 go_enter Tryz.func160, Tryz.ntmps160
 go_wp2_with fail
 all_goals go_ret2
 all_goals refine ⟨_, _, rfl, by decide, ?_, ?_, by decide, (Keep.refl _ w).alloc _⟩
 all_goals simp_all [minCmp]
 all_goals (repeat' split) <;> omega
def RMany (c : Cfg) (size m : Int) (rem : List UInt8) (w : World) (e : Ending) (w' : World) : Prop := ∃ x, e = .returned (.int .i64 x) ∧ Sk (contK size m rem.length c) x ∧ Keep (fun _ => False) w w'
set_option maxRecDepth 100000 in
theorem rd_many1 (hR : RdP R TB DT 1 c n tl rem w) (size t : Int) (hlo : -2147483648 ≤ size) (hhi : size ≤ 2147483647) :
  Calls Tryz.prog 143 #[.pointer (some ⟨R, 0, none⟩), .int .i32 size, .int .i64 0, .int .i64 t] w (RMany c size (minCmp t) rem w) := by
 obtain ⟨c0, c1, c2, c3, c4, c5, c6, c7, c8⟩ := hR.cells
 have hmt := minCmp_bd t
 go_enter Tryz.func143, Tryz.ntmps143
 go_wp2_with fail
 refine (limits 1 c _).mono ?_
 rintro e w1 ⟨fr, sr, sw, rfl, hk1⟩
 have h1 := hR.fresh hk1
 obtain ⟨c0, c1, c2, c3, c4, c5, c6, c7, c8⟩ := h1.cells
 have hcb := Cfg.cont_bd hR.cok
 by_cases hs0 : size < 0
 ·have e1 : contK size (minCmp t) rem.length c = 12 := by simp [contK, hs0]
  have HE := hdd e1
  clear e1
  go_wp2_with fail
  go_ret
  exact ⟨_, rfl, by rw [HE.out]; exact .inr (.inl ⟨rfl, by decide⟩), hk1⟩
 ·by_cases hs1 : c.maxCont < size
  ·have e1 : contK size (minCmp t) rem.length c = 13 := by simp [contK, hs0, hs1]
   have HE := hdd e1
   clear e1
   go_wp2_with fail
   go_ret
   exact ⟨_, rfl, by rw [HE.out]; exact .inr (.inl ⟨rfl, by decide⟩), hk1⟩
  ·have HS0 := hdd hs0
   have HS1 := hdd hs1
   have hw : IntKind.i64.wrap size = size := IntWalk.i64_in _ (by omega)
   go_wp2_with fail
   refine (least_cmp c t _).mono ?_
   rintro e w2 ⟨low, high, rfl, l0, l1, l2, l3, hk2⟩
   have h2 := h1.fresh hk2
   obtain ⟨c0, c1, c2, c3, c4, c5, c6, c7, c8⟩ := h2.cells
   go_wp2_with fail
   refine (rd_room h2 size low high (by omega) hhi (by omega) (by omega) (by omega) (by omega)).mono ?_
   rintro e w4 ⟨x, rfl, hk4, hx⟩
   have HX := hdd hx
   clear hx
   go_wp2_with fail
   go_ret
   exact ⟨x, rfl, count_ok hR.cok (by have := HS0.out; omega) (by have := HS1.out; omega) l1 l2 HX.out, hk1.then (hk2.then hk4)⟩
set_option maxRecDepth 100000 in
theorem rd_many2 (hR : RdP R TB DT 1 c n tl rem w) (size k t : Int) (hk0 : ¬ k = 0) (hlo : -2147483648 ≤ size) (hhi : size ≤ 2147483647) :
  Calls Tryz.prog 143 #[.pointer (some ⟨R, 0, none⟩), .int .i32 size, .int .i64 k, .int .i64 t] w (RMany c size (minCmp k + minCmp t) rem w) := by
 obtain ⟨c0, c1, c2, c3, c4, c5, c6, c7, c8⟩ := hR.cells
 have hmt := minCmp_bd t
 have hmk := minCmp_bd k
 have hk0b : (k != 0) = true := by simpa using hk0
 go_enter Tryz.func143, Tryz.ntmps143
 go_wp2_with fail
 refine (limits 1 c _).mono ?_
 rintro e w1 ⟨fr, sr, sw, rfl, hk1⟩
 have h1 := hR.fresh hk1
 obtain ⟨c0, c1, c2, c3, c4, c5, c6, c7, c8⟩ := h1.cells
 have hcb := Cfg.cont_bd hR.cok
 by_cases hs0 : size < 0
 ·have e1 : contK size (minCmp k + minCmp t) rem.length c = 12 := by simp [contK, hs0]
  have HE := hdd e1
  clear e1
  go_wp2_with fail
  go_ret
  exact ⟨_, rfl, by rw [HE.out]; exact .inr (.inl ⟨rfl, by decide⟩), hk1⟩
 ·by_cases hs1 : c.maxCont < size
  ·have e1 : contK size (minCmp k + minCmp t) rem.length c = 13 := by simp [contK, hs0, hs1]
   have HE := hdd e1
   clear e1
   go_wp2_with fail
   go_ret
   exact ⟨_, rfl, by rw [HE.out]; exact .inr (.inl ⟨rfl, by decide⟩), hk1⟩
  ·have HS0 := hdd hs0
   have HS1 := hdd hs1
   have hw : IntKind.i64.wrap size = size := IntWalk.i64_in _ (by omega)
   go_wp2_with fail
   refine (least_cmp c t _).mono ?_
   rintro e w2 ⟨low, high, rfl, l0, l1, l2, l3, hk2⟩
   have h2 := h1.fresh hk2
   obtain ⟨c0, c1, c2, c3, c4, c5, c6, c7, c8⟩ := h2.cells
   go_wp2_with fail
   refine (least_cmp c k _).mono ?_
   rintro e w3 ⟨low2, high2, rfl, q0, q1, q2, q3, hk3⟩
   have h3 := h2.fresh hk3
   have hwl : IntKind.i64.wrap (low + low2) = low + low2 := IntWalk.i64_in _ (by omega)
   have hwh : IntKind.i64.wrap (high + high2) = high + high2 := IntWalk.i64_in _ (by omega)
   go_wp2_with fail
   refine (rd_room h3 size (low + low2) (high + high2) (by omega) hhi (by omega) (by omega) (by omega) (by omega)).mono ?_
   rintro e w4 ⟨x, rfl, hk4, hx⟩
   have HX := hdd hx
   clear hx
   go_wp2_with fail
   go_ret
   exact ⟨x, rfl, count_ok hR.cok (by have := HS0.out; omega) (by have := HS1.out; omega) (low := low + low2) (high := high + high2) (by omega) (by omega) HX.out, hk1.then (hk2.then (hk3.then hk4))⟩
def ccode (t : Int) : Int := if t = 2 then 1 else if t = 3 then 3 else if t = 6 then 4 else if t = 8 then 5 else if t = 10 then 6 else if t = 4 then 7 else if t = 11 then 8 else if t = 15 then 9 else if t = 14 then 10 else if t = 13 then 11 else if t = 12 then 12 else if t = 16 then 13 else 0
def ctype (n : Int) : Int := if n = 1 ∨ n = 2 then 2 else if n = 3 then 3 else if n = 4 then 6 else if n = 5 then 8 else if n = 6 then 10 else if n = 7 then 4 else if n = 8 then 11 else if n = 9 then 15 else if n = 10 then 14 else if n = 11 then 13 else if n = 12 then 12 else if n = 13 then 16 else 0
theorem ctype_fin : ∀ m : Fin 16, ctype ((m.val : Nat) : Int) = cty m.val := by decide +kernel
theorem ctype_cty (n : Nat) (h : n < 16) : ctype (n : Int) = cty n := ctype_fin ⟨n, h⟩
theorem and255_i64 (t : Int) (h : 0 ≤ t ∧ t ≤ 255) : bits .and .i64 t 255 = t := by
 show IntKind.i64.wrap ((BitVec.ofInt 64 t &&& BitVec.ofInt 64 255).toNat : Int) = _
 obtain ⟨m, rfl⟩ : ∃ m : Nat, t = m := ⟨t.toNat, by omega⟩
 rw [ofInt64 (m : Int) m (by omega), ofInt64 255 255 (by decide), ← BitVec.ofNat_and, BitVec.toNat_ofNat]
 have := Nat.and_two_pow_sub_one_eq_mod m 8
 simp only [Nat.reducePow, Nat.reduceSub] at this
 rw [this, i64_wr]
 split <;> omega
theorem ccode_at (t : Int) (h : 0 ≤ t ∧ t ≤ 255) (w : World) : Calls Tryz.prog 159 #[.int .i64 t] w fun e w' => e = .returned (.int .u8 (ccode t)) ∧ w = w' := by
 have ha := and255_i64 t h
 go_enter Tryz.func159, Tryz.ntmps159
 go_wp2_with fail
 all_goals
  go_ret
  refine ⟨?_, rfl⟩
  simp_all [ccode]
end
theorem ctype_ccode_fin : ∀ m : Fin 17, ccode ((m.val : Nat) : Int) ≠ 0 → ctype (ccode ((m.val : Nat) : Int)) = ((m.val : Nat) : Int) := by decide +kernel
theorem ctype_ccode (t : Int) (h0 : 0 ≤ t) (h1 : t ≤ 16) (h : ccode t ≠ 0) : ctype (ccode t) = t := by
 obtain ⟨m, rfl⟩ : ∃ m : Nat, t = m := ⟨t.toNat, by omega⟩
 exact ctype_ccode_fin ⟨m, by omega⟩ h
theorem ccode_ctype_fin : ∀ m : Fin 14, ctype ((m.val : Nat) : Int) ≠ 0 → m.val ≠ 2 → ccode (ctype ((m.val : Nat) : Int)) = ((m.val : Nat) : Int) ∧ 2 ≤ ctype ((m.val : Nat) : Int) ∧ ctype ((m.val : Nat) : Int) ≤ 16 ∧ ((m.val : Nat) : Int) ≠ 0 := by decide +kernel
theorem ctype_none (n : Int) (h : n < 0 ∨ 13 < n) : ctype n = 0 := by
 unfold ctype
 rw [if_neg (by omega), if_neg (by omega), if_neg (by omega), if_neg (by omega), if_neg (by omega), if_neg (by omega), if_neg (by omega), if_neg (by omega), if_neg (by omega), if_neg (by omega), if_neg (by omega), if_neg (by omega)]
theorem ccode_ctype (n : Int) (h : ctype n ≠ 0) (h2 : n ≠ 2) : ccode (ctype n) = n ∧ 2 ≤ ctype n ∧ ctype n ≤ 16 ∧ n ≠ 0 := by
 by_cases hr : n < 0 ∨ 13 < n
 ·exact absurd (ctype_none n hr) h
 ·obtain ⟨m, rfl⟩ : ∃ m : Nat, n = m := ⟨n.toNat, by omega⟩
  exact ccode_ctype_fin ⟨m, by omega⟩ h (by show m ≠ 2; omega)
theorem ctype_at (n : Int) (w : World) : Calls Tryz.prog 141 #[.int .u8 n] w fun e w' => e = .returned (.int .i64 (ctype n)) ∧ w = w' := by
 by_cases h2 : n = 2
 ·subst h2
  go_enter Tryz.func141, Tryz.ntmps141
  go_wp2_with fail
  go_ret
  exact ⟨rfl, rfl⟩
 ·have H2 := hdd h2
  have h2b : (n == 2) = false := by simpa using h2
  clear h2
  go_enter Tryz.func141, Tryz.ntmps141
  go_wp2_with fail
  go_loopg [3] 15 (fun k tv wr => ∃ t : Int, tv = .int .i64 t ∧ t + k = 17 ∧ 2 ≤ t ∧ (∀ t', 2 ≤ t' → t' < t → ¬ (ccode t' ≠ 0 ∧ ccode t' = n)) ∧ w = wr)
  case atStart => exact ⟨2, rfl, rfl, Int.le_refl _, fun t' h1 h2 => by omega, rfl⟩
  case round =>
   obtain ⟨t, rfl, htk, ht2, hall, rfl⟩ := hrel
   have HALL := hdd hall
   clear hall
   cases gk with
   | zero =>
    have ht : t = 17 := by omega
    subst ht
    have hz : ctype n = 0 := by
     by_cases hc : ctype n = 0
     ·exact hc
     ·obtain ⟨h1, h3, h4, h5⟩ := ccode_ctype n hc H2.out
      exact absurd ⟨by rw [h1]; exact h5, h1⟩ (HALL.out (ctype n) h3 (by omega))
    have HZ := hdd hz
    clear hz
    go_wp2_with fail
    go_ret
    rw [HZ.out]
    exact ⟨rfl, rfl⟩
   | succ k =>
    have hle : t ≤ 16 := by omega
    go_wp2_with fail
    refine (ccode_at t (by omega) _).mono ?_
    rintro e w1 ⟨rfl, rfl⟩
    obtain ⟨q, hq⟩ : ∃ q, ccode t = q := ⟨_, rfl⟩
    rw [hq]
    have HQ := hdd hq
    clear hq
    by_cases hq0 : q = 0
    ·subst hq0
     have HN := hdd (show ¬ (ccode t ≠ 0 ∧ ccode t = n) from fun x => x.1 HQ.out)
     go_wp2_with fail
     go_roundg k
     case measure => exact Nat.lt_succ_self _
     case rel => exact ⟨t + 1, rfl, by omega, by omega, fun t' h1 h3 => by
      by_cases e : t' = t
      ·rw [e]; exact HN.out
      ·exact HALL.out t' h1 (by omega), rfl⟩
    ·have hq0b : (q != 0) = true := by simpa using hq0
     by_cases hqn : q = n
     ·have hqnb : (q == n) = true := by simpa using hqn
      have HT := hdd (show ctype n = t by rw [← hqn, ← HQ.out]; exact ctype_ccode t (by omega) (by omega) (by rw [HQ.out]; exact hq0))
      clear hqn
      go_wp2_with fail
      go_ret
      rw [HT.out]
      exact ⟨rfl, rfl⟩
     ·have hqnb : (q == n) = false := by simpa using hqn
      have HN := hdd (show ¬ (ccode t ≠ 0 ∧ ccode t = n) from fun x => hqn (HQ.out ▸ x.2))
      go_wp2_with fail
      go_roundg k
      case measure => exact Nat.lt_succ_self _
      case rel => exact ⟨t + 1, rfl, by omega, by omega, fun t' h1 h3 => by
       by_cases e : t' = t
       ·rw [e]; exact HN.out
       ·exact HALL.out t' h1 (by omega), rfl⟩
theorem uzig32_at (N : Nat) (hN : N < 4294967296) (w : World) :
  Calls Tryz.prog 140 #[.int .u32 N] w fun e w' => e = .returned (.int .i32 (zz N)) ∧ w = w' := by
 have h1 := and1_u32 N
 have h2 := unzig32 N hN
 have H2 := hdd h2
 clear h2
 go_enter Tryz.func140, Tryz.ntmps140
 go_wp2_with fail
 go_ret
 refine ⟨congrArg (fun z => Ending.returned (.int .i32 z)) ?_, rfl⟩
 show bits .xor .i32 ((N : Int) / 2) (-((N : Int) % 2)) = _
 rw [← H2.out]
 simp
theorem uzig64_at (N : Nat) (hN : N < 18446744073709551616) (w : World) :
  Calls Tryz.prog 145 #[.int .u64 N] w fun e w' => e = .returned (.int .i64 (zz N)) ∧ w = w' := by
 have h1 := and1_u64 N
 have h2 := unzig64 N hN
 have H2 := hdd h2
 clear h2
 go_enter Tryz.func145, Tryz.ntmps145
 go_wp2_with fail
 go_ret
 refine ⟨congrArg (fun z => Ending.returned (.int .i64 z)) ?_, rfl⟩
 show bits .xor .i64 ((N : Int) / 2) (-((N : Int) % 2)) = _
 rw [← H2.out]
 simp
def LRow (w : World) (fv : Value) (xs : List Int) (Bad : Nat → Prop) : Prop :=
 (fv = .slice none 0 0 ∧ xs = []) ∨ ∃ (g cap : Nat) (cs : Array Value), fv = .slice (some ⟨g, 0, none⟩) xs.length cap ∧ ¬ Bad g ∧ w.heap[g]? = some (.cells cs 3 (0, 0)) ∧ xs.length ≤ cap ∧ cap ≤ cs.size ∧ cap ≤ maxLen ∧ ∀ (j : Nat) (x : Int), xs[j]? = some x → cs[j]? = some (.int .i64 x)
theorem LRow.keep {w w' : World} {fv : Value} {xs : List Int} {Bad N : Nat → Prop} (h : LRow w fv xs Bad) (k : Keep N w w') (hN : ∀ i, fv.ownBlock = some i → ¬ N i) : LRow w' fv xs Bad := by
 rcases h with h | ⟨g, cap, cs, rfl, hb, hg, rest⟩
 ·exact .inl h
 ·exact .inr ⟨g, cap, cs, rfl, hb, (k.block g (lt_of_heap hg) (hN g rfl)).trans hg, rest⟩
theorem LRow.lt {w : World} {fv : Value} {xs : List Int} {Bad : Nat → Prop} (h : LRow w fv xs Bad) : ∀ i, fv.ownBlock = some i → ¬ Bad i ∧ i < w.heap.size := by
 intro i e
 rcases h with ⟨rfl, _⟩ | ⟨g, cap, cs, rfl, hb, hg, _⟩
 ·simp [Value.ownBlock] at e
 ·simp [Value.ownBlock] at e
  subst e
  exact ⟨hb, lt_of_heap hg⟩
abbrev RTD (R TB DT : Nat) : Nat → Prop := fun i => i = R ∨ i = TB ∨ i = DT
abbrev RT (R TB : Nat) : Nat → Prop := fun i => R = i ∨ TB = i
abbrev crT (s : Cmp.St) (fv : Value) (v : Int) : List Value := [.int .i64 s.last, fv, .bool s.pend, .int .i64 v]
structure RdC (R TB DT : Nat) (c : Cfg) (n : Int) (s : Cmp.St) (fv : Value) (v : Int) (w : World) : Prop where
 p : RdP R TB DT 1 c n (crT s fv v) s.rem w
 val : s.pend = true → v = if s.val = true then 1 else 0
 row : LRow w fv s.outer (RTD R TB DT)
 last16 : -32768 ≤ s.last ∧ s.last ≤ 32767
 out16 : ∀ x ∈ s.outer, -32768 ≤ x ∧ x ≤ 32767
 dlt : DT < w.heap.size
 neD : ¬ R = DT
def GC (R TB DT : Nat) (c : Cfg) (n : Int) (s : Cmp.St) (fv : Value) (w : World) (k : Int) (s' : Cmp.St) (T KT SZ ID N : Int) (S : List UInt8) (e : Ending) (w' : World) : Prop :=
 ∃ x t kt size id N' S', e = .returned (gotV x t kt size id N' S') ∧ (∃ a m cc, S' = .slice a m cc) ∧ Sk k x ∧ (∃ s2 v2, RdC R TB DT c n s2 fv v2 w' ∧ (x = 0 → s2 = s')) ∧ Keep (RT R TB) w w' ∧
  (x = 0 → t = T ∧ kt = KT ∧ size = SZ ∧ id = ID ∧ N' = N ∧ BytesAt (w.heap.size ≤ ·) w' S' S)
theorem ctyK_fin : ∀ m : Fin 16, (m.val ≠ 0 → cty m.val = 0 → ctyK m.val ≠ 0) ∧ (cty m.val ≠ 0 → ctyK m.val = 0) := by decide +kernel
theorem ctyK_ne (m : Nat) (h : m < 16) (h0 : ¬ m = 0) (ht : cty m = 0) : ¬ ctyK m = 0 := (ctyK_fin ⟨m, h⟩).1 h0 ht
theorem ctyK_zero (m : Nat) (h : m < 16) (ht : cty m ≠ 0) : ctyK m = 0 := (ctyK_fin ⟨m, h⟩).2 ht
section
variable {R TB DT : Nat} {c : Cfg} {n : Int} {s s2 s' : Cmp.St} {fv : Value} {v v2 : Int} {w w1 w' : World}
theorem RdC.ltR (h : RdC R TB DT c n s fv v w) : R < w.heap.size := lt_of_heap h.p.blk
theorem RdC.ltT (h : RdC R TB DT c n s fv v w) : TB < w.heap.size := lt_of_cell h.p.tube.c0
theorem RdC.ccells (h : RdC R TB DT c n s fv v w) : w.cell? ⟨R, 9, none⟩ = some (.int .i64 s.last) ∧ w.cell? ⟨R, 10, none⟩ = some fv ∧ w.cell? ⟨R, 11, none⟩ = some (.bool s.pend) ∧ w.cell? ⟨R, 12, none⟩ = some (.int .i64 v) := by
 refine ⟨?_, ?_, ?_, ?_⟩ <;> simp [cellAt h.p.blk]
theorem RdC.keep {N : Nat → Prop} (h : RdC R TB DT c n s fv v w) (k : Keep N w w') (hR : ¬ N R) (hT : ¬ N TB) (hD : ¬ N DT) (hF : ∀ i, fv.ownBlock = some i → ¬ N i) : RdC R TB DT c n s fv v w' :=
 ⟨⟨(k.block R h.ltR hR).trans h.p.blk, h.p.tube.keep k hT (fun _ => hD), h.p.ne, h.p.cok, h.p.size⟩, h.val, h.row.keep k hF, h.last16, h.out16, Nat.lt_of_lt_of_le h.dlt k.size, h.neD⟩
theorem RdC.fresh (h : RdC R TB DT c n s fv v w) (k : Keep (fun _ => False) w w') : RdC R TB DT c n s fv v w' := h.keep k id id id (fun _ _ => id)
theorem RdC.took {r' : List UInt8} (h : RdC R TB DT c n s fv v w) (h1 : RdP R TB DT 1 c n (crT s fv v) r' w') (k : Keep (TB = ·) w w') : RdC R TB DT c n (s.at r') fv v w' :=
 ⟨h1, h.val, h.row.keep k (fun i e x => (h.row.lt i e).1 (.inr (.inl x.symm))), h.last16, h.out16, Nat.lt_of_lt_of_le h.dlt k.size, h.neD⟩
theorem gc_ret {f : Func} {slot : Nat} {a : Act} {U : Nat} {k x t kt size id nn T KT SZ ID N : Int} {S' : Value} {S : List UInt8} {v0 v1 v2' v3 v4 v5 v6 : Value} (hf : f.results = #[.cell slot 75]) (hd : a.defers = []) (ha : a.tmps[slot]?.getD undef = .pointer (some ⟨U, 0, none⟩))
  (hU : w.heap.size ≤ U) (h0 : RdC R TB DT c n s fv v w) (h1 : RdC R TB DT c n s2 fv v2 w1) (hk : Keep (RT R TB) w w1) (HU : w1.heap[U]? = some (.cells #[v0, v1, v2', v3, v4, v5, v6] 75 (0, 0))) (hs : ∃ a m cc, S' = .slice a m cc)
  (hx : Sk k x) (hv : x = 0 → s2 = s' ∧ t = T ∧ kt = KT ∧ size = SZ ∧ id = ID ∧ nn = N ∧ BytesAt (U + 1 ≤ ·) w1 S' S) : bodyPost Tryz.prog f (GC R TB DT c n s fv w k s' T KT SZ ID N S) Exit.ret a (gotW w1 U x t kt size id nn S') := by
 have hR := h0.ltR
 have hT := h0.ltT
 have hkU : Keep (fun i => U = i) w1 (gotW w1 U x t kt size id nn S') := got_keep (Keep.refl _ w1) (fun _ => rfl) _ _ _ _ _ _ _
 refine ret_got (U := U) hf hd ha (got_set HU _ _ _ _ _ _ _) ⟨_, _, _, _, _, _, _, rfl, hs, hx, ⟨s2, v2, h1.keep hkU (by omega) (by omega) (fun e => by have := h0.dlt; omega) (fun i e e2 => ?_), fun hz => (hv hz).1⟩, hk.trans hkU (fun i hi e => by omega), fun hz => ?_⟩
 ·have := h0.row.lt i e; omega
 ·obtain ⟨_, q1, q2, q3, q4, q5, q6⟩ := hv hz
  exact ⟨q1, q2, q3, q4, q5, (q6.keep hkU (fun i hi e => by omega)).weak (fun i _ hi => by omega)⟩
set_option maxRecDepth 100000 in
theorem c_list (h : RdC R TB DT c n s fv v w) :
  Calls Tryz.prog 114 #[.pointer (some ⟨R, 0, none⟩)] w (GC R TB DT c n s fv w (Cmp.lK c s) (Cmp.lS s) (Cmp.lT s) 0 (Cmp.lN s) 0 0 []) := by
 obtain ⟨rem, last, outer, pend, val⟩ := s
 have hk0 : Keep (fun _ => False) w (w.alloc (.cells zGot 75)) := (Keep.refl _ w).alloc _
 have hU0 := heap_alloc_new w (.cells zGot 75)
 have hTU := h.ltT
 have HH := hdd h
 go_enter Tryz.func114, Tryz.ntmps114
 go_wp2_with fail
 have hsA : (w.alloc (.cells zGot 75)).heap.size = w.heap.size + 1 := by simp
 generalize w.alloc (.cells zGot 75) = wA at *
 obtain ⟨U, hU⟩ : ∃ U, w.heap.size = U := ⟨_, rfl⟩
 rw [hU] at hU0 hTU hsA ⊢
 have HUS := hdd hU
 clear hU
 have hA := h.fresh hk0
 refine (rd_byte hA.p).mono ?_
 rintro e w1 ⟨b0, x, rfl, hx, hp1, hk1, hb⟩
 have h1 := hA.took hp1 hk1
 have hk01 : Keep (RT R TB) w w1 := (hk0.weak (fun _ _ x => x.elim)).then (hk1.weak (fun _ _ x => .inr x))
 have HU := hdd ((hk1.block U (lt_of_heap hU0) (by omega)).trans hU0)
 have HK := hdd hk01
 have H1 := hdd h1
 obtain ⟨u0, u1, u2, u3, u4, u5, u6⟩ := got_cells HU.out
 obtain ⟨f0, f1, f2, f3, f4, f5, f6⟩ := got_free HU.out
 clear hk01 h1 hU0
 cases rem with
 | nil =>
  have hx1 : x = -1 := by rcases hx with ⟨hx, _⟩ | ⟨_, hx⟩; exact hx; exact absurd rfl hx
  subst hx1
  clear hx hb
  go_wp2_with fail
  exact gc_ret (U := U) Tryz.results114 rfl rfl (Nat.le_of_eq HUS.out) HH.out H1.out HK.out HU.out ⟨_, _, _, rfl⟩ (.inr (.inl ⟨rfl, by simp [Cmp.lK], Cmp.lK_lt _ _⟩)) (fun hz => by cases hz)
 | cons b r =>
  have hx1 : x = 0 := by rcases hx with ⟨_, hx⟩ | ⟨hx, _⟩; cases hx; exact hx
  subst hx1
  have hb0 := hb b r rfl
  subst hb0
  have hb8 := b.toNat_lt
  clear hx hb
  have hm := u8_and15 b
  obtain ⟨lo, hlo⟩ : ∃ lo, b.toNat % 16 = lo := ⟨_, rfl⟩
  obtain ⟨hi, hhi⟩ : ∃ hi, b.toNat / 16 = hi := ⟨_, rfl⟩
  have hhc : (b.toNat : Int) / 16 = (hi : Nat) := by omega
  rw [hlo] at hm
  have HLO := hdd hlo
  have HHI := hdd hhi
  have hlo16 : lo < 16 := by omega
  have hhi16 : hi < 16 := by omega
  clear hlo hhi
  by_cases h15 : hi = 15
  ·subst h15
   go_wp2_with fail
   refine (rd_sized H1.out.p).mono ?_
   rintro e w2 ⟨z, x, r', rfl, hp2, hl2, hk2, hx, hz0, hz1⟩
   have HK2 := hdd (HK.out.then (hk2.weak (fun _ _ x => .inr x)))
   have H2 := hdd (H1.out.took hp2 hk2)
   have hUk := (hk2.block U (lt_of_heap HU.out) (by omega)).trans HU.out
   have HU2 := hdd hUk
   obtain ⟨u0, u1, u2, u3, u4, u5, u6⟩ := got_cells HU2.out
   obtain ⟨f0, f1, f2, f3, f4, f5, f6⟩ := got_free HU2.out
   clear hp2 hUk
   rcases hx with rfl | ⟨rfl, hv⟩ | ⟨rfl, hv, hz, hzz, hr⟩
   ·go_wp2_with fail
    exact gc_ret (U := U) Tryz.results114 rfl rfl (Nat.le_of_eq HUS.out) HH.out H2.out HK2.out HU2.out ⟨_, _, _, rfl⟩ (.inl rfl) (fun hz => by cases hz)
   ·have HV := hdd hv
    clear hv
    go_wp2_with fail
    refine gc_ret (U := U) Tryz.results114 rfl rfl (Nat.le_of_eq HUS.out) HH.out H2.out HK2.out HU2.out ⟨_, _, _, rfl⟩ (.inr (.inl ⟨rfl, ?_, Cmp.lK_lt _ _⟩)) (fun hz => by cases hz)
    have hv : vK r ≠ 0 ∨ vK r = 0 ∧ v32 r < 0 := HV.out
    simp only [Cmp.lK]
    rw [if_pos HHI.out]
    rcases hv with hv | ⟨hv, hn⟩
    ·rw [if_neg hv]; exact pk_ne hv
    ·rw [if_pos hv]
     split
     ·simp [contK, hn]
     ·decide
   ·have HV := hdd (show vK r = 0 from hv)
    have HZ := hdd (show z = v32 r from hz)
    have HR := hdd (show r' = vR r from hr)
    clear hv hz hr
    by_cases hl0 : lo = 0
    ·subst hl0
     go_wp2_with fail
     exact gc_ret (U := U) Tryz.results114 rfl rfl (Nat.le_of_eq HUS.out) HH.out H2.out HK2.out HU2.out ⟨_, _, _, rfl⟩ (.inl rfl) (fun hz => by cases hz)
    ·have hl0i : ¬ (lo : Int) = 0 := by omega
     go_wp2_with fail
     refine (ctype_at _ _).mono ?_
     rintro e w2' ⟨rfl, rfl⟩
     obtain ⟨t, ht⟩ : ∃ t, ctype (lo : Nat) = t := ⟨_, rfl⟩
     rw [ht]
     have HT := hdd (show cty lo = t by rw [← ht]; exact (ctype_cty lo hlo16).symm)
     clear ht
     by_cases ht0 : t = 0
     ·subst ht0
      go_wp2_with fail
      refine gc_ret (U := U) Tryz.results114 rfl rfl (Nat.le_of_eq HUS.out) HH.out H2.out HK2.out HU2.out ⟨_, _, _, rfl⟩ (.inr (.inl ⟨rfl, ?_, Cmp.lK_lt _ _⟩)) (fun hz => by cases hz)
      simp only [Cmp.lK]
      rw [if_pos HHI.out, if_pos HV.out, HLO.out, if_neg (ctyK_ne lo hlo16 hl0 HT.out)]
      decide
     ·go_wp2_with fail
      refine (rd_many1 H2.out.p z t hz0 hz1).mono ?_
      rintro e w3 ⟨x, rfl, hx, hk3⟩
      have HU3 := hdd ((hk3.block U (lt_of_heap HU2.out) id).trans HU2.out)
      have HK3 := hdd (HK2.out.then (hk3.weak (fun _ _ x => x.elim)))
      have H3 := hdd (H2.out.fresh hk3)
      have HX := hdd (show Sk (contK z (minCmp t) r'.length c) x from hx)
      have HLK : Hid (Cmp.lK c ⟨b :: r, last, outer, pend, val⟩ = contK z (minCmp t) r'.length c) := hdd (by
       simp only [Cmp.lK]
       rw [if_pos HHI.out, if_pos HV.out, HLO.out, if_pos (ctyK_zero lo hlo16 (by rw [HT.out]; exact ht0)), HT.out, ← HZ.out, ← HR.out])
      obtain ⟨u0, u1, u2, u3, u4, u5, u6⟩ := got_cells HU3.out
      obtain ⟨f0, f1, f2, f3, f4, f5, f6⟩ := got_free HU3.out
      clear hx
      by_cases hx0 : x = 0
      ·subst hx0
       have hzw : IntKind.i64.wrap z = z := IntWalk.i64_in _ (by omega)
       go_wp2_with fail
       refine gc_ret (U := U) Tryz.results114 rfl rfl (Nat.le_of_eq HUS.out) HH.out H3.out HK3.out HU3.out ⟨_, _, _, rfl⟩ (by rw [HLK.out]; exact HX.out) (fun _ => ⟨?_, ?_, rfl, ?_, rfl, rfl, BytesAt.nil _ _⟩)
       ·simp only [Cmp.lS]; rw [if_pos HHI.out, HR.out]
       ·simp only [Cmp.lT]; rw [HLO.out, HT.out]
       ·simp only [Cmp.lN]; rw [if_pos HHI.out, HZ.out]
      ·have hx0b : (x != 0) = true := by simpa using hx0
       go_wp2_with fail
       exact gc_ret (U := U) Tryz.results114 rfl rfl (Nat.le_of_eq HUS.out) HH.out H3.out HK3.out HU3.out ⟨_, _, _, rfl⟩ (by rw [HLK.out]; exact HX.out) (fun hz => absurd hz hx0)
  ·have h15i : ¬ (hi : Int) = 15 := by omega
   have hhw : IntKind.i32.wrap (hi : Nat) = (hi : Nat) := by rw [i32_w32]; simp only [wrap32]; omega
   have HN15 := hdd h15
   by_cases hl0 : lo = 0
   ·subst hl0
    go_wp2_with fail
    exact gc_ret (U := U) Tryz.results114 rfl rfl (Nat.le_of_eq HUS.out) HH.out H1.out HK.out HU.out ⟨_, _, _, rfl⟩ (.inl rfl) (fun hz => by cases hz)
   ·have hl0i : ¬ (lo : Int) = 0 := by omega
    go_wp2_with fail
    refine (ctype_at _ _).mono ?_
    rintro e w2' ⟨rfl, rfl⟩
    obtain ⟨t, ht⟩ : ∃ t, ctype (lo : Nat) = t := ⟨_, rfl⟩
    rw [ht]
    have HT := hdd (show cty lo = t by rw [← ht]; exact (ctype_cty lo hlo16).symm)
    clear ht
    by_cases ht0 : t = 0
    ·subst ht0
     go_wp2_with fail
     refine gc_ret (U := U) Tryz.results114 rfl rfl (Nat.le_of_eq HUS.out) HH.out H1.out HK.out HU.out ⟨_, _, _, rfl⟩ (.inr (.inl ⟨rfl, ?_, Cmp.lK_lt _ _⟩)) (fun hz => by cases hz)
     simp only [Cmp.lK]
     rw [HHI.out, if_neg HN15.out, HLO.out, if_neg (ctyK_ne lo hlo16 hl0 HT.out)]
     decide
    ·go_wp2_with fail
     refine (rd_many1 H1.out.p (hi : Nat) t (by omega) (by omega)).mono ?_
     rintro e w3 ⟨x, rfl, hx, hk3⟩
     have HU3 := hdd ((hk3.block U (lt_of_heap HU.out) id).trans HU.out)
     have HK3 := hdd (HK.out.then (hk3.weak (fun _ _ x => x.elim)))
     have H3 := hdd (H1.out.fresh hk3)
     have HX := hdd (show Sk (contK (hi : Nat) (minCmp t) r.length c) x from hx)
     have HLK : Hid (Cmp.lK c ⟨b :: r, last, outer, pend, val⟩ = contK (hi : Nat) (minCmp t) r.length c) := hdd (by
      simp only [Cmp.lK]
      rw [HHI.out, if_neg HN15.out, HLO.out, if_pos (ctyK_zero lo hlo16 (by rw [HT.out]; exact ht0)), HT.out])
     obtain ⟨u0, u1, u2, u3, u4, u5, u6⟩ := got_cells HU3.out
     obtain ⟨f0, f1, f2, f3, f4, f5, f6⟩ := got_free HU3.out
     clear hx
     by_cases hx0 : x = 0
     ·subst hx0
      have hzw : IntKind.i64.wrap (hi : Nat) = (hi : Nat) := IntWalk.i64_in _ (by omega)
      go_wp2_with fail
      refine gc_ret (U := U) Tryz.results114 rfl rfl (Nat.le_of_eq HUS.out) HH.out H3.out HK3.out HU3.out ⟨_, _, _, rfl⟩ (by rw [HLK.out]; exact HX.out) (fun _ => ⟨?_, ?_, rfl, ?_, rfl, rfl, BytesAt.nil _ _⟩)
      ·simp only [Cmp.lS]; rw [HHI.out, if_neg HN15.out]; rfl
      ·simp only [Cmp.lT]; rw [HLO.out, HT.out]
      ·simp only [Cmp.lN]; rw [HHI.out, if_neg HN15.out]
     ·have hx0b : (x != 0) = true := by simpa using hx0
      go_wp2_with fail
      exact gc_ret (U := U) Tryz.results114 rfl rfl (Nat.le_of_eq HUS.out) HH.out H3.out HK3.out HU3.out ⟨_, _, _, rfl⟩ (by rw [HLK.out]; exact HX.out) (fun hz => absurd hz hx0)
end
section
variable {R TB DT : Nat} {c : Cfg} {n : Int} {s s2 s' : Cmp.St} {fv : Value} {v v2 : Int} {w w1 w' : World}
set_option maxRecDepth 100000 in
theorem c_map (h : RdC R TB DT c n s fv v w) :
  Calls Tryz.prog 113 #[.pointer (some ⟨R, 0, none⟩)] w (GC R TB DT c n s fv w (Cmp.mK c s) (Cmp.mS s) (Cmp.mT s) (Cmp.mKT s) (v32 s.rem) 0 0 []) := by
 have hcb := Cfg.cont_bd h.p.cok
 obtain ⟨rem, last, outer, pend, val⟩ := s
 have hk0 : Keep (fun _ => False) w (w.alloc (.cells zGot 75)) := (Keep.refl _ w).alloc _
 have hU0 := heap_alloc_new w (.cells zGot 75)
 have hTU := h.ltT
 have HH := hdd h
 have hc0 : contK 0 2 (vR rem).length c = 0 := by
  have hm : ¬ c.maxMsg < 0 := by
   have := h.p.cok
   unfold Cfg.maxMsg
   split
   ·decide
   ·split
    ·decide
    ·omega
  unfold contK
  rw [if_neg (by omega), if_neg (by omega), if_neg (by omega), if_neg (by omega), if_neg (by omega)]
 have HC0 := hdd hc0
 clear hc0
 go_enter Tryz.func113, Tryz.ntmps113
 go_wp2_with fail
 have hsA : (w.alloc (.cells zGot 75)).heap.size = w.heap.size + 1 := by simp
 generalize w.alloc (.cells zGot 75) = wA at *
 obtain ⟨U, hU⟩ : ∃ U, w.heap.size = U := ⟨_, rfl⟩
 rw [hU] at hU0 hTU hsA ⊢
 have HUS := hdd hU
 clear hU
 have hA := h.fresh hk0
 refine (rd_sized hA.p).mono ?_
 rintro e w1 ⟨z, x, r1, rfl, hp1, hl1, hk1, hx, hz0, hz1⟩
 have h1 := hA.took hp1 hk1
 have hk01 : Keep (RT R TB) w w1 := (hk0.weak (fun _ _ x => x.elim)).then (hk1.weak (fun _ _ x => .inr x))
 have HU := hdd ((hk1.block U (lt_of_heap hU0) (by omega)).trans hU0)
 have HK := hdd hk01
 have H1 := hdd h1
 obtain ⟨u0, u1, u2, u3, u4, u5, u6⟩ := got_cells HU.out
 obtain ⟨f0, f1, f2, f3, f4, f5, f6⟩ := got_free HU.out
 clear hk01 h1 hU0 hp1
 rcases hx with rfl | ⟨rfl, hv⟩ | ⟨rfl, hv, hz, hzz, hr⟩
 ·go_wp2_with fail
  exact gc_ret (U := U) Tryz.results113 rfl rfl (Nat.le_of_eq HUS.out) HH.out H1.out HK.out HU.out ⟨_, _, _, rfl⟩ (.inl rfl) (fun hz => by cases hz)
 ·have HV := hdd (show vK rem ≠ 0 ∨ vK rem = 0 ∧ v32 rem < 0 from hv)
  clear hv
  go_wp2_with fail
  refine gc_ret (U := U) Tryz.results113 rfl rfl (Nat.le_of_eq HUS.out) HH.out H1.out HK.out HU.out ⟨_, _, _, rfl⟩ (.inr (.inl ⟨rfl, ?_, Cmp.mK_lt _ _⟩)) (fun hz => by cases hz)
  simp only [Cmp.mK]
  rcases HV.out with hv | ⟨hv, hn⟩
  ·rw [if_neg hv]; exact pk_ne hv
  ·rw [if_pos hv, if_neg (by omega)]
   split
   ·decide
   ·simp [contK, hn]
 ·have HV := hdd (show vK rem = 0 from hv)
  have HZ := hdd (show z = v32 rem from hz)
  have HR := hdd (show r1 = vR rem from hr)
  clear hv hz hr
  by_cases hz00 : z = 0
  ·subst hz00
   go_wp2_with fail
   refine gc_ret (U := U) Tryz.results113 rfl rfl (Nat.le_of_eq HUS.out) HH.out H1.out HK.out HU.out ⟨_, _, _, rfl⟩ (.inr (.inr ?_)) (fun _ => ⟨?_, ?_, ?_, HZ.out, rfl, rfl, BytesAt.nil _ _⟩)
   ·simp only [Cmp.mK]; rw [if_pos HV.out, if_pos HZ.out.symm, HC0.out]
   ·simp only [Cmp.mS]; rw [if_pos HZ.out.symm, HR.out]
   ·simp only [Cmp.mT]; rw [if_pos HZ.out.symm]
   ·simp only [Cmp.mKT]; rw [if_pos HZ.out.symm]
  ·have HZ0 := hdd (show ¬ v32 rem = 0 by rw [← HZ.out]; exact hz00)
   go_wp2_with fail
   refine (rd_byte H1.out.p).mono ?_
   rintro e w2 ⟨b0, x, rfl, hx, hp2, hk2, hb⟩
   have HK2 := hdd (HK.out.then (hk2.weak (fun _ _ x => .inr x)))
   have H2 := hdd (H1.out.took hp2 hk2)
   have hUk := (hk2.block U (lt_of_heap HU.out) (by omega)).trans HU.out
   have HU2 := hdd hUk
   obtain ⟨u0, u1, u2, u3, u4, u5, u6⟩ := got_cells HU2.out
   obtain ⟨f0, f1, f2, f3, f4, f5, f6⟩ := got_free HU2.out
   clear hp2 hUk
   cases r1 with
   | nil =>
    have hx1 : x = -1 := by rcases hx with ⟨hx, _⟩ | ⟨_, hx⟩; exact hx; exact absurd rfl hx
    subst hx1
    clear hx hb
    go_wp2_with fail
    refine gc_ret (U := U) Tryz.results113 rfl rfl (Nat.le_of_eq HUS.out) HH.out H2.out HK2.out HU2.out ⟨_, _, _, rfl⟩ (.inr (.inl ⟨rfl, ?_, Cmp.mK_lt _ _⟩)) (fun hz => by cases hz)
    simp only [Cmp.mK]
    rw [if_pos HV.out, if_neg HZ0.out, ← HR.out]
    show (1 : Int) ≠ 0
    decide
   | cons b r =>
    have hx1 : x = 0 := by rcases hx with ⟨_, hx⟩ | ⟨hx, _⟩; cases hx; exact hx
    subst hx1
    have hb0 := hb b r rfl
    subst hb0
    have hb8 := b.toNat_lt
    clear hx hb
    have hm := u8_and15 b
    obtain ⟨lo, hlo⟩ : ∃ lo, b.toNat % 16 = lo := ⟨_, rfl⟩
    obtain ⟨hi, hhi⟩ : ∃ hi, b.toNat / 16 = hi := ⟨_, rfl⟩
    have hhc : (b.toNat : Int) / 16 = (hi : Nat) := by omega
    rw [hlo] at hm
    have HLO := hdd hlo
    have HHI := hdd hhi
    have hlo16 : lo < 16 := by omega
    have hhi16 : hi < 16 := by omega
    clear hlo hhi
    by_cases hl0 : lo = 0
    ·subst hl0
     go_wp2_with fail
     exact gc_ret (U := U) Tryz.results113 rfl rfl (Nat.le_of_eq HUS.out) HH.out H2.out HK2.out HU2.out ⟨_, _, _, rfl⟩ (.inl rfl) (fun hz => by cases hz)
    ·have hl0i : ((lo : Int) == 0) = false := by simpa using (show ¬ (lo : Int) = 0 by omega)
     by_cases hh0 : hi = 0
     ·subst hh0
      go_wp2_with fail
      exact gc_ret (U := U) Tryz.results113 rfl rfl (Nat.le_of_eq HUS.out) HH.out H2.out HK2.out HU2.out ⟨_, _, _, rfl⟩ (.inl rfl) (fun hz => by cases hz)
     ·have hh0i : ((hi : Int) == 0) = false := by simpa using (show ¬ (hi : Int) = 0 by omega)
      go_wp2_with fail
      refine (ctype_at _ _).mono ?_
      rintro e w3 ⟨rfl, rfl⟩
      go_wp2_with fail
      refine (ctype_at _ _).mono ?_
      rintro e w3 ⟨rfl, rfl⟩
      obtain ⟨t, ht⟩ : ∃ t, ctype (lo : Nat) = t := ⟨_, rfl⟩
      obtain ⟨kt, hkt⟩ : ∃ kt, ctype (hi : Nat) = kt := ⟨_, rfl⟩
      rw [ht, hkt]
      have HT := hdd (show cty lo = t by rw [← ht]; exact (ctype_cty lo hlo16).symm)
      have HKT := hdd (show cty hi = kt by rw [← hkt]; exact (ctype_cty hi hhi16).symm)
      clear ht hkt
      by_cases hkt0 : kt = 0
      ·subst hkt0
       go_wp2_with fail
       exact gc_ret (U := U) Tryz.results113 rfl rfl (Nat.le_of_eq HUS.out) HH.out H2.out HK2.out HU2.out ⟨_, _, _, rfl⟩ (.inl rfl) (fun hz => by cases hz)
      ·have hkt0b : (kt == 0) = false := by simpa using hkt0
       by_cases ht0 : t = 0
       ·subst ht0
        go_wp2_with fail
        exact gc_ret (U := U) Tryz.results113 rfl rfl (Nat.le_of_eq HUS.out) HH.out H2.out HK2.out HU2.out ⟨_, _, _, rfl⟩ (.inl rfl) (fun hz => by cases hz)
       ·have ht0b : (t == 0) = false := by simpa using ht0
        go_wp2_with fail
        refine (rd_many2 H2.out.p z kt t hkt0 hz0 hz1).mono ?_
        rintro e w3 ⟨x, rfl, hx, hk3⟩
        have HU3 := hdd ((hk3.block U (lt_of_heap HU2.out) id).trans HU2.out)
        have HK3 := hdd (HK2.out.then (hk3.weak (fun _ _ x => x.elim)))
        have H3 := hdd (H2.out.fresh hk3)
        have HX := hdd (show Sk (contK z (minCmp kt + minCmp t) r.length c) x from hx)
        have HMK : Hid (Cmp.mK c ⟨rem, last, outer, pend, val⟩ = contK z (minCmp kt + minCmp t) r.length c) := hdd (by
         simp only [Cmp.mK]
         rw [if_pos HV.out, if_neg HZ0.out, ← HR.out]
         simp only []
         rw [HLO.out, HHI.out, HT.out, HKT.out, ← HZ.out])
        obtain ⟨u0, u1, u2, u3, u4, u5, u6⟩ := got_cells HU3.out
        obtain ⟨f0, f1, f2, f3, f4, f5, f6⟩ := got_free HU3.out
        clear hx
        by_cases hx0 : x = 0
        ·subst hx0
         have hzw : IntKind.i64.wrap z = z := IntWalk.i64_in _ (by omega)
         go_wp2_with fail
         refine gc_ret (U := U) Tryz.results113 rfl rfl (Nat.le_of_eq HUS.out) HH.out H3.out HK3.out HU3.out ⟨_, _, _, rfl⟩ (by rw [HMK.out]; exact HX.out) (fun _ => ⟨?_, ?_, ?_, HZ.out, rfl, rfl, BytesAt.nil _ _⟩)
         ·simp only [Cmp.mS]; rw [if_neg HZ0.out, ← HR.out]
         ·simp only [Cmp.mT]; rw [if_neg HZ0.out, ← HR.out]; simp only []; rw [HLO.out, HT.out]
         ·simp only [Cmp.mKT]; rw [if_neg HZ0.out, ← HR.out]; simp only []; rw [HHI.out, HKT.out]
        ·have hx0b : (x != 0) = true := by simpa using hx0
         go_wp2_with fail
         exact gc_ret (U := U) Tryz.results113 rfl rfl (Nat.le_of_eq HUS.out) HH.out H3.out HK3.out HU3.out ⟨_, _, _, rfl⟩ (by rw [HMK.out]; exact HX.out) (fun hz => absurd hz hx0)
end
theorem i16_wrap_bdC (n : Int) : -32768 ≤ IntKind.i16.wrap n ∧ IntKind.i16.wrap n ≤ 32767 := by
 have e : IntKind.i16.wrap n = if n % 65536 ≥ 32768 then n % 65536 - 65536 else n % 65536 := by
  simp [IntKind.wrap, IntKind.bits, IntKind.signed]
 rw [e]
 split <;> omega
theorem cty_two_fin : ∀ m : Fin 16, cty m.val = 2 ↔ m.val = 1 ∨ m.val = 2 := by decide +kernel
theorem cty_two (m : Nat) (h : m < 16) : cty m = 2 ↔ m = 1 ∨ m = 2 := cty_two_fin ⟨m, h⟩
theorem i16_wrap_add (a b : Int) : IntKind.i16.wrap (IntKind.i16.wrap a + b) = IntKind.i16.wrap (a + b) := by
 rw [i16_wr, i16_wr, i16_wr]
 split <;> split <;> split <;> omega
theorem set_otherC {w : World} {U R : Nat} {o : Obj} (h : w.heap[U]? = some o) (hne : ¬ U = R) (i : Nat) (x : Value) : (w.setCell ⟨R, i, none⟩ x).heap[U]? = some o :=
 (((Keep.refl (fun j => R = j) w).set R i (fun _ => rfl) x).block U (lt_of_heap h) (fun e => hne e.symm)).trans h
section
variable {R TB DT : Nat} {c : Cfg} {n : Int} {s s2 s' : Cmp.St} {fv : Value} {v v2 : Int} {w w1 w' : World}
theorem setB_keep (w : World) (R : Nat) (x y z : Value) : Keep (fun i => R = i) w (((w.setCell ⟨R, 9, none⟩ x).setCell ⟨R, 11, none⟩ y).setCell ⟨R, 12, none⟩ z) :=
 (((Keep.refl _ w).set R 9 (fun _ => rfl) _).set R 11 (fun _ => rfl) _).set R 12 (fun _ => rfl) _
theorem setB_other {w : World} {U R : Nat} {o : Obj} (h : w.heap[U]? = some o) (hne : ¬ U = R) (x y z : Value) : (((w.setCell ⟨R, 9, none⟩ x).setCell ⟨R, 11, none⟩ y).setCell ⟨R, 12, none⟩ z).heap[U]? = some o :=
 ((setB_keep w R x y z).block U (lt_of_heap h) (fun e => hne e.symm)).trans h
theorem RdC.setR {s9 : Cmp.St} {v9 : Int} (h : RdC R TB DT c n s fv v w) (k : Keep (fun i => R = i) w w') (hrem : s9.rem = s.rem) (hout : s9.outer = s.outer) (hb : w'.heap[R]? = some (.cells (.int .i64 1 :: .bool c.plain :: .bool c.sr :: .bool c.sw :: .int .i32 c.msg :: .int .i32 c.cont :: .int .i32 c.frame :: .pointer (some ⟨TB, 0, none⟩) :: .int .i64 n :: crT s9 fv v9).toArray 216 (0, 0)))
  (hv : s9.pend = true → v9 = if s9.val = true then 1 else 0) (hl : -32768 ≤ s9.last ∧ s9.last ≤ 32767) (hRD : ¬ R = DT) : RdC R TB DT c n s9 fv v9 w' :=
 ⟨⟨hb, hrem ▸ h.p.tube.keep k (fun e => h.p.ne e) (fun _ => hRD), h.p.ne, h.p.cok, hrem ▸ h.p.size⟩, hv, hout ▸ h.row.keep k (fun i e x => (h.row.lt i e).1 (.inl x.symm)), hl, hout ▸ h.out16, Nat.lt_of_lt_of_le h.dlt k.size, h.neD⟩
theorem RdC.setF (h : RdC R TB DT c n s fv v w) (id : Int) (hid : -32768 ≤ id ∧ id ≤ 32767) : RdC R TB DT c n { s with last := id } fv v (w.setCell ⟨R, 9, none⟩ (.int .i64 id)) :=
 h.setR ((Keep.refl _ w).set R 9 (fun _ => rfl) _) rfl rfl (by have := heap_set_same (i := 9) h.p.blk (.int .i64 id); simpa using this) h.val hid h.neD
theorem RdC.setB (h : RdC R TB DT c n s fv v w) (id : Int) (hid : -32768 ≤ id ∧ id ≤ 32767) (bv : Bool) (v9 : Int) (hv : v9 = if bv = true then 1 else 0) : RdC R TB DT c n { s with last := id, pend := true, val := bv } fv v9 (((w.setCell ⟨R, 9, none⟩ (.int .i64 id)).setCell ⟨R, 11, none⟩ (.bool true)).setCell ⟨R, 12, none⟩ (.int .i64 v9)) :=
 h.setR (setB_keep _ _ _ _ _) rfl rfl (by have := heap_set_same (i := 12) (heap_set_same (i := 11) (heap_set_same (i := 9) h.p.blk (.int .i64 id)) (.bool true)) (.int .i64 v9); simpa using this) (fun _ => hv) hid h.neD
set_option maxRecDepth 100000 in
theorem c_field (h : RdC R TB DT c n s fv v w) :
  Calls Tryz.prog 112 #[.pointer (some ⟨R, 0, none⟩)] w (GC R TB DT c n s fv w (Cmp.fK s) (Cmp.fS s) (Cmp.fT s) 0 0 (Cmp.fI s) 0 []) := by
 obtain ⟨rem, last, outer, pend, val⟩ := s
 have hk0 : Keep (fun _ => False) w (w.alloc (.cells zGot 75)) := (Keep.refl _ w).alloc _
 have hU0 := heap_alloc_new w (.cells zGot 75)
 have hTU := h.ltT
 have hRU := h.ltR
 have HH := hdd h
 go_enter Tryz.func112, Tryz.ntmps112
 go_wp2_with fail
 have hsA : (w.alloc (.cells zGot 75)).heap.size = w.heap.size + 1 := by simp
 generalize w.alloc (.cells zGot 75) = wA at *
 obtain ⟨U, hU⟩ : ∃ U, w.heap.size = U := ⟨_, rfl⟩
 rw [hU] at hU0 hTU hRU hsA ⊢
 have HUS := hdd hU
 clear hU
 have hA := h.fresh hk0
 refine (rd_byte hA.p).mono ?_
 rintro e w1 ⟨b0, x, rfl, hx, hp1, hk1, hb⟩
 have h1 := hA.took hp1 hk1
 have hk01 : Keep (RT R TB) w w1 := (hk0.weak (fun _ _ x => x.elim)).then (hk1.weak (fun _ _ x => .inr x))
 have HU := hdd ((hk1.block U (lt_of_heap hU0) (by omega)).trans hU0)
 have HK := hdd hk01
 have H1 := hdd h1
 obtain ⟨u0, u1, u2, u3, u4, u5, u6⟩ := got_cells HU.out
 obtain ⟨f0, f1, f2, f3, f4, f5, f6⟩ := got_free HU.out
 clear hk01 h1 hU0 hp1
 cases rem with
 | nil =>
  have hx1 : x = -1 := by rcases hx with ⟨hx, _⟩ | ⟨_, hx⟩; exact hx; exact absurd rfl hx
  subst hx1
  clear hx hb
  go_wp2_with fail
  exact gc_ret (U := U) Tryz.results112 rfl rfl (Nat.le_of_eq HUS.out) HH.out H1.out HK.out HU.out ⟨_, _, _, rfl⟩ (.inr (.inl ⟨rfl, by simp [Cmp.fK], Cmp.fK_lt _⟩)) (fun hz => by cases hz)
 | cons b r =>
  have hx1 : x = 0 := by rcases hx with ⟨_, hx⟩ | ⟨hx, _⟩; cases hx; exact hx
  subst hx1
  have hb0 := hb b r rfl
  subst hb0
  have hb8 := b.toNat_lt
  clear hx hb
  by_cases hz : b.toNat = 0
  ·have hzi : (b.toNat : Int) = 0 := by omega
   have HZ := hdd hz
   clear hz
   go_wp2_with fail
   exact gc_ret (U := U) Tryz.results112 rfl rfl (Nat.le_of_eq HUS.out) HH.out H1.out HK.out HU.out ⟨_, _, _, rfl⟩ (.inr (.inr (by simp [Cmp.fK, HZ.out]))) (fun _ => ⟨by simp [Cmp.fS, HZ.out], by simp [Cmp.fT, HZ.out], rfl, rfl, by simp [Cmp.fI, HZ.out], rfl, BytesAt.nil _ _⟩)
  ·have hzi : ((b.toNat : Int) == 0) = false := by simpa using (show ¬ (b.toNat : Int) = 0 by omega)
   have hm := u8_and15 b
   obtain ⟨lo, hlo⟩ : ∃ lo, b.toNat % 16 = lo := ⟨_, rfl⟩
   obtain ⟨hi, hhi⟩ : ∃ hi, b.toNat / 16 = hi := ⟨_, rfl⟩
   have hhc : (b.toNat : Int) / 16 = (hi : Nat) := by omega
   rw [hlo] at hm
   have HLO := hdd hlo
   have HHI := hdd hhi
   have hlo16 : lo < 16 := by omega
   have hhi16 : hi < 16 := by omega
   have hb16 : (b.toNat : Int) = 16 * (hi : Int) + (lo : Int) := by omega
   clear hlo hhi hz
   by_cases hl0 : lo = 0
   ·subst hl0
    go_wp2_with fail
    exact gc_ret (U := U) Tryz.results112 rfl rfl (Nat.le_of_eq HUS.out) HH.out H1.out HK.out HU.out ⟨_, _, _, rfl⟩ (.inl rfl) (fun hz => by cases hz)
   ·have hl0i : ((lo : Int) == 0) = false := by simpa using (show ¬ (lo : Int) = 0 by omega)
    have hl16 := HH.out.last16
    simp only [] at hl16
    have hlw : IntKind.i64.wrap (last + (hi : Nat)) = last + (hi : Nat) := IntWalk.i64_in _ (by omega)
    have hhw : IntKind.i64.wrap (hi : Nat) = (hi : Nat) := IntWalk.i64_in _ (by omega)
    obtain ⟨c9, c10, c11, c12⟩ := H1.out.ccells
    have HFT : Hid (Cmp.fT ⟨b :: r, last, outer, pend, val⟩ = cty lo) := hdd (by simp only [Cmp.fT]; rw [HLO.out, if_neg hl0])
    by_cases hh0 : hi = 0
    ·subst hh0
     have hlt : decide ((b.toNat : Int) < 16) = true := by simpa using (show (b.toNat : Int) < 16 by omega)
     clear hb16
     go_wp2_with fail
     refine (rd_varint H1.out.p 32 (.inl rfl)).mono ?_
     rintro e w2 ⟨N, x, r', rfl, hp2, hl2, hk2, hx, hN⟩
     have HKQ := hdd (HK.out.then (hk2.weak (fun _ _ x => .inr x)))
     have HQ := hdd (H1.out.took hp2 hk2)
     have HUQ := hdd ((hk2.block U (lt_of_heap HU.out) (by omega)).trans HU.out)
     obtain ⟨u0, u1, u2, u3, u4, u5, u6⟩ := got_cells HUQ.out
     obtain ⟨f0, f1, f2, f3, f4, f5, f6⟩ := got_free HUQ.out
     clear hp2 c9 c10 c11 c12
     rcases hx with ⟨rfl, rfl⟩ | ⟨rfl, rfl, hv⟩ | ⟨rfl, hv, hn, hr⟩
     ·go_wp2_with fail
      exact gc_ret (U := U) Tryz.results112 rfl rfl (Nat.le_of_eq HUS.out) HH.out HQ.out HKQ.out HUQ.out ⟨_, _, _, rfl⟩ (.inl rfl) (fun hz => by cases hz)
     ·have HV := hdd (show vK r ≠ 0 from hv)
      clear hv
      go_wp2_with fail
      refine gc_ret (U := U) Tryz.results112 rfl rfl (Nat.le_of_eq HUS.out) HH.out HQ.out HKQ.out HUQ.out ⟨_, _, _, rfl⟩ (.inr (.inl ⟨rfl, ?_, Cmp.fK_lt _⟩)) (fun hz => by cases hz)
      simp only [Cmp.fK]
      rw [HLO.out, if_neg hl0, if_pos HHI.out, if_neg HV.out]
      exact pk_ne HV.out
     ·have HV := hdd (show vK r = 0 from hv)
      have HN := hdd (show N = vN r from hn)
      have HR := hdd (show r' = vR r from hr)
      have hN : N < 4294967296 := hN
      have hnw : IntKind.u32.wrap (N : Nat) = (N : Nat) := by rw [u32_wr]; omega
      clear hv hn hr
      go_wp2_with fail
      refine (uzig32_at N hN _).mono ?_
      rintro e w2' ⟨rfl, rfl⟩
      obtain ⟨id, hidd⟩ : ∃ id, zz N = id := ⟨_, rfl⟩
      have hidb := zz_bd N 2147483648 (by omega)
      rw [hidd] at hidb
      rw [hidd]
      have hidw : IntKind.i64.wrap id = id := IntWalk.i64_in _ (by omega)
      have HFI : Hid (Cmp.fI ⟨b :: r, last, outer, pend, val⟩ = IntKind.i16.wrap id) := hdd (by simp only [Cmp.fI]; rw [HLO.out, if_neg hl0, if_pos HHI.out, z32, ← HN.out, Nat.mod_eq_of_lt hN, hidd])
      have HFK : Hid ((ctyK lo = 0 → Cmp.fK ⟨b :: r, last, outer, pend, val⟩ = 0) ∧ (ctyK lo ≠ 0 → Cmp.fK ⟨b :: r, last, outer, pend, val⟩ ≠ 0)) := hdd (by simp only [Cmp.fK]; rw [HLO.out, if_neg hl0, if_pos HHI.out, if_pos HV.out]; exact ⟨fun h => h, fun h => h⟩)
      have HFS : Hid (IntKind.i16.wrap id = id → Cmp.fS ⟨b :: r, last, outer, pend, val⟩ = { rem := r', last := id, outer := outer, pend := if lo = 1 ∨ lo = 2 then true else pend, val := if lo = 1 ∨ lo = 2 then lo == 1 else val }) := hdd (fun e => by
       have := HFI.out
       simp only [Cmp.fS]; rw [HLO.out, if_neg hl0, if_pos HHI.out, this, e, HR.out])
      clear hidd hidb hN hnw
      go_wp2_with fail
      refine (ctype_at _ _).mono ?_
      rintro e w3 ⟨rfl, rfl⟩
      obtain ⟨t, ht⟩ : ∃ t, ctype (lo : Nat) = t := ⟨_, rfl⟩
      rw [ht]
      have HT := hdd (show cty lo = t by rw [← ht]; exact (ctype_cty lo hlo16).symm)
      clear ht
      by_cases ht0 : t = 0
      ·subst ht0
       go_wp2_with fail
       exact gc_ret (U := U) Tryz.results112 rfl rfl (Nat.le_of_eq HUS.out) HH.out HQ.out HKQ.out HUQ.out ⟨_, _, _, rfl⟩ (.inr (.inl ⟨rfl, HFK.out.2 (ctyK_ne lo hlo16 hl0 HT.out), Cmp.fK_lt _⟩)) (fun hz => by cases hz)
      ·have HFK0 := hdd (HFK.out.1 (ctyK_zero lo hlo16 (by rw [HT.out]; exact ht0)))
       have hw2 : IntKind.i64.wrap (IntKind.i16.wrap id) = IntKind.i16.wrap id := IntWalk.i64_in _ (by have := i16_wrap_bdC id; omega)
       by_cases hid : IntKind.i16.wrap id = id
       ·have hib := i16_wrap_bdC id
        rw [hid] at hib
        have HID := hdd hid
        have HIB := hdd hib
        have f9 := cell_free HQ.out.p.blk 9
        have f11 := cell_free HQ.out.p.blk 11
        have f12 := cell_free HQ.out.p.blk 12
        obtain ⟨c9, c10, c11, c12⟩ := HQ.out.ccells
        by_cases ht2 : t = 2
        ·subst ht2
         have hlo2 : lo = 1 ∨ lo = 2 := (cty_two lo hlo16).1 HT.out
         obtain ⟨q, hq⟩ : ∃ q, b.toNat % 2 = q := ⟨_, rfl⟩
         have hm1 := u8_and1 b
         rw [hq] at hm1
         have hqw : IntKind.i64.wrap (q : Nat) = (q : Nat) := IntWalk.i64_in _ (by omega)
         have HLO2 := hdd hlo2
         have HQV : Hid (((q : Nat) : Int) = if (lo == 1) = true then 1 else 0) := hdd (by
          have := HLO.out
          rcases hlo2 with rfl | rfl
          ·simp; omega
          ·simp; omega)
         clear hq hlo2
         go_wp2_with fail
         exact gc_ret (U := U) Tryz.results112 rfl rfl (Nat.le_of_eq HUS.out) HH.out (HQ.out.setB id HIB.out (lo == 1) _ HQV.out) (HKQ.out.trans (setB_keep _ _ _ _ _) (fun i _ e => .inl e)) (setB_other HUQ.out (fun e => by omega) _ _ _) ⟨_, _, _, rfl⟩ (.inr (.inr HFK0.out.symm)) (fun _ => ⟨by rw [HFS.out HID.out, if_pos HLO2.out, if_pos HLO2.out] <;> rfl, HFT.out.symm ▸ HT.out.symm, rfl, rfl, HFI.out ▸ HID.out.symm, rfl, BytesAt.nil _ _⟩)
        ·have hlo2 : ¬ (lo = 1 ∨ lo = 2) := fun e => ht2 (by rw [← HT.out]; exact (cty_two lo hlo16).2 e)
         have HLO2 := hdd hlo2
         have ht2b : (t == 2) = false := by simpa using ht2
         clear hlo2
         go_wp2_with fail
         exact gc_ret (U := U) Tryz.results112 rfl rfl (Nat.le_of_eq HUS.out) HH.out (HQ.out.setF id HIB.out) (HKQ.out.trans ((Keep.refl (fun i => R = i) _).set R 9 (fun _ => rfl) _) (fun i _ e => .inl e)) (set_otherC HUQ.out (fun e => by omega) _ _) ⟨_, _, _, rfl⟩ (.inr (.inr HFK0.out.symm)) (fun _ => ⟨by rw [HFS.out HID.out, if_neg HLO2.out, if_neg HLO2.out] <;> rfl, HFT.out.symm ▸ HT.out.symm, rfl, rfl, HFI.out ▸ HID.out.symm, rfl, BytesAt.nil _ _⟩)
       ·have hidb : (id != IntKind.i16.wrap id) = true := by simpa using (fun e : id = IntKind.i16.wrap id => hid e.symm)
        go_wp2_with fail
        exact gc_ret (U := U) Tryz.results112 rfl rfl (Nat.le_of_eq HUS.out) HH.out HQ.out HKQ.out HUQ.out ⟨_, _, _, rfl⟩ (.inl rfl) (fun hz => by cases hz)
    ·have hlt : decide ((b.toNat : Int) < 16) = false := by simpa using (show ¬ (b.toNat : Int) < 16 by omega)
     obtain ⟨id, hidd⟩ : ∃ id, last + (hi : Nat) = id := ⟨_, rfl⟩
     have HN0 := hdd hh0
     have HFI : Hid (Cmp.fI ⟨b :: r, last, outer, pend, val⟩ = IntKind.i16.wrap id) := hdd (by simp only [Cmp.fI]; rw [HLO.out, if_neg hl0, HHI.out, if_neg hh0, i16_wrap_add, hidd])
     have HFK : Hid ((ctyK lo = 0 → Cmp.fK ⟨b :: r, last, outer, pend, val⟩ = 0) ∧ (ctyK lo ≠ 0 → Cmp.fK ⟨b :: r, last, outer, pend, val⟩ ≠ 0)) := hdd (by simp only [Cmp.fK]; rw [HLO.out, if_neg hl0, HHI.out, if_neg hh0]; exact ⟨fun h => h, fun h => h⟩)
     have HFS : Hid (IntKind.i16.wrap id = id → Cmp.fS ⟨b :: r, last, outer, pend, val⟩ = { rem := r, last := id, outer := outer, pend := if lo = 1 ∨ lo = 2 then true else pend, val := if lo = 1 ∨ lo = 2 then lo == 1 else val }) := hdd (fun e => by
      have := HFI.out
      simp only [Cmp.fS]; rw [HLO.out, if_neg hl0, HHI.out, if_neg hh0, this, e])
     have HKQ := HK
     have HQ := H1
     have HUQ := HU
     rw [hidd] at hlw
     clear hb16 hh0
     go_wp2_with fail
     refine (ctype_at _ _).mono ?_
     rintro e w3 ⟨rfl, rfl⟩
     obtain ⟨t, ht⟩ : ∃ t, ctype (lo : Nat) = t := ⟨_, rfl⟩
     rw [ht]
     have HT := hdd (show cty lo = t by rw [← ht]; exact (ctype_cty lo hlo16).symm)
     clear ht
     by_cases ht0 : t = 0
     ·subst ht0
      go_wp2_with fail
      exact gc_ret (U := U) Tryz.results112 rfl rfl (Nat.le_of_eq HUS.out) HH.out HQ.out HKQ.out HUQ.out ⟨_, _, _, rfl⟩ (.inr (.inl ⟨rfl, HFK.out.2 (ctyK_ne lo hlo16 hl0 HT.out), Cmp.fK_lt _⟩)) (fun hz => by cases hz)
     ·have HFK0 := hdd (HFK.out.1 (ctyK_zero lo hlo16 (by rw [HT.out]; exact ht0)))
      have hw2 : IntKind.i64.wrap (IntKind.i16.wrap id) = IntKind.i16.wrap id := IntWalk.i64_in _ (by have := i16_wrap_bdC id; omega)
      by_cases hid : IntKind.i16.wrap id = id
      ·have hib := i16_wrap_bdC id
       rw [hid] at hib
       have HID := hdd hid
       have HIB := hdd hib
       have f9 := cell_free HQ.out.p.blk 9
       have f11 := cell_free HQ.out.p.blk 11
       have f12 := cell_free HQ.out.p.blk 12
       obtain ⟨c9, c10, c11, c12⟩ := HQ.out.ccells
       by_cases ht2 : t = 2
       ·subst ht2
        have hlo2 : lo = 1 ∨ lo = 2 := (cty_two lo hlo16).1 HT.out
        obtain ⟨q, hq⟩ : ∃ q, b.toNat % 2 = q := ⟨_, rfl⟩
        have hm1 := u8_and1 b
        rw [hq] at hm1
        have hqw : IntKind.i64.wrap (q : Nat) = (q : Nat) := IntWalk.i64_in _ (by omega)
        have HLO2 := hdd hlo2
        have HQV : Hid (((q : Nat) : Int) = if (lo == 1) = true then 1 else 0) := hdd (by
         have := HLO.out
         rcases hlo2 with rfl | rfl
         ·simp; omega
         ·simp; omega)
        clear hq hlo2
        go_wp2_with fail
        exact gc_ret (U := U) Tryz.results112 rfl rfl (Nat.le_of_eq HUS.out) HH.out (HQ.out.setB id HIB.out (lo == 1) _ HQV.out) (HKQ.out.trans (setB_keep _ _ _ _ _) (fun i _ e => .inl e)) (setB_other HUQ.out (fun e => by omega) _ _ _) ⟨_, _, _, rfl⟩ (.inr (.inr HFK0.out.symm)) (fun _ => ⟨by rw [HFS.out HID.out, if_pos HLO2.out, if_pos HLO2.out] <;> rfl, HFT.out.symm ▸ HT.out.symm, rfl, rfl, HFI.out ▸ HID.out.symm, rfl, BytesAt.nil _ _⟩)
       ·have hlo2 : ¬ (lo = 1 ∨ lo = 2) := fun e => ht2 (by rw [← HT.out]; exact (cty_two lo hlo16).2 e)
        have HLO2 := hdd hlo2
        have ht2b : (t == 2) = false := by simpa using ht2
        clear hlo2
        go_wp2_with fail
        exact gc_ret (U := U) Tryz.results112 rfl rfl (Nat.le_of_eq HUS.out) HH.out (HQ.out.setF id HIB.out) (HKQ.out.trans ((Keep.refl (fun i => R = i) _).set R 9 (fun _ => rfl) _) (fun i _ e => .inl e)) (set_otherC HUQ.out (fun e => by omega) _ _) ⟨_, _, _, rfl⟩ (.inr (.inr HFK0.out.symm)) (fun _ => ⟨by rw [HFS.out HID.out, if_neg HLO2.out, if_neg HLO2.out] <;> rfl, HFT.out.symm ▸ HT.out.symm, rfl, rfl, HFI.out ▸ HID.out.symm, rfl, BytesAt.nil _ _⟩)
      ·have hidb : (id != IntKind.i16.wrap id) = true := by simpa using (fun e : id = IntKind.i16.wrap id => hid e.symm)
       go_wp2_with fail
       exact gc_ret (U := U) Tryz.results112 rfl rfl (Nat.le_of_eq HUS.out) HH.out HQ.out HKQ.out HUQ.out ⟨_, _, _, rfl⟩ (.inl rfl) (fun hz => by cases hz)
end
end Go.Proofs.YtjekbomlpcdojaaGreatDoor
