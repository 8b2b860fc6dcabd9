/- Part 8 of the proof: Kn0, Is0. -/
import Derived.Test.YtjekbomlpcdojaaGreatDoorH7
import Derived.Deep.LoopGhost
set_option linter.unusedVariables false
set_option linter.unusedSimpArgs false
set_option linter.unusedSectionVars false
set_option maxHeartbeats 16000000
namespace Go.Proofs.YtjekbomlpcdojaaGreatDoor
open Go Go.RowKit
theorem BytesAt.cellAt' {A : Nat → Prop} {w : World} {v : Value} {l : List UInt8} (h : BytesAt A w v l) : ∃ a c, v = .slice a l.length c ∧ l.length ≤ 140737488355328 ∧ (l.length ≠ 0 → l.length ≤ c) ∧ ∀ j b, l[j]? = some b → ∃ D o, a = some ⟨D, o, none⟩ ∧ w.cell? ⟨D, o + j, none⟩ = some (.int .u8 (b.toNat : Int)) := by
 rcases h with ⟨rfl, a, c, rfl⟩ | ⟨hne, D, o, c, rfl, h1, h2, h3, h4⟩
 ·exact ⟨a, c, rfl, by simp, fun h => absurd rfl h, fun j b hj => by simp at hj⟩
 ·exact ⟨_, c, rfl, h2, fun _ => h1, fun j b hj => ⟨D, o, rfl, h4 j b hj⟩⟩
theorem equal_same {A A' : Nat → Prop} {w : World} {v1 v2 : Value} {l : List UInt8} (h1 : BytesAt A w v1 l) (h2 : BytesAt A' w v2 l) :
  Calls Tryz.prog 21 #[v1, v2] w fun e w' => e = .returned (.bool true) ∧ ∃ n, w.drewN n = w' := by
 obtain ⟨a1, c1, rfl, hl, hc1, g1⟩ := h1.cellAt'
 obtain ⟨a2, c2, rfl, _, hc2, g2⟩ := h2.cellAt'
 obtain ⟨L, hL⟩ : ∃ L, l.length = L := ⟨_, rfl⟩
 rw [hL] at hl hc1 hc2 ⊢
 have HL := hdd hL
 have G1 := hdd g1
 have G2 := hdd g2
 have HC1 := hdd hc1
 have HC2 := hdd hc2
 clear hL g1 g2 hc1 hc2
 go_enter Tryz.func21, Tryz.ntmps21
 go_wp2_with fail
 go_loopw [5] (fun i wr => ∃ k n : Nat, k ≤ L ∧ i = .int .i64 k ∧ w.drewN n = wr) (fun i _ => L - (intOf i).toNat)
 case atStart => exact ⟨0, 0, Nat.zero_le _, rfl, rfl⟩
 case round =>
  obtain ⟨k, n, hk, rfl, rfl⟩ := hrel
  by_cases hlt : k < L
  ·have hj : l[k]? = some (l[k]'(by have := HL.out; omega)) := List.getElem?_eq_getElem _
   obtain ⟨D1, o1, ha1, e1⟩ := G1.out k _ hj
   obtain ⟨D2, o2, ha2, e2⟩ := G2.out k _ hj
   generalize (l[k]'(by have := HL.out; omega)) = b at *
   subst ha1 ha2
   have hw : IntKind.i64.wrap ((k : Int) + 1) = (k : Int) + 1 := IntWalk.i64_in _ (by omega)
   have hlt' : (k : Int) < (L : Int) := by omega
   have hlc1 : L ≤ c1 := HC1.out (by omega)
   have hlc2 : L ≤ c2 := HC2.out (by omega)
   clear hj
   go_wp2_with fail
   go_quiet (fail)
   go_wp2_with fail
   go_roundw
   case rel => exact ⟨k + 1, _, by omega, by go_num, rfl⟩
   case measure => simp [intOf]; omega
  ·have hge : ¬ (k : Int) < (L : Int) := by omega
   go_wp2
   go_ret
   exact ⟨rfl, _, rfl⟩
theorem isSame_at {A A' : Nat → Prop} {w : World} {v1 v2 : Value} {l1 l2 : List UInt8} (h1 : BytesAt A w v1 l1) (h2 : BytesAt A' w v2 l2) :
  Calls Tryz.prog 84 #[v1, v2] w fun e w' => e = .returned (.bool (decide (l1 = l2))) ∧ ∃ n, w.drewN n = w' := by
 obtain ⟨a1, c1, rfl, hl, hc1, g1⟩ := h1.cellAt'
 obtain ⟨a2, c2, rfl, _, hc2, g2⟩ := h2.cellAt'
 obtain ⟨L, hL⟩ : ∃ L, l1.length = L := ⟨_, rfl⟩
 obtain ⟨L2, hL2⟩ : ∃ L2, l2.length = L2 := ⟨_, rfl⟩
 rw [hL] at hl hc1 ⊢
 rw [hL2] at hc2 ⊢
 have HL := hdd hL
 have HL2 := hdd hL2
 have G1 := hdd g1
 have G2 := hdd g2
 have HC1 := hdd hc1
 have HC2 := hdd hc2
 clear hL hL2 g1 g2 hc1 hc2
 by_cases hLL : L = L2
 ·subst hLL
  go_enter Tryz.func84, Tryz.ntmps84
  go_wp2_with fail
  go_loopw [5] (fun i wr => ∃ k n : Nat, k ≤ L ∧ i = .int .i64 k ∧ w.drewN n = wr ∧ l1.take k = l2.take k) (fun i _ => L - (intOf i).toNat)
  case atStart => exact ⟨0, 0, Nat.zero_le _, rfl, rfl, rfl⟩
  case round =>
   obtain ⟨k, n, hk, rfl, rfl, htk⟩ := hrel
   have HTK := hdd htk
   clear htk
   by_cases hlt : k < L
   ·have hj1 : l1[k]? = some (l1[k]'(by have := HL.out; omega)) := List.getElem?_eq_getElem _
    have hj2 : l2[k]? = some (l2[k]'(by have := HL2.out; omega)) := List.getElem?_eq_getElem _
    obtain ⟨D1, o1, ha1, e1⟩ := G1.out k _ hj1
    obtain ⟨D2, o2, ha2, e2⟩ := G2.out k _ hj2
    generalize (l1[k]'(by have := HL.out; omega)) = b1 at *
    generalize (l2[k]'(by have := HL2.out; omega)) = b2 at *
    subst ha1 ha2
    have hw : IntKind.i64.wrap ((k : Int) + 1) = (k : Int) + 1 := IntWalk.i64_in _ (by omega)
    have hlt' : (k : Int) < (L : Int) := by omega
    have hlc1 : L ≤ c1 := HC1.out (by omega)
    have hlc2 : L ≤ c2 := HC2.out (by omega)
    have HJ1 := hdd hj1
    have HJ2 := hdd hj2
    clear hj1 hj2
    by_cases hb : b1 = b2
    ·subst hb
     go_wp2_with fail
     go_quiet (fail)
     go_wp2_with fail
     go_roundw
     case rel => exact ⟨k + 1, _, by omega, by go_num, rfl, by rw [List.take_add_one, List.take_add_one, HTK.out, HJ1.out, HJ2.out]⟩
     case measure => simp [intOf]; omega
    ·have hne : ¬ (b1.toNat : Int) = (b2.toNat : Int) := fun e => hb (UInt8.toNat_inj.1 (by omega))
     have hnb : ((b1.toNat : Int) != (b2.toNat : Int)) = true := by simpa using hne
     have hll : l1 ≠ l2 := fun e => by
      have h3 := HJ1.out
      rw [e, HJ2.out] at h3
      exact hb (Option.some.inj h3).symm
     have HLL := hdd hll
     clear hll
     go_wp2_with fail
     go_quiet (fail)
     go_wp2_with fail
     go_ret
     exact ⟨by rw [decide_eq_false HLL.out]; rfl, _, (World.drewN_drewN _ _ _).symm⟩
   ·have hge : ¬ (k : Int) < (L : Int) := by omega
    have hkL : k = L := by omega
    subst hkL
    have hll : l1 = l2 := by
     have h3 := HTK.out
     rwa [List.take_of_length_le (by have := HL.out; omega), List.take_of_length_le (by have := HL2.out; omega)] at h3
    have HLL := hdd hll
    clear hll
    go_wp2
    go_ret
    exact ⟨by rw [decide_eq_true HLL.out]; rfl, _, rfl⟩
 ·have hne : ¬ (L : Int) = (L2 : Int) := by omega
  have hd : decide (l1 = l2) = false := decide_eq_false (fun e => hLL (by rw [← HL.out, ← HL2.out, e]))
  rw [hd]
  clear hd
  go_enter Tryz.func84, Tryz.ntmps84
  go_wp2_with fail
  go_ret
  exact ⟨rfl, 0, rfl⟩
end Go.Proofs.YtjekbomlpcdojaaGreatDoor
