/- Part 18 of the proof: Ds3. -/
import Derived.Test.YtjekbomlpcdojaaGreatDoorH16
import Derived.Test.YtjekbomlpcdojaaGreatDoorH17
set_option linter.unusedVariables false
set_option linter.unusedSimpArgs false
set_option linter.unusedSectionVars false
set_option maxHeartbeats 16000000
namespace Go.Proofs.YtjekbomlpcdojaaGreatDoor
open Go Go.RowKit
theorem ba_size (l : List UInt8) : (⟨l.toArray⟩ : ByteArray).size = l.length := by simp [ByteArray.size]
theorem ba_extract (l : List UInt8) (i j : Nat) : (⟨l.toArray⟩ : ByteArray).extract i j = ⟨((l.drop i).take (j - i)).toArray⟩ := by
 apply ByteArray.ext
 simp [ByteArray.data_extract]
theorem ba_one (l : List UInt8) (i : Nat) (b : UInt8) (h : l[i]? = some b) : (⟨l.toArray⟩ : ByteArray).extract i (i + 1) = ⟨#[b]⟩ := by
 rw [ba_extract, show i + 1 - i = 1 by omega]
 congr 1
 have : (l.drop i).take 1 = [b] := by
  have h1 : (l.drop i)[0]? = some b := by simpa using h
  cases hd : l.drop i with
  | nil => rw [hd] at h1; simp at h1
  | cons x y => rw [hd] at h1; simp at h1; simp [h1]
 rw [this]
def cutI (nm : List UInt8) : Int := match cutN nm with
 | some i => (i : Int)
 | none => -1
theorem cutI_some {nm : List UInt8} {i : Nat} (h : cutN nm = some i) : cutI nm = (i : Int) := by unfold cutI; rw [h]
theorem cutI_none {nm : List UInt8} (h : cutN nm = none) : cutI nm = -1 := by unfold cutI; rw [h]
set_option maxRecDepth 100000 in
theorem zzIndex_at (nm : List UInt8) (hl : nm.length ≤ 140737488355328) (w : World) :
  Calls Tryz.prog 107 #[strV nm, .string ⟨#[58]⟩] w fun e w' => e = .returned (.int .i64 (cutI nm)) ∧ w = w' := by
 obtain ⟨L, hL⟩ : ∃ L, nm.length = L := ⟨_, rfl⟩
 have hsz := ba_size nm
 have hex : ∀ i b, nm[i]? = some b → (⟨nm.toArray⟩ : ByteArray).extract i (i + 1) = ⟨#[b]⟩ := fun i b => ba_one nm i b
 unfold strV
 generalize (⟨nm.toArray⟩ : ByteArray) = s at *
 rw [hL] at hl hsz
 have HL := hdd hL
 have HEX := hdd hex
 clear hL hex
 go_enter Tryz.func107, Tryz.ntmps107
 go_wp2_with fail
 go_loopg [5] L (fun k v4 wr => ∃ i : Nat, v4 = .int .i64 i ∧ i + k = L ∧ (∀ j, j < i → nm[j]? ≠ some 58) ∧ w = wr)
 case atStart => exact ⟨0, rfl, by omega, fun j hj => by omega, rfl⟩
 case round =>
  obtain ⟨i, rfl, hik, hno, rfl⟩ := hrel
  have HNO := hdd hno
  clear hno
  have hw : IntKind.i64.wrap ((i : Int) + 1) = (i : Int) + 1 := IntWalk.i64_in _ (by omega)
  by_cases hlt : i < L
  ·cases gk with
   | zero => omega
   | succ k =>
   have hle : (i : Int) + 1 ≤ (L : Int) := by omega
   have hj : nm[i]? = some (nm[i]'(by have := HL.out; omega)) := List.getElem?_eq_getElem _
   have hx := HEX.out i _ hj
   generalize (nm[i]'(by have := HL.out; omega)) = b at *
   have HJ := hdd hj
   clear hj
   by_cases hb : b = 58
   ·subst hb
    have hcut := cutI_some (cutN_some nm i HJ.out HNO.out)
    have HCUT := hdd hcut
    clear hcut
    go_wp2_with fail
    go_ret
    exact ⟨by rw [HCUT.out]; rfl, rfl⟩
   ·have hbe : (b == 58) = false := by simpa using hb
    go_wp2_with fail
    go_roundg k
    case measure => exact Nat.lt_succ_self _
    case rel =>
     refine ⟨i + 1, by go_num, by omega, fun j hj => ?_, rfl⟩
     by_cases hji : j < i
     ·exact HNO.out j hji
     ·have : j = i := by omega
      subst this
      rw [HJ.out]
      exact fun e => hb (Option.some.inj e)
  ·have hge : ¬ (i : Int) + 1 ≤ (L : Int) := by omega
   have hcut := cutI_none (cutN_none nm (fun j hj => HNO.out j (by have := HL.out; omega)))
   have HCUT := hdd hcut
   clear hcut
   go_wp2_with fail
   go_ret
   exact ⟨by rw [HCUT.out]; rfl, rfl⟩
def SplitP (nm : List UInt8) (w : World) (e : Ending) (w' : World) : Prop :=
 ((∃ B i, cutN nm = some i ∧ e = .returned (.slice (some ⟨B, 0, none⟩) 2 2) ∧ w'.cell? ⟨B, 0, none⟩ = some (strV (nm.take i)) ∧ w'.cell? ⟨B, 1, none⟩ = some (strV (nm.drop (i + 1)))) ∨
 (∃ B, cutN nm = none ∧ e = .returned (.slice (some ⟨B, 0, none⟩) 1 1) ∧ w'.cell? ⟨B, 0, none⟩ = some (strV nm))) ∧ Keep (fun _ => False) w w'
set_option maxRecDepth 100000 in
theorem zzSplitTwo_at (nm : List UInt8) (hl : nm.length ≤ 140737488355328) (w : World) :
  Calls Tryz.prog 78 #[strV nm, .string ⟨#[58]⟩] w (SplitP nm w) := by
 have hix := zzIndex_at nm hl w
 cases hc : cutN nm with
 | none =>
  rw [cutI_none hc] at hix
  have HC := hdd hc
  clear hc
  go_enter Tryz.func78, Tryz.ntmps78
  go_wp2_with fail
  refine hix.mono ?_
  rintro e w1 ⟨rfl, rfl⟩
  go_wp2_with fail
  go_ret
  exact ⟨.inr ⟨_, HC.out, rfl, by simp⟩, (Keep.refl _ w).alloc _⟩
 | some i =>
  rw [cutI_some hc] at hix
  have hil := cutN_lt nm i hc
  have HC := hdd hc
  have hsz := ba_size nm
  have h1 := ba_extract nm 0 i
  have h2 := ba_extract nm (i + 1) nm.length
  rw [List.drop_zero, Nat.sub_zero] at h1
  rw [List.take_of_length_le (by simp)] at h2
  obtain ⟨L, hL⟩ : ∃ L, nm.length = L := ⟨_, rfl⟩
  rw [hL] at hil hsz h2 hl
  have hi0 : ¬ (i : Int) < 0 := by omega
  have hw : IntKind.i64.wrap ((i : Int) + 1) = (i : Int) + 1 := IntWalk.i64_in _ (by omega)
  have HH := hdd (And.intro h1 h2)
  clear hc h1 h2 hL
  unfold strV at hix ⊢
  have key : ∀ s : ByteArray, (⟨nm.toArray⟩ : ByteArray) = s → Calls Tryz.prog 78 #[.string s, .string ⟨#[58]⟩] w fun e w' => ∃ B, e = .returned (.slice (some ⟨B, 0, none⟩) 2 2) ∧ w'.cell? ⟨B, 0, none⟩ = some (.string (s.extract 0 i)) ∧ w'.cell? ⟨B, 1, none⟩ = some (.string (s.extract (i + 1) L)) ∧ Keep (fun _ => False) w w' := by
   intro s hs
   rw [hs] at hix hsz
   clear hs
   go_enter Tryz.func78, Tryz.ntmps78
   go_wp2_with fail
   refine hix.mono ?_
   rintro e w1 ⟨rfl, rfl⟩
   go_wp2_with fail
   go_region
   all_goals
    go_wp2_with fail
    go_ret
    exact ⟨_, rfl, by simp, by simp, ((Keep.refl _ w).drew).alloc _⟩
  refine (key _ rfl).mono ?_
  rintro e w' ⟨B, rfl, b0, b1, hk⟩
  rw [HH.out.1] at b0
  rw [HH.out.2] at b1
  exact ⟨.inl ⟨B, i, HC.out, rfl, b0, b1⟩, hk⟩
end Go.Proofs.YtjekbomlpcdojaaGreatDoor
