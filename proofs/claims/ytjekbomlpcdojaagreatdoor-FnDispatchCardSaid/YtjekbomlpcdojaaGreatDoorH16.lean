/- Part 16 of the proof: Ds0, Ds1, Sp11, Rd0, Pm0, Rk2, Rk3, Rk4, Rk5, Rb0, SpMg. -/
import Derived.Test.YtjekbomlpcdojaaGreatDoorH15
import Derived.Test.YtjekbomlpcdojaaGreatDoorH8
import Derived.Test.YtjekbomlpcdojaaGreatDoorH14
import Derived.Test.YtjekbomlpcdojaaGreatDoorH5
import Derived.Test.YtjekbomlpcdojaaGreatDoorH11
import Derived.Deep.LoopGhost
set_option linter.unusedVariables false
set_option linter.unusedSimpArgs false
set_option linter.unusedSectionVars false
set_option maxHeartbeats 16000000
namespace Go.Proofs.YtjekbomlpcdojaaGreatDoor
open Go Go.RowKit
def TextsAt (A : Nat → Prop) (w : World) (v : Value) (l : List (List UInt8)) : Prop :=
 ∃ a c, v = .slice a l.length c ∧ l.length ≤ 140737488355328 ∧ (l.length ≠ 0 → l.length ≤ c ∧ c ≤ 9223372036854775807) ∧ ∀ j x, l[j]? = some x → ∃ D o sv, a = some ⟨D, o, none⟩ ∧ A D ∧ BytesAt A w sv x ∧ w.cell? ⟨D, o + j, none⟩ = some sv
theorem TextsAt.keep {A M : Nat → Prop} {w w' : World} {v : Value} {l : List (List UInt8)} (h : TextsAt A w v l) (k : Keep M w w') (hM : ∀ i, A i → ¬ M i) : TextsAt A w' v l := by
 obtain ⟨a, c, rfl, h1, h2, h3⟩ := h
 refine ⟨a, c, rfl, h1, h2, fun j x hj => ?_⟩
 obtain ⟨D, o, sv, e1, e2, e3, e4⟩ := h3 j x hj
 exact ⟨D, o, sv, e1, e2, e3.keep k hM, (k.cell (p := ⟨D, o + j, none⟩) (lt_of_cell e4) (hM D e2)).trans e4⟩
theorem TextsAt.weak {A A' : Nat → Prop} {w : World} {v : Value} {l : List (List UInt8)} (h : TextsAt A w v l) (hA : ∀ i, i < w.heap.size → A i → A' i) : TextsAt A' w v l := by
 obtain ⟨a, c, rfl, h1, h2, h3⟩ := h
 refine ⟨a, c, rfl, h1, h2, fun j x hj => ?_⟩
 obtain ⟨D, o, sv, e1, e2, e3, e4⟩ := h3 j x hj
 exact ⟨D, o, sv, e1, hA D (lt_of_cell e4) e2, e3.weak hA, e4⟩
def cutN : List UInt8 → Option Nat
 | [] => none
 | b :: l => if b = 58 then some 0 else (cutN l).map (· + 1)
theorem cutN_some : ∀ (l : List UInt8) (i : Nat), l[i]? = some 58 → (∀ j, j < i → l[j]? ≠ some 58) → cutN l = some i
 | [], i, h, _ => by simp at h
 | b :: l, 0, h, _ => by
  simp at h
  simp [cutN, h]
 | b :: l, i + 1, h, hn => by
  have h0 : ¬ b = 58 := fun e => hn 0 (by omega) (by simp [e])
  have := cutN_some l i (by simpa using h) (fun j hj => by have := hn (j + 1) (by omega); simpa using this)
  simp [cutN, h0, this]
theorem cutN_none : ∀ (l : List UInt8), (∀ j, j < l.length → l[j]? ≠ some 58) → cutN l = none
 | [], _ => rfl
 | b :: l, hn => by
  have h0 : ¬ b = 58 := fun e => hn 0 (by simp) (by simp [e])
  have := cutN_none l (fun j hj => by have := hn (j + 1) (by simp; omega); simpa using this)
  simp [cutN, h0, this]
theorem cutN_lt : ∀ (l : List UInt8) (i : Nat), cutN l = some i → i < l.length
 | [], i, h => by simp [cutN] at h
 | b :: l, i, h => by
  by_cases h0 : b = 58
  ·simp [cutN, h0] at h
   simp
   omega
  ·simp [cutN, h0] at h
   obtain ⟨j, hj, rfl⟩ := h
   have := cutN_lt l j hj
   simp
   omega
def lastA (l : List (List UInt8)) (s : List UInt8) : Nat → Option Nat
 | 0 => none
 | i + 1 => if l[i]? = some s then some i else lastA l s i
theorem lastA_lt (l : List (List UInt8)) (s : List UInt8) : ∀ (n i : Nat), lastA l s n = some i → i < n
 | 0, i, h => by simp [lastA] at h
 | n + 1, i, h => by
  unfold lastA at h
  split at h
  ·have := Option.some.inj h
   omega
  ·have := lastA_lt l s n i h
   omega
def dspW (ls : List (List UInt8)) (fb : Bool) (nm : List UInt8) : Option (Int × List UInt8) :=
 match cutN nm with
 | some i => (lastA ls (nm.take i) ls.length).map fun j => ((j : Int), nm.drop (i + 1))
 | none => if fb = true then some (-1, nm) else none
set_option maxRecDepth 100000 in
theorem zzFits2_at {A : Nat → Prop} {w : World} {v : Value} {l : List (List UInt8)} (h : TextsAt A w v l) :
  Calls Tryz.prog 11 #[v] w (BoolP (fun b => b = true → l.length ≤ 2147483647) w) := by
 obtain ⟨a, c, rfl, hl, hc, g⟩ := h
 obtain ⟨L, hL⟩ : ∃ L, l.length = L := ⟨_, rfl⟩
 rw [hL] at hl hc ⊢
 have HL := hdd hL
 have G := hdd g
 have HC := hdd hc
 clear hL g hc
 by_cases hb : (2147483647 : Int) < (L : Int)
 ·go_enter Tryz.func11, Tryz.ntmps11
  go_wp2_with fail
  go_ret
  exact ⟨_, rfl, fun e => (by cases e), Keep.refl _ _⟩
 ·have hLb : L ≤ 2147483647 := by omega
  go_enter Tryz.func11, Tryz.ntmps11
  go_wp2_with fail
  go_loopg [10] L (fun k v10 wr => ∃ i : Nat, v10 = .int .i64 i ∧ i + k = L ∧ Keep (fun _ => False) w wr)
  case atStart => exact ⟨0, rfl, by omega, Keep.refl _ _⟩
  case round =>
   obtain ⟨i, rfl, hik, hkr⟩ := hrel
   by_cases hlt : i < L
   ·cases gk with
    | zero => omega
    | succ k =>
    have hlt' : (i : Int) < (L : Int) := by omega
    have hj : l[i]? = some (l[i]'(by have := HL.out; omega)) := List.getElem?_eq_getElem _
    obtain ⟨D, o, sv, ha, _, hs, h7⟩ := G.out i _ hj
    generalize (l[i]'(by have := HL.out; omega)) = x at *
    subst ha
    have d0 := (hkr.cell (p := ⟨D, o + i, none⟩) (lt_of_cell h7) id).trans h7
    have hnc : L ≤ c := (HC.out (by omega)).1
    have hw : IntKind.i64.wrap ((i : Int) + 1) = (i : Int) + 1 := IntWalk.i64_in _ (by omega)
    obtain ⟨sa, sc, rfl, _, _, _⟩ := hs.cellAt'
    clear hj h7 hs
    by_cases hx : (2147483647 : Int) < ((x.length : Nat) : Int)
    ·go_wp2_with fail
     go_ret
     exact ⟨_, rfl, fun e => (by cases e), hkr⟩
    ·go_wp2_with fail
     go_roundg k
     case measure => exact Nat.lt_succ_self _
     case rel => exact ⟨i + 1, by go_num, by omega, hkr⟩
   ·have hge : ¬ (i : Int) < (L : Int) := by omega
    go_wp2_with fail
    go_ret
    exact ⟨_, rfl, (by first | exact fun _ => hLb | trivial), hkr⟩
def SumP (l : List (List UInt8)) (w : World) (e : Ending) (w' : World) : Prop :=
 ∃ n : Nat, e = .returned (.int .i64 n) ∧ l.length ≤ n ∧ (n ≤ 65536 → ∀ (j : Nat) (x : List UInt8), l[j]? = some x → x.length ≤ 65536) ∧ w = w'
set_option maxRecDepth 100000 in
theorem listBytes_at {A : Nat → Prop} {w : World} {v : Value} {l : List (List UInt8)} (h : TextsAt A w v l) :
  Calls Tryz.prog 12 #[v] w (SumP l w) := by
 obtain ⟨a, c, rfl, hl, hc, g⟩ := h
 obtain ⟨L, hL⟩ : ∃ L, l.length = L := ⟨_, rfl⟩
 rw [hL] at hl hc ⊢
 have HL := hdd hL
 have G := hdd g
 have HC := hdd hc
 clear hL g hc
 go_enter Tryz.func12, Tryz.ntmps12
 go_wp2_with fail
 go_loopg [3, 4] L (fun k v3 v4 wr => ∃ i m : Nat, v3 = .int .i64 m ∧ v4 = .int .i64 i ∧ i + k = L ∧ L ≤ m ∧ m ≤ 140737488355328 + 65537 ∧ (m ≤ 65536 → ∀ (j : Nat) (x : List UInt8), j < i → l[j]? = some x → x.length ≤ 65536) ∧ w = wr)
 case atStart => exact ⟨0, L, rfl, rfl, by omega, by omega, by omega, fun _ j x hj => by omega, rfl⟩
 case round =>
  obtain ⟨i, m, rfl, rfl, hik, hm, hm2, hall, rfl⟩ := hrel
  have HALL := hdd hall
  clear hall
  by_cases hlt : i < L
  ·have hlt' : (i : Int) < (L : Int) := by omega
   by_cases hmm : m ≤ 65536
   ·cases gk with
    | zero => omega
    | succ k =>
    have hmm' : (m : Int) ≤ 65536 := by omega
    have hj : l[i]? = some (l[i]'(by have := HL.out; omega)) := List.getElem?_eq_getElem _
    obtain ⟨D, o, sv, ha, _, hs, h7⟩ := G.out i _ hj
    generalize (l[i]'(by have := HL.out; omega)) = x at *
    subst ha
    have hnc : L ≤ c := (HC.out (by omega)).1
    have hw : IntKind.i64.wrap ((i : Int) + 1) = (i : Int) + 1 := IntWalk.i64_in _ (by omega)
    obtain ⟨sa, sc, rfl, hxl, _, _⟩ := hs.cellAt'
    have HJ := hdd hj
    clear hj hs
    by_cases hx : x.length ≤ 65537
    ·have hx1 : ((x.length : Nat) : Int) ≤ 65537 := by omega
     have hw2 : IntKind.i64.wrap ((m : Int) + (x.length : Nat)) = (m : Int) + (x.length : Nat) := IntWalk.i64_in _ (by omega)
     by_cases hxe : x.length = 65537
     ·have hx2 : ¬ ((x.length : Nat) : Int) < 65537 := by omega
      go_wp2_with fail
      go_roundg k
      case measure => exact Nat.lt_succ_self _
      case rel => exact ⟨i + 1, m + 65537, by go_num, by go_num, by omega, by omega, by omega, fun hm => by omega, rfl⟩
     ·have hx2 : ((x.length : Nat) : Int) < 65537 := by omega
      go_wp2_with fail
      go_roundg k
      case measure => exact Nat.lt_succ_self _
      case rel =>
       refine ⟨i + 1, m + x.length, by go_num, by go_num, by omega, by omega, by omega, fun hm j y hj hy => ?_, rfl⟩
       by_cases hji : j < i
       ·exact HALL.out hmm j y hji hy
       ·have : j = i := by omega
        subst this
        have := HJ.out.symm.trans hy
        cases this
        omega
    ·have hx1 : ¬ ((x.length : Nat) : Int) ≤ 65537 := by omega
     have hx2 : ¬ ((x.length : Nat) : Int) < 65537 := by omega
     go_wp2_with fail
     go_roundg k
     case measure => exact Nat.lt_succ_self _
     case rel => exact ⟨i + 1, m + 65537, by go_num, by go_num, by omega, by omega, by omega, fun hm => by omega, rfl⟩
   ·have hmm' : ¬ (m : Int) ≤ 65536 := by omega
    go_wp2_with fail
    go_ret
    exact ⟨m, rfl, by have := HL.out; omega, fun h => absurd h hmm, rfl⟩
  ·have hge : ¬ (i : Int) < (L : Int) := by omega
   go_wp2_with fail
   go_ret
   exact ⟨m, rfl, by have := HL.out; omega, fun h j x hx => HALL.out h j x (by
    have h3 := (List.getElem?_eq_some_iff.1 hx).1
    have := HL.out
    omega) hx, rfl⟩
theorem BytesAt.cutL {A : Nat → Prop} {w : World} {a : Option Addr} {L c : Nat} {l : List UInt8} (h : BytesAt A w (.slice a L c) l) (i : Nat) (hi : i < l.length) : ∃ D o, a = some ⟨D, o, none⟩ ∧ L = l.length ∧ L ≤ c ∧ BytesAt A w (.slice (some ⟨D, o, none⟩) i c) (l.take i) ∧ BytesAt A w (.slice (some ⟨D, o + (i + 1), none⟩) (L - (i + 1)) (c - (i + 1))) (l.drop (i + 1)) ∧ ∀ a' c', c = i + 1 → BytesAt A w (.slice a' 0 c') (l.drop (i + 1)) := by
 rcases h with ⟨rfl, _⟩ | ⟨hne, D, o, c', he, h1, h2, h3, h4⟩
 ·simp at hi
 ·cases he
  have e1 : (l.take i).length = i := by simp; omega
  have e2 : (l.drop (i + 1)).length = l.length - (i + 1) := by simp
  refine ⟨D, o, rfl, rfl, h1, ?_, ?_, fun a' c' hc => .inl ⟨List.drop_eq_nil_of_le (by omega), _, _, rfl⟩⟩
  ·by_cases h0 : l.take i = []
   ·have : i = 0 := by rw [← e1, h0]; rfl
    subst this
    exact .inl ⟨h0, _, _, rfl⟩
   ·exact .inr ⟨h0, D, o, c, by rw [e1], by omega, by omega, h3, fun j b hj => h4 j b (by
     rw [List.getElem?_take] at hj
     split at hj
     ·exact hj
     ·cases hj)⟩
  ·by_cases h0 : l.drop (i + 1) = []
   ·have : l.length - (i + 1) = 0 := by rw [← e2, h0]; rfl
    exact .inl ⟨h0, _, _, by rw [this]⟩
   ·exact .inr ⟨h0, D, o + (i + 1), c - (i + 1), by rw [e2], by omega, by omega, h3, fun j b hj => by
     rw [List.getElem?_drop] at hj
     have := h4 _ b hj
     rwa [show o + (i + 1) + j = o + (i + 1 + j) by omega]⟩
def CutP (A : Nat → Prop) (v : Value) (nm : List UInt8) (w : World) (e : Ending) (w' : World) : Prop :=
 ∃ v1 v2 b, e = .returned (.tuple #[v1, v2, .bool b]) ∧ ((∃ i, cutN nm = some i ∧ b = true ∧ BytesAt A w v1 (nm.take i) ∧ BytesAt A w v2 (nm.drop (i + 1))) ∨ (cutN nm = none ∧ b = false ∧ v2 = v)) ∧ ∃ n, w.drewN n = w'
set_option maxRecDepth 100000 in
theorem cutName_at {A : Nat → Prop} {w : World} {v : Value} {nm : List UInt8} (h : BytesAt A w v nm) :
  Calls Tryz.prog 51 #[v] w (CutP A v nm w) := by
 obtain ⟨a, c, rfl, hl, hc, g⟩ := h.cellAt'
 have H := hdd h
 obtain ⟨L, hL⟩ : ∃ L, nm.length = L := ⟨_, rfl⟩
 rw [hL] at hl hc H ⊢
 have HL := hdd hL
 have G := hdd g
 have HC := hdd hc
 clear hL g hc h
 go_enter Tryz.func51, Tryz.ntmps51
 go_wp2_with fail
 go_loopg [5] L (fun k v4 wr => ∃ i : Nat, v4 = .int .i64 i ∧ i + k = L ∧ (∀ j, j < i → nm[j]? ≠ some 58) ∧ w = wr)
 case atStart => exact ⟨0, rfl, by omega, fun j hj => by omega, rfl⟩
 case round =>
  obtain ⟨i, rfl, hik, hno, rfl⟩ := hrel
  have HNO := hdd hno
  clear hno
  by_cases hlt : i < L
  ·cases gk with
   | zero => omega
   | succ k =>
   have hlt' : (i : Int) < (L : Int) := by omega
   have hj : nm[i]? = some (nm[i]'(by have := HL.out; omega)) := List.getElem?_eq_getElem _
   obtain ⟨D, o, ha, e1⟩ := G.out i _ hj
   generalize (nm[i]'(by have := HL.out; omega)) = b at *
   obtain ⟨D', o', ha', hLL, hLc, HT, HD, HD0⟩ := H.out.cutL i (by have := HL.out; omega)
   subst ha
   cases ha'
   have HTD := hdd (And.intro HT (And.intro HD HD0))
   have hw : IntKind.i64.wrap ((i : Int) + 1) = (i : Int) + 1 := IntWalk.i64_in _ (by omega)
   have hnc : L ≤ c := HC.out (by omega)
   have HJ := hdd hj
   clear hj HT HD HD0 hLL
   by_cases hb : b = 58
   ·subst hb
    have hcut := cutN_some nm i HJ.out HNO.out
    have HCUT := hdd hcut
    clear hcut
    by_cases hci : c = i + 1
    ·subst hci
     go_wp2_with fail
     go_quiet (fail)
     go_wp2_with fail
     go_returns
     exact ⟨_, _, true, rfl, .inl ⟨i, HCUT.out, rfl, HTD.out.1, by have h0 := HTD.out.2.2; simp at h0; exact h0 _ _⟩, _, rfl⟩
    ·go_wp2_with fail
     go_quiet (fail)
     go_wp2_with fail
     go_returns
     exact ⟨_, _, true, rfl, .inl ⟨i, HCUT.out, rfl, HTD.out.1, HTD.out.2.1⟩, _, rfl⟩
   ·have hne : ¬ (b.toNat : Int) = 58 := fun e => hb (UInt8.toNat_inj.1 (by have h58 : (58 : UInt8).toNat = 58 := rfl; omega))
    have hnb : ((b.toNat : Int) == 58) = false := by simpa using hne
    go_wp2_with fail
    go_roundg k
    case measure => exact Nat.lt_succ_self _
    case rel =>
     refine ⟨i + 1, by go_num, by omega, fun j hj => ?_, rfl⟩
     by_cases hji : j < i
     ·exact HNO.out j hji
     ·have : j = i := by omega
      subst this
      rw [HJ.out]
      exact fun e => hb (Option.some.inj e)
  ·have hge : ¬ (i : Int) < (L : Int) := by omega
   have hcut := cutN_none nm (fun j hj => HNO.out j (by have := HL.out; omega))
   have HCUT := hdd hcut
   clear hcut
   go_wp2_with fail
   go_returns
   exact ⟨_, _, false, rfl, .inr ⟨HCUT.out, rfl, rfl⟩, 0, rfl⟩
def lastI (l : List (List UInt8)) (s : List UInt8) (n : Nat) : Int := match lastA l s n with
 | some j => (j : Int)
 | none => -1
set_option maxRecDepth 100000 in
theorem lastOf_at {A A' : Nat → Prop} {w : World} {v sv : Value} {l : List (List UInt8)} {s : List UInt8} (h : TextsAt A w v l) (hs : BytesAt A' w sv s) :
  Calls Tryz.prog 52 #[v, sv] w fun e w' => e = .returned (.int .i64 (lastI l s l.length)) ∧ ∃ n, w.drewN n = w' := by
 obtain ⟨a, c, rfl, hl, hc, g⟩ := h
 obtain ⟨sa, sm, sc, rfl⟩ := hs.shape
 obtain ⟨L, hL⟩ : ∃ L, l.length = L := ⟨_, rfl⟩
 rw [hL] at hl hc ⊢
 have HL := hdd hL
 have G := hdd g
 have HC := hdd hc
 have HS := hdd hs
 have hw0 : IntKind.i64.wrap ((L : Int) - 1) = (L : Int) - 1 := IntWalk.i64_in _ (by omega)
 clear hL g hc hs
 go_enter Tryz.func52, Tryz.ntmps52
 go_wp2_with fail
 go_loopg [5] L (fun k v4 wr => ∃ m : Int, v4 = .int .i64 m ∧ m = (k : Int) - 1 ∧ k ≤ L ∧ lastI l s L = lastI l s k ∧ ∃ n, w.drewN n = wr)
 case atStart => exact ⟨(L : Int) - 1, by go_num, rfl, Nat.le_refl _, rfl, 0, rfl⟩
 case round =>
  obtain ⟨m, rfl, hm, hkL, hlast, n, rfl⟩ := hrel
  have HLAST := hdd hlast
  clear hlast
  cases gk with
  | zero =>
   have hneg : ¬ (0 : Int) ≤ m := by omega
   clear hm
   go_wp2_with fail
   go_ret
   exact ⟨by rw [HLAST.out]; rfl, n, rfl⟩
  | succ k =>
   have hmk : m = (k : Int) := by omega
   clear hm
   subst hmk
   have hlt : k < L := by omega
   have hge : 0 ≤ (k : Int) := by omega
   have hj : l[k]? = some (l[k]'(by have := HL.out; omega)) := List.getElem?_eq_getElem _
   obtain ⟨D, o, xv, ha, _, hx, h7⟩ := G.out k _ hj
   generalize (l[k]'(by have := HL.out; omega)) = x at *
   subst ha
   have d0 : (w.drewN n).cell? ⟨D, o + k, none⟩ = some xv := h7
   have hnc : L ≤ c := (HC.out (by omega)).1
   have hltk : (k : Int) < (L : Int) := by omega
   have hw : IntKind.i64.wrap ((k : Int) - 1) = (k : Int) - 1 := IntWalk.i64_in _ (by omega)
   have hkN : Keep (fun _ => False) w (w.drewN n) := (Keep.refl _ w).drewN n
   have hsame := isSame_at (hx.keep hkN (fun _ _ => id)) (HS.out.keep hkN (fun _ _ => id))
   obtain ⟨xa, xm, xc, rfl⟩ := hx.shape
   have HJ := hdd hj
   have HSM := hdd hsame
   clear hj hx hsame h7
   go_wp2_with fail
   refine HSM.out.mono ?_
   rintro e w2 ⟨rfl, n2, rfl⟩
   by_cases hxs : x = s
   ·have hd : decide (x = s) = true := by simpa using hxs
    have hI : lastI l s (k + 1) = (k : Int) := by unfold lastI lastA; rw [HJ.out, if_pos (by rw [hxs])]
    have HI := hdd hI
    rw [hd]
    clear hxs hd hI
    go_wp2_with fail
    go_ret
    exact ⟨by rw [HLAST.out, HI.out]; rfl, _, rfl⟩
   ·have hd : decide (x = s) = false := by simpa using hxs
    have hI : lastI l s (k + 1) = lastI l s k := by unfold lastI; rw [lastA, HJ.out, if_neg (fun e => hxs (Option.some.inj e))]
    have HI := hdd hI
    rw [hd]
    clear hxs hd hI
    go_wp2_with fail
    go_roundg k
    case measure => exact Nat.lt_succ_self _
    case rel => exact ⟨(k : Int) - 1, by go_num, rfl, by omega, HLAST.out.trans HI.out, _, rfl⟩
def wrp (k : Int) : Int := if k = -2 ∨ k = -1 ∨ 10 ≤ k ∧ k < 25 then k else 10
theorem wrapped_all (k : Int) (w : World) : Calls Tryz.prog 50 #[.int .i64 k] w fun e w' => e = .returned (.int .i64 (wrp k)) ∧ w = w' := by
 unfold wrp
 by_cases h1 : k = -2
 ·subst h1
  go_enter Tryz.func50, Tryz.ntmps50
  go_wp2_with fail
  go_ret
  exact ⟨rfl, rfl⟩
 by_cases h2 : k = -1
 ·subst h2
  go_enter Tryz.func50, Tryz.ntmps50
  go_wp2_with fail
  go_ret
  exact ⟨rfl, rfl⟩
 have b1 : (k == -2) = false := by simpa using h1
 have b2 : (k == -1) = false := by simpa using h2
 by_cases h3 : 10 ≤ k
 ·by_cases h4 : k < 25
  ·rw [if_pos (by omega)]
   go_enter Tryz.func50, Tryz.ntmps50
   go_wp2_with fail
   go_ret
   exact ⟨rfl, rfl⟩
  ·rw [if_neg (by omega)]
   go_enter Tryz.func50, Tryz.ntmps50
   go_wp2_with fail
   go_ret
   exact ⟨rfl, rfl⟩
 ·rw [if_neg (by omega)]
  go_enter Tryz.func50, Tryz.ntmps50
  go_wp2_with fail
  go_ret
  exact ⟨rfl, rfl⟩
theorem Sk.wrap {k x : Int} (h : Sk k x) (h0 : x ≠ 0) (h1 : 0 ≤ k ∧ k ≤ 16) : wrp x = -2 ∨ (k ≠ 0 ∧ Sk (pk k) (wrp x) ∧ wrp x ≠ 0 ∧ wrp x ≠ -2) := by
 obtain ⟨h1, h2⟩ := h1
 unfold Sk at h
 unfold Sk pk wrp
 repeat' split
 all_goals omega
def dspR (gK gT : Int) (gB : List UInt8) (ls : List (List UInt8)) (fb : Bool) : Int × Int × List UInt8 :=
 if gK = 0 then (if gT = 1 ∨ gT = 4 then (match dspW ls fb gB with
  | some q => (0, q.1, q.2)
  | none => (10, -2, [])) else (10, -2, [])) else (pk gK, -2, [])
theorem dspR_bad {gK gT : Int} {gB : List UInt8} {ls : List (List UInt8)} {fb : Bool} (h : gK ≠ 0) : dspR gK gT gB ls fb = (pk gK, -2, []) := by unfold dspR; rw [if_neg h]
theorem dspR_type {gT : Int} {gB : List UInt8} {ls : List (List UInt8)} {fb : Bool} (h : ¬ (gT = 1 ∨ gT = 4)) : dspR 0 gT gB ls fb = (10, -2, []) := by unfold dspR; rw [if_pos rfl, if_neg h]
theorem dspR_none {gT : Int} {gB : List UInt8} {ls : List (List UInt8)} {fb : Bool} (h : gT = 1 ∨ gT = 4) (hd : dspW ls fb gB = none) : dspR 0 gT gB ls fb = (10, -2, []) := by unfold dspR; rw [if_pos rfl, if_pos h, hd]
theorem dspR_some {gT : Int} {gB : List UInt8} {ls : List (List UInt8)} {fb : Bool} (h : gT = 1 ∨ gT = 4) {who : Int} {nm : List UInt8} (hd : dspW ls fb gB = some (who, nm)) : dspR 0 gT gB ls fb = (0, who, nm) := by unfold dspR; rw [if_pos rfl, if_pos h, hd]
theorem dspW_cut {gB : List UInt8} {ls : List (List UInt8)} {fb : Bool} {i : Nat} (h : cutN gB = some i) : dspW ls fb gB = (lastA ls (gB.take i) ls.length).map fun j => ((j : Int), gB.drop (i + 1)) := by unfold dspW; rw [h]
theorem dspW_all {gB : List UInt8} {ls : List (List UInt8)} {fb : Bool} (h : cutN gB = none) : dspW ls fb gB = if fb = true then some (-1, gB) else none := by unfold dspW; rw [h]
theorem dspW_len {nm : List UInt8} {ls : List (List UInt8)} {fb : Bool} {q : Int × List UInt8} (h : dspW ls fb nm = some q) : q.2.length ≤ nm.length := by
 cases hc : cutN nm with
 | some i =>
  rw [dspW_cut hc] at h
  obtain ⟨j, _, rfl⟩ := Option.map_eq_some_iff.1 h
  simp
 | none =>
  rw [dspW_all hc] at h
  split at h
  ·cases h
   exact Nat.le_refl _
  ·cases h
theorem dspR_len (gK gT : Int) (gB : List UInt8) (ls : List (List UInt8)) (fb : Bool) : (dspR gK gT gB ls fb).2.2.length ≤ gB.length := by
 unfold dspR
 split
 ·split
  ·cases hd : dspW ls fb gB with
   | none => exact Nat.zero_le _
   | some q => exact dspW_len hd
  ·exact Nat.zero_le _
 ·exact Nat.zero_le _
def opOf (t : Int) : Int := if t = 2 then 13 else if t = 3 then 14 else if t = 6 then 15 else if t = 8 then 16 else if t = 10 then 17 else if t = 4 then 18 else if t = 11 then 19 else if t = 16 then 21 else -1
section
variable {R TB DT : Nat} {n : Int} {tl : List Value} {rem : List UInt8} {w : World}
variable {a1 a2 a3 a4 a5 : Int} {sv : Value}
theorem rd_scalar (K : Bin.Ctx) (t : Int) (ht : isSc t = true) (hR : RdP R TB DT K.c.b K.c n tl rem w) :
  Calls Tryz.prog 49 #[.pointer (some ⟨R, 0, none⟩), .agg (stepG (opOf t) a1 a2 a3 a4 a5 sv)] w (GP R TB DT K.c n tl rem w ((Bin.pr K).scK t rem) ((Bin.pr K).scS t rem) 0 0 0 0 ((Bin.pr K).scN t rem) ((Bin.pr K).scB t rem)) := by
 have ht : t = 2 ∨ t = 3 ∨ t = 6 ∨ t = 8 ∨ t = 10 ∨ t = 4 ∨ t = 11 ∨ t = 16 := by simpa [isSc, or_assoc] using ht
 rcases ht with rfl | rfl | rfl | rfl | rfl | rfl | rfl | rfl
 ·rw [Bin.k2, Bin.s2]
  exact rd_step 13 (by omega) (by omega) (by omega) hR (fun w h => bin_op13 h)
 ·rw [Bin.k3, Bin.s3]
  exact rd_step 14 (by omega) (by omega) (by omega) hR (fun w h => bin_op14 h)
 ·rw [Bin.k6, Bin.s6, Bin.n6]
  exact rd_step 15 (by omega) (by omega) (by omega) hR (fun w h => bin_op15 h)
 ·rw [Bin.k8, Bin.s8, Bin.n8]
  exact rd_step 16 (by omega) (by omega) (by omega) hR (fun w h => bin_op16 h)
 ·rw [Bin.k10, Bin.s10, Bin.n10]
  exact rd_step 17 (by omega) (by omega) (by omega) hR (fun w h => bin_op17 h)
 ·rw [Bin.k4, Bin.s4, Bin.n4]
  exact rd_step 18 (by omega) (by omega) (by omega) hR (fun w h => bin_op18 h)
 ·rw [Bin.k11, Bin.s11, Bin.b11]
  exact rd_step 19 (by omega) (by omega) (by omega) hR (fun w h => bin_op19 h)
 ·rw [Bin.k16, Bin.s16, Bin.b16]
  exact rd_step 21 (by omega) (by omega) (by omega) hR (fun w h => bin_op21 h)
end
structure Rdr (σ : Type) where
 R : Nat
 pr : Pr σ
 M : World → Nat → Prop
 Inv : σ → World → Prop
def Rdr.GP {σ : Type} (r : Rdr σ) (w : World) (k : Int) (s' : σ) (T KT SZ ID N : Int) (S : List UInt8) (e : Ending) (w' : World) : Prop :=
 ∃ x t kt size id N' S', e = .returned (gotV x t kt size id N' S') ∧ (∃ a m cc, S' = .slice a m cc) ∧ Sk k x ∧ (∃ s2, r.Inv s2 w' ∧ (x = 0 → s2 = s')) ∧ Kpt r.M w w' ∧
  (x = 0 → t = T ∧ kt = KT ∧ size = SZ ∧ id = ID ∧ N' = N ∧ BytesAt (fun i => w.heap.size ≤ i ∧ ¬ r.M w' i) w' S' S)
abbrev Rdr.Step {σ : Type} (r : Rdr σ) (op : Int) (w : World) (Q : Ending → World → Prop) : Prop := ∀ {a1 a2 a3 a4 a5 : Int} {sv : Value}, Calls Tryz.prog 49 #[.pointer (some ⟨r.R, 0, none⟩), .agg (stepG op a1 a2 a3 a4 a5 sv)] w Q
structure Rdr.Ok {σ : Type} (r : Rdr σ) : Prop where
 pr : r.pr.Ok
 lt : ∀ {s : σ} {w : World}, r.Inv s w → ∀ i, r.M w i → i < w.heap.size
 turn : ∀ {s : σ} {w w' : World} {N : Nat → Prop}, r.Inv s w → Keep N w w' → (∀ i, N i → ¬ r.M w i) → r.Inv s w' ∧ ∀ i, r.M w' i → r.M w i
 sc : ∀ {s : σ} {w : World} (t : Int), isSc t = true → r.Inv s w → r.Step (opOf t) w (r.GP w (r.pr.scK t s) (r.pr.scS t s) 0 0 0 0 (r.pr.scN t s) (r.pr.scB t s))
 sb : ∀ {s : σ} {w : World}, r.Inv s w → r.pr.dep s < 1099511627776 → r.Step 2 w (r.GP w 0 (r.pr.sbS s) 0 0 0 0 0 [])
 se : ∀ {s : σ} {w : World}, r.Inv s w → r.pr.one ≤ r.pr.dep s → r.Step 3 w (r.GP w 0 (r.pr.seS s) 0 0 0 0 0 [])
 f : ∀ {s : σ} {w : World}, r.Inv s w → r.Step 4 w (r.GP w (r.pr.fK s) (r.pr.fS s) (r.pr.fT s) 0 0 (r.pr.fI s) 0 [])
 fe : ∀ {s : σ} {w : World}, r.Inv s w → r.Step 5 w (r.GP w 0 (r.pr.feS s) 0 0 0 0 0 [])
 m : ∀ {s : σ} {w : World}, r.Inv s w → r.Step 7 w (r.GP w (r.pr.mK s) (r.pr.mS s) (r.pr.mT s) (r.pr.mKT s) (r.pr.mN s) 0 0 [])
 me : ∀ {s : σ} {w : World}, r.Inv s w → r.Step 8 w (r.GP w 0 (r.pr.meS s) 0 0 0 0 0 [])
 l : ∀ {s : σ} {w : World}, r.Inv s w → r.Step 9 w (r.GP w (r.pr.lK s) (r.pr.lS s) (r.pr.lT s) 0 (r.pr.lN s) 0 0 [])
 le : ∀ {s : σ} {w : World}, r.Inv s w → r.Step 10 w (r.GP w 0 (r.pr.leS s) 0 0 0 0 0 [])
 t : ∀ {s : σ} {w : World}, r.Inv s w → r.Step 11 w (r.GP w (r.pr.lK s) (r.pr.lS s) (r.pr.lT s) 0 (r.pr.lN s) 0 0 [])
 te : ∀ {s : σ} {w : World}, r.Inv s w → r.Step 12 w (r.GP w 0 (r.pr.leS s) 0 0 0 0 0 [])
theorem Rdr.Ok.fresh {σ : Type} {r : Rdr σ} (ok : r.Ok) {s : σ} {w w' : World} (h : r.Inv s w) (k : Keep (fun _ => False) w w') : r.Inv s w' := (ok.turn h k (fun _ x => x.elim)).1
theorem Rdr.Ok.kept {σ : Type} {r : Rdr σ} (ok : r.Ok) {s : σ} {w w' : World} (h : r.Inv s w) (k : Keep (fun _ => False) w w') : Kpt r.M w w' :=
 ⟨k.weak (fun _ _ x => x.elim), fun i _ => (ok.turn h k (fun _ x => x.elim)).2 i⟩
theorem Rdr.Ok.new {σ : Type} {r : Rdr σ} (ok : r.Ok) {s : σ} {w w' : World} (h : r.Inv s w) (k : Keep (fun _ => False) w w') : ∀ i, w.heap.size ≤ i → ¬ r.M w' i := fun i hi x => by
 have := ok.lt h i ((ok.turn h k (fun _ x => x.elim)).2 i x)
 omega
section
variable {σ : Type} {r : Rdr σ} {s : σ} {w : World}
end
structure Rp.Msg {St : Type} (K : Rp.Ctx St) (gK : St → Int) (gS : St → St) (gT gN : St → Int) (gB : St → List UInt8) (fb fe : FuncId) : Prop where
 mb : Rp.Meth K.T K.P "ReadMessageBegin" fb
 me : Rp.Meth K.T K.P "ReadMessageEnd" fe
 rb : ∀ {s : St} {w : World}, K.Inv s w → Calls Tryz.prog fb #[.pointer (some ⟨K.P, 0, none⟩), ctxV] w fun e w' => ∃ l t q ev, e = .returned (.tuple #[.string l, .int .i32 t, .int .i32 q, ev]) ∧ Rp.Post K w w' (gK s) ev (gS s) ∧ (gK s = 0 → l = ⟨(gB s).toArray⟩ ∧ t = gT s ∧ q = gN s)
 re : ∀ (p c : Value) (w : World), Calls Tryz.prog fe #[p, c] w fun e w' => e = .returned .nilIface ∧ w = w'
structure Pm (St : Type) where
 c : Cfg
 no : Int
 pr : Pr St
 st0 : List UInt8 → St
 rem : St → List UInt8
 gK : St → Int
 gS : St → St
 gT : St → Int
 gN : St → Int
 gB : St → List UInt8
 len : ∀ s, pr.len s = (rem s).length
 lt : (∀ t s, pr.scK t s < 50) ∧ (∀ s, pr.fK s < 50) ∧ (∀ s, pr.mK s < 50) ∧ ∀ s, pr.lK s < 50
 gK_bd : ∀ s, 0 ≤ gK s ∧ gK s ≤ 16
 room0 : ∀ l : List UInt8, l.length ≤ 1099511627775 → pr.Room (st0 l)
 gS_room : ∀ s, pr.Room s → pr.Room (gS s)
 gN_w : ∀ s, IntKind.i32.wrap (gN s) = gN s
 gT_w : ∀ s, IntKind.i64.wrap (gT s) = gT s
 gB_le : ∀ l : List UInt8, l.length ≤ 140737488355328 → (⟨(gB (st0 l)).toArray⟩ : ByteArray).size ≤ 140737488355328
 made : ∀ {E : Env} {MB B D : Nat} {l : List UInt8} {w : World}, Glob E w → Mem E w MB B D l → l.length ≤ 140737488355328 → Calls Tryz.prog 35 #[confV no c, memV MB] w fun e w' =>
  ∃ (K : Rp.Ctx St) (fb fe : FuncId), e = .returned K.V ∧ K.E = E ∧ K.pr = pr ∧ K.Inv (st0 l) w' ∧ Keep (fun _ => False) w w' ∧ (∀ i, K.M w' i → B = i ∨ w.heap.size ≤ i) ∧
   (∀ s W, K.Inv s W → ∃ D', Mem E W MB B D' (rem s)) ∧ (∀ W, K.Some W → ∃ D' s', Mem E W MB B D' s' ∧ Glob E W) ∧ Rp.Msg K gK gS gT gN gB fb fe
 read : ∀ {A : Nat → Prop} (v : Value) (l : List UInt8) (w : World), BytesAt A w v l → l.length ≤ 140737488355328 → Calls Tryz.prog 48 #[confV no c, v] w fun e w' =>
  ∃ r : Rdr St, e = .returned (.pointer (some ⟨r.R, 0, none⟩)) ∧ r.Ok ∧ r.pr = pr ∧ r.Inv (st0 l) w' ∧ Keep (fun _ => False) w w' ∧ (∀ i, r.M w' i → w.heap.size ≤ i) ∧
   (∀ s w2, r.Inv s w2 → Calls Tryz.prog 63 #[.pointer (some ⟨r.R, 0, none⟩)] w2 fun e w3 => e = .returned (.int .i64 (r.pr.len s)) ∧ w2 = w3) ∧
   (∀ s w2, r.Inv s w2 → r.Step 0 w2 (r.GP w2 (gK s) (gS s) (gT s) 0 0 0 (gN s) (gB s))) ∧
   (∀ s w2, r.Inv s w2 → r.Step 1 w2 (r.GP w2 0 s 0 0 0 0 0 []))
section
variable {σ : Type} {r : Rdr σ} {s : σ} {w : World}
end
section
variable {σ : Type} {r : Rdr σ} {s : σ} {w : World}
end
section
variable {σ : Type} {r : Rdr σ} {s : σ} {w : World}
end
section
variable {σ : Type} {r : Rdr σ}
end
def Bin.rdr (R TB DT : Nat) (K : Bin.Ctx) (n : Int) (tl : List Value) : Rdr Bin.St where
 R := R
 pr := Bin.pr K
 M := fun _ i => i = R ∨ i = TB ∨ i = DT
 Inv := fun s w => RdP R TB DT K.c.b K.c n tl s w ∧ DT < w.heap.size
section
variable {R TB DT : Nat} {K : Bin.Ctx} {n : Int} {tl : List Value} {rem : List UInt8} {w : World}
theorem Bin.gp {k : Int} {s' : List UInt8} {T KT SZ ID N : Int} {S : List UInt8} {e : Ending} {w' : World} (h : RdP R TB DT K.c.b K.c n tl rem w) (hD : DT < w.heap.size) (hg : GP R TB DT K.c n tl rem w k s' T KT SZ ID N S e w') :
  (Bin.rdr R TB DT K n tl).GP w k s' T KT SZ ID N S e w' := by
 obtain ⟨x, t, kt, size, id, N', S', rfl, hs, hx, ⟨r', h1, hl, hr⟩, hk, hv⟩ := hg
 refine ⟨x, t, kt, size, id, N', S', rfl, hs, hx, ⟨r', ⟨h1, Nat.lt_of_lt_of_le hD hk.size⟩, hr⟩, ⟨hk.weak (fun i _ e => .inr (.inl e.symm)), fun _ _ x => x⟩, fun hz => ?_⟩
 obtain ⟨v1, v2, v3, v4, v5, v6⟩ := hv hz
 refine ⟨v1, v2, v3, v4, v5, v6.weak (fun i _ hi => ⟨hi, ?_⟩)⟩
 have a1 := lt_of_heap h.blk
 have a2 : TB < w.heap.size := lt_of_cell h.tube.c0
 rintro (rfl | rfl | rfl) <;> omega
theorem Bin.rdr_ok : (Bin.rdr R TB DT K n tl).Ok where
 pr := Bin.ok K
 lt := by
  rintro s w ⟨h, hD⟩ i (rfl | rfl | rfl)
  ·exact lt_of_heap h.blk
  ·exact lt_of_cell h.tube.c0
  ·exact hD
 turn := by
  rintro s w w' N ⟨h, hD⟩ hk hN
  refine ⟨⟨⟨(hk.block R (lt_of_heap h.blk) (fun x => hN _ x (.inl rfl))).trans h.blk, h.tube.keep hk (fun x => hN _ x (.inr (.inl rfl))) (fun _ x => hN _ x (.inr (.inr rfl))), h.ne, h.cok, h.size⟩, Nat.lt_of_lt_of_le hD hk.size⟩, fun _ x => x⟩
 sc := fun {s w} t ht h => (rd_scalar K t ht h.1).mono (fun e w' hg => Bin.gp h.1 h.2 hg)
 sb := fun {s w} h _ => (rd_step 2 (by omega) (by omega) (by omega) h.1 (fun w h => bin_op2 h)).mono (fun e w' hg => Bin.gp h.1 h.2 hg)
 se := fun {s w} h _ => (rd_step 3 (by omega) (by omega) (by omega) h.1 (fun w h => bin_op3 h)).mono (fun e w' hg => Bin.gp h.1 h.2 hg)
 f := fun {s w} h => (rd_step 4 (by omega) (by omega) (by omega) h.1 (fun w h => bin_op4 h)).mono (fun e w' hg => Bin.gp h.1 h.2 hg)
 fe := fun {s w} h => (rd_step 5 (by omega) (by omega) (by omega) h.1 (fun w h => bin_op5 h)).mono (fun e w' hg => Bin.gp h.1 h.2 hg)
 m := fun {s w} h => (rd_step 7 (by omega) (by omega) (by omega) h.1 (fun w h => bin_op7 h)).mono (fun e w' hg => Bin.gp h.1 h.2 hg)
 me := fun {s w} h => (rd_step 8 (by omega) (by omega) (by omega) h.1 (fun w h => bin_op8 h)).mono (fun e w' hg => Bin.gp h.1 h.2 hg)
 l := fun {s w} h => (rd_step 9 (by omega) (by omega) (by omega) h.1 (fun w h => bin_op9 h)).mono (fun e w' hg => Bin.gp h.1 h.2 hg)
 le := fun {s w} h => (rd_step 10 (by omega) (by omega) (by omega) h.1 (fun w h => bin_op10 h)).mono (fun e w' hg => Bin.gp h.1 h.2 hg)
 t := fun {s w} h => (rd_step 11 (by omega) (by omega) (by omega) h.1 (fun w h => bin_op11 h)).mono (fun e w' hg => Bin.gp h.1 h.2 hg)
 te := fun {s w} h => (rd_step 12 (by omega) (by omega) (by omega) h.1 (fun w h => bin_op12 h)).mono (fun e w' hg => Bin.gp h.1 h.2 hg)
end
def Bin.K0 (c : Cfg) : Bin.Ctx := ⟨⟨0, 0, 0, 0, 0⟩, 0, 0, 0, 0, none, c⟩
theorem Sk.cond {k x : Int} (h : Sk k x) (hx : ¬ x = 0) (A : Int) : Sk (if k = 0 then A else k) x := by
 by_cases hk : k = 0
 ·subst hk
  rcases h with h | ⟨_, h⟩ | h
  ·exact .inl h
  ·exact absurd rfl h.1
  ·exact absurd h hx
 ·rw [if_neg hk]; exact h
theorem limits_s (pr : Int) (c : Cfg) (w : World) : Calls Tryz.prog 108 #[confV pr c] w fun e w' => ∃ fr sw, e = .returned (.tuple #[.int .i32 c.maxMsg, .int .i32 fr, .int .i32 c.maxCont, .bool c.strict, .bool sw]) ∧ Keep (fun _ => False) w w' := by
 by_cases hp : c.plain = true
 ·have h1 : c.maxMsg = 104857600 := by simp [Cfg.maxMsg, hp]
  have h2 : c.maxCont = 2147483647 := by simp [Cfg.maxCont, hp]
  have h3 : c.strict = false := by simp [Cfg.strict, hp]
  rw [h1, h2, h3]
  clear h1 h2 h3
  go_enter Tryz.func108, Tryz.ntmps108
  go_wp2_with fail
  go_returns
  exact ⟨_, _, rfl, (Keep.refl _ w).alloc _⟩
 ·have hp0 : c.plain = false := by simpa using hp
  have h3 : c.strict = c.sr := by simp [Cfg.strict, hp0]
  obtain ⟨m, hm⟩ : ∃ m, c.maxMsg = m := ⟨_, rfl⟩
  obtain ⟨t, ht⟩ : ∃ t, c.maxCont = t := ⟨_, rfl⟩
  rw [hm, ht, h3]
  clear h3
  by_cases hm0 : 0 < c.msg
  ·have e1 : m = c.msg := by rw [← hm]; simp [Cfg.maxMsg, hp0]; omega
   rw [e1]
   by_cases ht0 : 0 < c.cont
   ·have e2 : t = c.cont := by rw [← ht]; simp [Cfg.maxCont, hp0]; omega
    rw [e2]
    clear hm ht e1 e2 hp
    go_enter Tryz.func108, Tryz.ntmps108
    go_wp2_with fail
    all_goals (go_quiet (fail))
    all_goals (go_wp2_with fail)
    all_goals go_returns
    all_goals exact ⟨_, _, rfl, ((Keep.refl _ w).alloc _).drewN _⟩
   ·have e2 : t = 2147483647 := by rw [← ht]; simp [Cfg.maxCont, hp0]; omega
    rw [e2]
    clear hm ht e1 e2 hp
    go_enter Tryz.func108, Tryz.ntmps108
    go_wp2_with fail
    all_goals (go_quiet (fail))
    all_goals (go_wp2_with fail)
    all_goals go_returns
    all_goals exact ⟨_, _, rfl, ((Keep.refl _ w).alloc _).drewN _⟩
  ·have e1 : m = 104857600 := by rw [← hm]; simp [Cfg.maxMsg, hp0]; omega
   rw [e1]
   by_cases ht0 : 0 < c.cont
   ·have e2 : t = c.cont := by rw [← ht]; simp [Cfg.maxCont, hp0]; omega
    rw [e2]
    clear hm ht e1 e2 hp
    go_enter Tryz.func108, Tryz.ntmps108
    go_wp2_with fail
    all_goals (go_quiet (fail))
    all_goals (go_wp2_with fail)
    all_goals go_returns
    all_goals exact ⟨_, _, rfl, ((Keep.refl _ w).alloc _).drewN _⟩
   ·have e2 : t = 2147483647 := by rw [← ht]; simp [Cfg.maxCont, hp0]; omega
    rw [e2]
    clear hm ht e1 e2 hp
    go_enter Tryz.func108, Tryz.ntmps108
    go_wp2_with fail
    all_goals (go_quiet (fail))
    all_goals (go_wp2_with fail)
    all_goals go_returns
    all_goals exact ⟨_, _, rfl, ((Keep.refl _ w).alloc _).drewN _⟩
section
variable {R TB DT : Nat} {c : Cfg} {n : Int} {tl : List Value} {rem : List UInt8} {w : World}
theorem gp_ret {f : Func} {slot : Nat} {a : Act} {U : Nat} {k x t kt size id nn T KT SZ ID N : Int} {S' : Value} {S r' s' : List UInt8} {w1 : World} {v0 v1 v2' v3 v4 v5 v6 : Value} (hf : f.results = #[.cell slot 75]) (hd : a.defers = []) (ha : a.tmps[slot]?.getD undef = .pointer (some ⟨U, 0, none⟩))
  (hR : RdP R TB DT c.b c n tl rem w) (h1 : RdP R TB DT c.b c n tl r' w1) (hk : Keep (TB = ·) w w1) (hU : w.heap.size = U) (hle : r'.length ≤ rem.length) (HU : w1.heap[U]? = some (.cells #[v0, v1, v2', v3, v4, v5, v6] 75 (0, 0))) (hs : ∃ a m cc, S' = .slice a m cc)
  (hx : Sk k x) (hv : x = 0 → r' = s' ∧ t = T ∧ kt = KT ∧ size = SZ ∧ id = ID ∧ nn = N ∧ BytesAt (U + 1 ≤ ·) w1 S' S) : bodyPost Tryz.prog f (GP R TB DT c n tl rem w k s' T KT SZ ID N S) Exit.ret a (gotW w1 U x t kt size id nn S') := by
 obtain ⟨h9, hk9⟩ := RdP.got hR h1 hk hU hle x t kt size id nn S'
 exact ret_got (U := U) hf hd ha (got_set HU _ _ _ _ _ _ _) ⟨_, _, _, _, _, _, _, rfl, hs, hx, ⟨_, h9, hle, fun hz => (hv hz).1⟩, hk9, fun hz => ⟨(hv hz).2.1, (hv hz).2.2.1, (hv hz).2.2.2.1, (hv hz).2.2.2.2.1, (hv hz).2.2.2.2.2.1, BytesAt.got (hv hz).2.2.2.2.2.2 hU _ _ _ _ _ _ _⟩⟩
theorem numZ4 {s : List UInt8} (h : 4 ≤ s.length) : numZ (s.take 4) = wrap32 (Lib.beNat (s.take 4)) := numZ_four _ (by rw [List.length_take]; omega)
theorem strN_bd (s : List UInt8) : -2147483648 ≤ strN s ∧ strN s ≤ 2147483647 := by simp only [strN, wrap32]; omega
set_option maxRecDepth 100000 in
theorem rd_msg (hR : RdP R TB DT c.b c n tl rem w) : Calls Tryz.prog 116 #[.pointer (some ⟨R, 0, none⟩)] w (GP R TB DT c n tl rem w (bmK rem c) (bmS rem) (bmT rem) 0 0 0 (bmN rem) (bmB rem)) := by
 have hTU : TB < w.heap.size := lt_of_cell hR.tube.c0
 have hk0 : Keep (fun _ => False) w (w.alloc (.cells zGot 75)) := (Keep.refl _ w).alloc _
 have hU0 := heap_alloc_new w (.cells zGot 75)
 have HH := hdd hR
 go_enter Tryz.func116, Tryz.ntmps116
 go_wp2_with fail
 have hsA : (w.alloc (.cells zGot 75)).heap.size = w.heap.size + 1 := by simp
 generalize w.alloc (.cells zGot 75) = wA at *
 obtain ⟨U, hU⟩ : ∃ U, w.heap.size = U := ⟨_, rfl⟩
 rw [hU] at hU0 hTU hsA ⊢
 have HUS := hdd hU
 clear hU
 refine (rd_whole (hR.fresh hk0) 4 (by omega)).mono ?_
 rintro e w1 ⟨z, rfl, h1, hk1, hz⟩
 have HK1 := hdd ((hk0.weak (fun _ _ x => x.elim) : Keep (TB = ·) w wA).then hk1)
 have HU1 := hdd ((hk1.block U (lt_of_heap hU0) (by omega)).trans hU0)
 have hs1 : U + 1 ≤ w1.heap.size := by have := hk1.size; omega
 clear hk1 hU0
 by_cases hl : rem.length < 4
 ·have e1 : fullK 4 rem = 10 := by simp [fullK]; omega
  have HKK : Hid (bmK rem c = 10) := hdd (by simp only [bmK, if_pos hl])
  obtain ⟨u0, u1, u2, u3, u4, u5, u6⟩ := got_cells HU1.out
  obtain ⟨f0, f1, f2, f3, f4, f5, f6⟩ := got_free HU1.out
  rw [e1]
  clear hz e1
  go_wp2_with fail
  exact gp_ret (U := U) Tryz.results116 rfl rfl HH.out h1 HK1.out HUS.out (by simp) HU1.out ⟨_, _, _, rfl⟩ (by rw [HKK.out]; exact .inr (.inr rfl)) (fun hh => by cases hh)
 ·have e1 : fullK 4 rem = 0 := by simp [fullK]; omega
  have hz2 : z = strN rem := (hz (by omega)).trans (numZ_four _ (by simp; omega))
  subst hz2
  obtain ⟨nn, hnn⟩ : ∃ nn, strN rem = nn := ⟨_, rfl⟩
  have hb1 := strN_bd rem
  rw [hnn] at hb1 ⊢
  obtain ⟨hlo, hhi⟩ := hb1
  rw [e1]
  have HN := hdd hnn
  have HL := hdd hl
  clear hz e1 hnn hl
  obtain ⟨c0, c1, c2, c3, c4, c5, c6, c7, c8⟩ := h1.cells
  go_wp2_with fail
  refine (limits_s c.b c _).mono ?_
  rintro e w2 ⟨fr, sw, rfl, hk2⟩
  have h2 := h1.fresh hk2
  have HK2 := hdd (HK1.out.then (hk2.weak (fun _ _ x => x.elim)))
  have HU2 := hdd ((hk2.block U (lt_of_heap HU1.out) id).trans HU1.out)
  have hs2 : U + 1 ≤ w2.heap.size := by have := hk2.size; omega
  obtain ⟨u0, u1, u2, u3, u4, u5, u6⟩ := got_cells HU2.out
  obtain ⟨f0, f1, f2, f3, f4, f5, f6⟩ := got_free HU2.out
  clear c0 c1 c2 c3 c4 c5 c6 c7 c8 hk2 h1
  by_cases hn0 : nn < 0
  ·have ha := and255_w64 nn
   obtain ⟨q, hq⟩ : ∃ q, lo8 nn = q := ⟨_, rfl⟩
   have hqb := lo8_bd nn
   rw [hq] at ha hqb
   obtain ⟨hq0, hq1⟩ := hqb
   have HBB : Hid (bmB rem = strS (rem.drop 4)) := hdd (by simp only [bmB, HN.out, if_pos hn0])
   have HTT : Hid (bmT rem = q) := hdd (by simp only [bmT, HN.out, if_pos hn0, hq])
   have HNN : Hid (bmN rem = wrap32 (Lib.beNat ((strRem (rem.drop 4)).take 4))) := hdd (by simp only [bmN, HN.out, if_pos hn0])
   have HSS : Hid (bmS rem = (strRem (rem.drop 4)).drop 4) := hdd (by simp only [bmS, HN.out, if_pos hn0])
   clear hq
   by_cases hver : bits BinOp.and IntKind.i64 nn 4294901760 = 2147549184
   ·have HKA : Hid (bmK rem c = if strK (rem.drop 4) c = 0 then fullK 4 (strRem (rem.drop 4)) else strK (rem.drop 4) c) := hdd (by simp only [bmK, if_neg HL.out, HN.out, if_pos hn0, verN, if_pos hver])
    go_wp2_with fail
    refine (rd_whole h2 4 (by omega)).mono ?_
    rintro e w3 ⟨z, rfl, h3, hk3, hz⟩
    have HK3 := hdd (HK2.out.then hk3)
    have HU3 := hdd ((hk3.block U (lt_of_heap HU2.out) (by omega)).trans HU2.out)
    have hs3 : U + 1 ≤ w3.heap.size := by have := hk3.size; omega
    clear u0 u1 u2 u3 u4 u5 u6 f0 f1 f2 f3 f4 f5 f6
    obtain ⟨u0, u1, u2, u3, u4, u5, u6⟩ := got_cells HU3.out
    obtain ⟨f0, f1, f2, f3, f4, f5, f6⟩ := got_free HU3.out
    clear hk3
    by_cases hl2 : (rem.drop 4).length < 4
    ·have e1 : fullK 4 (rem.drop 4) = 10 := by unfold fullK; rw [if_neg (by omega)]
     have HKK : Hid (bmK rem c = 10) := hdd (by rw [HKA.out, show strK (rem.drop 4) c = 10 by simp only [strK, if_pos hl2]]; simp)
     rw [e1]
     clear hz e1
     go_wp2_with fail
     exact gp_ret (U := U) Tryz.results116 rfl rfl HH.out h3 HK3.out HUS.out (by simp <;> omega) HU3.out ⟨_, _, _, rfl⟩ (by rw [HKK.out]; exact .inr (.inr rfl)) (fun hh => by cases hh)
    ·have e1 : fullK 4 (rem.drop 4) = 0 := by unfold fullK; rw [if_pos (by omega)]
     have hz2 : z = strN (rem.drop 4) := (hz (by omega)).trans (numZ_four _ (by rw [List.length_take]; omega))
     subst hz2
     have HSK : Hid (strK (rem.drop 4) c = if sizeK (strN (rem.drop 4)) c = 0 then fullK (strN (rem.drop 4)).toNat ((rem.drop 4).drop 4) else sizeK (strN (rem.drop 4)) c) := hdd (by simp only [strK, if_neg hl2])
     have HSR : Hid (strRem (rem.drop 4) = ((rem.drop 4).drop 4).drop (strN (rem.drop 4)).toNat) := hdd rfl
     have HSS' : Hid (strS (rem.drop 4) = ((rem.drop 4).drop 4).take (strN (rem.drop 4)).toNat) := hdd rfl
     obtain ⟨sz, hsz⟩ : ∃ sz, strN (rem.drop 4) = sz := ⟨_, rfl⟩
     have hb2 := strN_bd (rem.drop 4)
     rw [hsz] at hb2 HSK HSR HSS' ⊢
     obtain ⟨hlo2, hhi2⟩ := hb2
     rw [e1]
     clear hz e1 hsz hl2
     go_wp2_with fail
     refine (rd_bytes h3 sz hlo2 hhi2).mono ?_
     rintro e w4 ⟨S, x, rfl, hx, ⟨r', h4, hle, hr⟩, hk4, hb, Sa, Sm, Sc, rfl⟩
     have HK4 := hdd (HK3.out.then hk4)
     have HU4 := hdd ((hk4.block U (lt_of_heap HU3.out) (by omega)).trans HU3.out)
     have hs4 : U + 1 ≤ w4.heap.size := by have := hk4.size; omega
     have HLE := hdd (show r'.length ≤ rem.length by simp at hle; omega)
     clear u0 u1 u2 u3 u4 u5 u6 f0 f1 f2 f3 f4 f5 f6
     obtain ⟨u0, u1, u2, u3, u4, u5, u6⟩ := got_cells HU4.out
     obtain ⟨f0, f1, f2, f3, f4, f5, f6⟩ := got_free HU4.out
     have HX : Hid (Sk (strK (rem.drop 4) c) x) := hdd (HSK.out ▸ hx)
     clear hx hk4 hle
     by_cases hx0 : x = 0
     ·subst hx0
      have hr1 := hr rfl
      have HB := hdd ((hb rfl).weak (A' := (U + 1 ≤ ·)) (fun i _ hi => by omega))
      rw [← HSR.out] at hr1
      subst hr1
      clear hr hb
      go_wp2_with fail
      refine (rd_whole h4 4 (by omega)).mono ?_
      rintro e w5 ⟨z, rfl, h5, hk5, hz⟩
      have HK5 := hdd (HK4.out.then hk5)
      have HU5 := hdd ((hk5.block U (lt_of_heap HU4.out) (by omega)).trans HU4.out)
      have HB5 := hdd (HB.out.keep hk5 (fun i hi e => by omega))
      clear u0 u1 u2 u3 u4 u5 u6 f0 f1 f2 f3 f4 f5 f6
      obtain ⟨u0, u1, u2, u3, u4, u5, u6⟩ := got_cells HU5.out
      obtain ⟨f0, f1, f2, f3, f4, f5, f6⟩ := got_free HU5.out
      have HKB : Hid (bmK rem c = fullK 4 (strRem (rem.drop 4))) := hdd (HKA.out.trans (if_pos (Sk.zero HX.out)))
      have HZ := hdd hz
      clear hk5 hz
      obtain ⟨kk, hkk⟩ : ∃ kk, fullK 4 (strRem (rem.drop 4)) = kk := ⟨_, rfl⟩
      rw [hkk]
      have HKKK := hdd hkk
      clear hkk
      go_wp2_with fail
      exact gp_ret (U := U) Tryz.results116 rfl rfl HH.out h5 HK5.out HUS.out (by have := HLE.out; simp; omega) HU5.out ⟨_, _, _, rfl⟩ (by rw [HKB.out, HKKK.out]; exact .inr (.inr rfl)) (fun hh => ⟨HSS.out.symm, HTT.out.symm, rfl, rfl, rfl, by rw [HNN.out]; exact (HZ.out (fullK_len (HKKK.out.trans hh))).trans (numZ4 (fullK_len (HKKK.out.trans hh))), by rw [HBB.out, HSS'.out]; exact HB5.out⟩)
     ·have hxb : (x == 0) = false := by simpa using hx0
      have HX0 := hdd hx0
      clear hr hb
      go_wp2_with fail
      exact gp_ret (U := U) Tryz.results116 rfl rfl HH.out h4 HK4.out HUS.out HLE.out HU4.out ⟨_, _, _, rfl⟩ (by rw [HKA.out]; exact HX.out.cond HX0.out _) (fun hh => absurd hh HX0.out)
   ·have HKK : Hid (bmK rem c = 14) := hdd (by simp only [bmK, if_neg HL.out, HN.out, if_pos hn0, verN, if_neg hver])
    go_wp2_with fail
    exact gp_ret (U := U) Tryz.results116 rfl rfl HH.out h2 HK2.out HUS.out (by simp) HU2.out ⟨_, _, _, rfl⟩ (by rw [HKK.out]; exact .inr (.inr rfl)) (fun hh => by cases hh)
  ·have HBB : Hid (bmB rem = strS rem) := hdd (by simp only [bmB, HN.out, if_neg hn0])
   have HTT : Hid (bmT rem = match strRem rem with | b :: _ => IntKind.i8.wrap b.toNat | [] => 0) := hdd (by simp only [bmT, HN.out, if_neg hn0]; rfl)
   have HNN : Hid (bmN rem = wrap32 (Lib.beNat (((strRem rem).drop 1).take 4))) := hdd (by simp only [bmN, HN.out, if_neg hn0])
   have HSS : Hid (bmS rem = ((strRem rem).drop 1).drop 4) := hdd (by simp only [bmS, HN.out, if_neg hn0])
   have HKA : Hid (bmK rem c = if c.strict = true then 14 else if strK rem c = 0 then (if endK 1 (strRem rem) = 0 then fullK 4 ((strRem rem).drop 1) else endK 1 (strRem rem)) else strK rem c) := hdd (by simp only [bmK, if_neg HL.out, HN.out, if_neg hn0])
   have HSK : Hid (strK rem c = if sizeK nn c = 0 then fullK nn.toNat (rem.drop 4) else sizeK nn c) := hdd (by simp only [strK, if_neg HL.out, HN.out])
   have HSR : Hid (strRem rem = (rem.drop 4).drop nn.toNat) := hdd (by simp only [strRem, HN.out])
   have HSTR : Hid (strS rem = (rem.drop 4).take nn.toNat) := hdd (by simp only [strS, HN.out])
   by_cases hst : c.strict = true
   ·have HKK : Hid (bmK rem c = 14) := hdd (HKA.out.trans (if_pos hst))
    rw [hst]
    go_wp2_with fail
    exact gp_ret (U := U) Tryz.results116 rfl rfl HH.out h2 HK2.out HUS.out (by simp) HU2.out ⟨_, _, _, rfl⟩ (by rw [HKK.out]; exact .inr (.inr rfl)) (fun hh => by cases hh)
   ·have hst0 : c.strict = false := by simpa using hst
    have HKB : Hid (bmK rem c = if strK rem c = 0 then (if endK 1 (strRem rem) = 0 then fullK 4 ((strRem rem).drop 1) else endK 1 (strRem rem)) else strK rem c) := hdd (HKA.out.trans (if_neg hst))
    rw [hst0]
    clear hst hst0
    go_wp2_with fail
    refine (rd_bytes h2 nn hlo hhi).mono ?_
    rintro e w4 ⟨S, x, rfl, hx, ⟨r', h4, hle, hr⟩, hk4, hb, Sa, Sm, Sc, rfl⟩
    have HK4 := hdd (HK2.out.then hk4)
    have HU4 := hdd ((hk4.block U (lt_of_heap HU2.out) (by omega)).trans HU2.out)
    have hs4 : U + 1 ≤ w4.heap.size := by have := hk4.size; omega
    have HLE := hdd (show r'.length ≤ rem.length by simp at hle; omega)
    clear u0 u1 u2 u3 u4 u5 u6 f0 f1 f2 f3 f4 f5 f6
    obtain ⟨u0, u1, u2, u3, u4, u5, u6⟩ := got_cells HU4.out
    obtain ⟨f0, f1, f2, f3, f4, f5, f6⟩ := got_free HU4.out
    have HX : Hid (Sk (strK rem c) x) := hdd (HSK.out ▸ hx)
    clear hx hk4 hle
    by_cases hx0 : x = 0
    ·subst hx0
     have hr1 := hr rfl
     have HB := hdd ((hb rfl).weak (A' := (U + 1 ≤ ·)) (fun i _ hi => by omega))
     rw [← HSR.out] at hr1
     subst hr1
     have HKC : Hid (bmK rem c = if endK 1 (strRem rem) = 0 then fullK 4 ((strRem rem).drop 1) else endK 1 (strRem rem)) := hdd (HKB.out.trans (if_pos (Sk.zero HX.out)))
     clear hr hb
     go_wp2_with fail
     refine (rd_one h4).mono ?_
     rintro e w5 ⟨bt, rfl, h5, hk5, hbt⟩
     have HK5 := hdd (HK4.out.then hk5)
     have HU5 := hdd ((hk5.block U (lt_of_heap HU4.out) (by omega)).trans HU4.out)
     have HB5 := hdd (HB.out.keep hk5 (fun i hi e => by omega))
     have hs5 : U + 1 ≤ w5.heap.size := by have := hk5.size; omega
     clear u0 u1 u2 u3 u4 u5 u6 f0 f1 f2 f3 f4 f5 f6
     obtain ⟨u0, u1, u2, u3, u4, u5, u6⟩ := got_cells HU5.out
     obtain ⟨f0, f1, f2, f3, f4, f5, f6⟩ := got_free HU5.out
     clear hk5
     rcases endK1_cases (strRem rem) with ⟨hq, hq2⟩ | ⟨hq, b, r, hq2⟩
     ·have HKD : Hid (bmK rem c = 1) := hdd (by rw [HKC.out, hq]; simp)
      rw [hq]
      clear hbt
      go_wp2_with fail
      exact gp_ret (U := U) Tryz.results116 rfl rfl HH.out h5 HK5.out HUS.out (by have := HLE.out; simp; omega) HU5.out ⟨_, _, _, rfl⟩ (by rw [HKD.out]; exact .inr (.inr rfl)) (fun hh => by cases hh)
     ·have HKD : Hid (bmK rem c = fullK 4 ((strRem rem).drop 1)) := hdd (by rw [HKC.out, hq]; simp)
      have hbb := hbt b r hq2
      subst hbb
      obtain ⟨tt, htt⟩ : ∃ tt, IntKind.i8.wrap (b.toNat : Int) = tt := ⟨_, rfl⟩
      have htb := i8_bd2 (b.toNat : Int)
      rw [htt] at htb
      obtain ⟨htb1, htb2⟩ := htb
      have HTT2 : Hid (bmT rem = tt) := hdd (by rw [HTT.out, hq2, ← htt])
      have hb8 := b.toNat_lt
      rw [hq]
      clear hbt hq hq2
      go_wp2_with fail
      refine (rd_whole h5 4 (by omega)).mono ?_
      rintro e w6 ⟨z, rfl, h6, hk6, hz⟩
      have HK6 := hdd (HK5.out.then hk6)
      have HU6 := hdd ((hk6.block U (lt_of_heap HU5.out) (by omega)).trans HU5.out)
      have HB6 := hdd (HB5.out.keep hk6 (fun i hi e => by omega))
      clear u0 u1 u2 u3 u4 u5 u6 f0 f1 f2 f3 f4 f5 f6
      obtain ⟨u0, u1, u2, u3, u4, u5, u6⟩ := got_cells HU6.out
      obtain ⟨f0, f1, f2, f3, f4, f5, f6⟩ := got_free HU6.out
      have HZ := hdd hz
      clear hk6 hz
      obtain ⟨kk, hkk⟩ : ∃ kk, fullK 4 ((strRem rem).drop 1) = kk := ⟨_, rfl⟩
      rw [hkk]
      have HKKK := hdd hkk
      clear hkk
      go_wp2_with fail
      exact gp_ret (U := U) Tryz.results116 rfl rfl HH.out h6 HK6.out HUS.out (by have := HLE.out; simp; omega) HU6.out ⟨_, _, _, rfl⟩ (by rw [HKD.out, HKKK.out]; exact .inr (.inr rfl)) (fun hh => ⟨HSS.out.symm, HTT2.out.symm, rfl, rfl, rfl, by rw [HNN.out]; exact (HZ.out (fullK_len (HKKK.out.trans hh))).trans (numZ4 (fullK_len (HKKK.out.trans hh))), by rw [HBB.out, HSTR.out]; exact HB6.out⟩)
    ·have HX0 := hdd hx0
     clear hr hb
     go_wp2_with fail
     exact gp_ret (U := U) Tryz.results116 rfl rfl HH.out h4 HK4.out HUS.out HLE.out HU4.out ⟨_, _, _, rfl⟩ (by rw [HKB.out]; exact HX.out.cond HX0.out _) (fun hh => absurd hh HX0.out)
set_option maxRecDepth 100000 in
theorem bin_op0 (hR : RdP R TB DT c.b c n tl rem w) : Calls Tryz.prog 83 #[.pointer (some ⟨R, 0, none⟩), .int .i64 0] w (GP R TB DT c n tl rem w (bmK rem c) (bmS rem) (bmT rem) 0 0 0 (bmN rem) (bmB rem)) := by
 have hTU : TB < w.heap.size := lt_of_cell hR.tube.c0
 have hk0 : Keep (fun _ => False) w (w.alloc (.cells zGot 75)) := (Keep.refl _ w).alloc _
 have hU0 := heap_alloc_new w (.cells zGot 75)
 go_enter Tryz.func83, Tryz.ntmps83
 go_wp2_with fail
 obtain ⟨U, hU⟩ : ∃ U, w.heap.size = U := ⟨_, rfl⟩
 have hUs : (w.alloc (.cells zGot 75)).heap.size = U + 1 := by simp [hU]
 generalize w.alloc (.cells zGot 75) = wA at *
 rw [hU] at hU0 hTU ⊢
 refine (rd_msg (hR.fresh hk0)).mono ?_
 rintro e w1 ⟨x, t, kt, size, id, N', S', rfl, ⟨Sa, Sm, Sc, rfl⟩, hx, ⟨r', h1, hle, hr⟩, hk1, hv⟩
 have HU := hdd ((hk1.block U (lt_of_heap hU0) (by omega)).trans hU0)
 have HX := hdd hx
 have HR := hdd hr
 have HV := hdd hv
 have HLE := hdd hle
 clear hx hr hv hle
 obtain ⟨u0, u1, u2, u3, u4, u5, u6⟩ := got_cells HU.out
 obtain ⟨f0, f1, f2, f3, f4, f5, f6⟩ := got_free HU.out
 go_wp2_with fail
 exact gp_ret (U := U) Tryz.results83 rfl rfl hR h1 ((hk0.weak (fun _ _ x => x.elim)).then hk1) hU HLE.out HU.out ⟨_, _, _, rfl⟩ HX.out (fun hz => ⟨HR.out hz, (HV.out hz).1, (HV.out hz).2.1, (HV.out hz).2.2.1, (HV.out hz).2.2.2.1, (HV.out hz).2.2.2.2.1, by rw [← hUs]; exact (HV.out hz).2.2.2.2.2⟩)
set_option maxRecDepth 100000 in
theorem bin_op1 (hR : RdP R TB DT c.b c n tl rem w) : Calls Tryz.prog 83 #[.pointer (some ⟨R, 0, none⟩), .int .i64 1] w (GP R TB DT c n tl rem w 0 rem 0 0 0 0 0 []) := by
 have hk0 : Keep (fun _ => False) w (w.alloc (.cells zGot 75)) := (Keep.refl _ w).alloc _
 have hU0 := heap_alloc_new w (.cells zGot 75)
 go_enter Tryz.func83, Tryz.ntmps83
 go_wp2_with fail
 exact ret_got (U := w.heap.size) (k := 0) (t := 0) (kt := 0) (size := 0) (id := 0) (n := 0) (s := .slice none 0 0) Tryz.results83 rfl rfl hU0 ⟨0, 0, 0, 0, 0, 0, .slice none 0 0, rfl, ⟨_, _, _, rfl⟩, .inr (.inr rfl), ⟨_, hR.fresh hk0, Nat.le_refl _, fun _ => rfl⟩, hk0.weak (fun _ _ x => x.elim), fun _ => ⟨rfl, rfl, rfl, rfl, rfl, BytesAt.nil _ _⟩⟩
end
end Go.Proofs.YtjekbomlpcdojaaGreatDoor
