/- Part 29 of the proof: Cmp0, Zig. -/
import Derived.Test.YthehmlbolajljaaGreatDoorA10
set_option linter.unusedVariables false
set_option linter.unusedSimpArgs false
set_option linter.unusedSectionVars false
namespace Go.Proofs.YthehmlbolajljaaGreatDoor
open Go Go.RowKit
structure Cmp.St where
  rem : List UInt8
  last : Int
  outer : List Int
  pend : Bool
  val : Bool
def vGo : Nat → List UInt8 → Int × Nat × List UInt8
  | 0, l => (11, 0, l)
  | _ + 1, [] => (1, 0, [])
  | n + 1, b :: r => if b.toNat < 128 then (0, b.toNat, r) else ((vGo n r).1, b.toNat % 128 + 128 * (vGo n r).2.1, (vGo n r).2.2)
def vK (l : List UInt8) : Int := (vGo 10 l).1
def vN (l : List UInt8) : Nat := (vGo 10 l).2.1
def vR (l : List UInt8) : List UInt8 := (vGo 10 l).2.2
theorem vGo_kind : ∀ n l, (vGo n l).1 = 0 ∨ (vGo n l).1 = 1 ∨ (vGo n l).1 = 11
  | 0, l => .inr (.inr rfl)
  | _ + 1, [] => .inr (.inl rfl)
  | n + 1, b :: r => by
    simp only [vGo]
    split
    · exact .inl rfl
    · exact vGo_kind n r
theorem vK_kind (l : List UInt8) : vK l = 0 ∨ vK l = 1 ∨ vK l = 11 := vGo_kind 10 l
theorem vGo_le : ∀ n l, (vGo n l).2.2.length ≤ l.length
  | 0, l => Nat.le_refl _
  | _ + 1, [] => Nat.le_refl _
  | n + 1, b :: r => by
    simp only [vGo]
    split
    · simp
    · have := vGo_le n r
      simp
      omega
theorem vR_le (l : List UInt8) : (vR l).length ≤ l.length := vGo_le 10 l
theorem vR_lt (l : List UInt8) (h : vK l = 0) : (vR l).length < l.length := by
  cases l with
  | nil => simp [vK, vGo] at h
  | cons b r =>
    simp only [vR, vGo]
    split
    · simp
    · have := vGo_le 9 r
      simp
      omega
def zz (u : Nat) : Int := if u % 2 = 0 then ((u / 2 : Nat) : Int) else -((u / 2 : Nat) : Int) - 1
def v32 (l : List UInt8) : Int := match l with | [] => 0 | b :: r => wrap32 (vN (b :: r))
theorem v32_eq (l : List UInt8) : v32 l = wrap32 (vN l) := by
  cases l with
  | nil => simp [v32, vN, vGo, wrap32]
  | cons b r => rfl
def z32 (l : List UInt8) : Int := zz (vN l % 4294967296)
def z64 (l : List UInt8) : Int := zz (vN l % 18446744073709551616)
theorem v32_bd (l : List UInt8) : -2147483648 ≤ v32 l ∧ v32 l ≤ 2147483647 := by rw [v32_eq]; simp only [wrap32]; omega
theorem zz_bd (u m : Nat) (h : u < 2 * m) : -(m : Int) ≤ zz u ∧ zz u < m := by unfold zz; split <;> omega
def cty (n : Nat) : Int := if n = 1 ∨ n = 2 then 2 else if n = 3 then 3 else if n = 4 then 6 else if n = 5 then 8 else if n = 6 then 10 else if n = 7 then 4 else if n = 8 then 11 else if n = 9 then 15 else if n = 10 then 14 else if n = 11 then 13 else if n = 12 then 12 else if n = 13 then 16 else 0
def ctyK (n : Nat) : Int := if n = 14 ∨ n = 15 then 10 else 0
def minCmp (t : Int) : Int := if t = 4 then 8 else if t = 16 then 16 else 1
theorem minCmp_bd (t : Int) : 1 ≤ minCmp t ∧ minCmp t ≤ 16 := by unfold minCmp; split; omega; split <;> omega
theorem cty_bd (n : Nat) : 0 ≤ cty n ∧ cty n ≤ 16 := by unfold cty; repeat' split
                                                        all_goals omega
def cstrK (l : List UInt8) (c : Cfg) : Int := if vK l = 0 then (if sizeK (v32 l) c = 0 then fullK (v32 l).toNat (vR l) else sizeK (v32 l) c) else pk (vK l)
def cstrS (l : List UInt8) : List UInt8 := (vR l).take (v32 l).toNat
def cstrRem (l : List UInt8) : List UInt8 := (vR l).drop (v32 l).toNat
abbrev Cmp.St.at (s : Cmp.St) (l : List UInt8) : Cmp.St := { s with rem := l }
def Cmp.scK (c : Cfg) (t : Int) (s : Cmp.St) : Int :=
  if t = 2 then (if s.pend = true then 0 else endK 1 s.rem) else if t = 3 then fullK 1 s.rem else if t = 6 ∨ t = 8 ∨ t = 10 then pk (vK s.rem) else if t = 4 then fullK 8 s.rem else if t = 11 then cstrK s.rem c else fullK 16 s.rem
def Cmp.scR (t : Int) (s : Cmp.St) : List UInt8 :=
  if t = 2 then (if s.pend = true then s.rem else s.rem.drop 1) else if t = 3 then s.rem.drop 1 else if t = 6 ∨ t = 8 ∨ t = 10 then vR s.rem else if t = 4 then s.rem.drop 8 else if t = 11 then cstrRem s.rem else s.rem.drop 16
def Cmp.scS (t : Int) (s : Cmp.St) : Cmp.St := { s with rem := Cmp.scR t s, pend := if t = 2 then false else s.pend }
def Cmp.scN (t : Int) (s : Cmp.St) : Int :=
  if t = 2 then (if s.pend = true then (if s.val = true then 1 else 0) else (match s.rem with | b :: _ => if (b == 1) = true then 1 else 0 | _ => 0)) else if t = 3 then (match s.rem with | b :: _ => IntKind.i8.wrap b.toNat | _ => 0) else
  if t = 6 then IntKind.i16.wrap (z32 s.rem) else if t = 8 then z32 s.rem else if t = 10 then z64 s.rem else if t = 4 then wrap64 (Lib.leNat (s.rem.take 8)) else 0
def Cmp.scB (t : Int) (s : Cmp.St) : List UInt8 := if t = 11 then cstrS s.rem else if t = 16 then s.rem.take 16 else []
def Cmp.sbS (s : Cmp.St) : Cmp.St := { s with outer := s.outer ++ [s.last], last := 0 }
def Cmp.seS (s : Cmp.St) : Cmp.St := { s with outer := s.outer.dropLast, last := s.outer.getLast?.getD 0 }
def Cmp.fK (s : Cmp.St) : Int := match s.rem with
  | [] => 1
  | b :: r => if b.toNat % 16 = 0 then 0 else if b.toNat / 16 = 0 then (if vK r = 0 then ctyK (b.toNat % 16) else pk (vK r)) else ctyK (b.toNat % 16)
def Cmp.fI (s : Cmp.St) : Int := match s.rem with
  | [] => 0
  | b :: r => if b.toNat % 16 = 0 then 0 else if b.toNat / 16 = 0 then IntKind.i16.wrap (z32 r) else IntKind.i16.wrap (IntKind.i16.wrap s.last + (b.toNat / 16 : Nat))
def Cmp.fT (s : Cmp.St) : Int := match s.rem with
  | [] => 0
  | b :: _ => if b.toNat % 16 = 0 then 0 else cty (b.toNat % 16)
def Cmp.fS (s : Cmp.St) : Cmp.St := match s.rem with
  | [] => s
  | b :: r => if b.toNat % 16 = 0 then s.at r else
    { rem := if b.toNat / 16 = 0 then vR r else r, last := Cmp.fI s, outer := s.outer,
      pend := if b.toNat % 16 = 1 ∨ b.toNat % 16 = 2 then true else s.pend, val := if b.toNat % 16 = 1 ∨ b.toNat % 16 = 2 then b.toNat % 16 == 1 else s.val }
def Cmp.mK (c : Cfg) (s : Cmp.St) : Int :=
  if vK s.rem = 0 then (if v32 s.rem = 0 then contK 0 2 (vR s.rem).length c else match vR s.rem with
    | [] => 1
    | b :: r => contK (v32 s.rem) (minCmp (cty (b.toNat / 16)) + minCmp (cty (b.toNat % 16))) r.length c) else pk (vK s.rem)
def Cmp.mS (s : Cmp.St) : Cmp.St := s.at (if v32 s.rem = 0 then vR s.rem else (vR s.rem).drop 1)
def Cmp.mKT (s : Cmp.St) : Int := if v32 s.rem = 0 then 0 else match vR s.rem with | [] => 0 | b :: _ => cty (b.toNat / 16)
def Cmp.mT (s : Cmp.St) : Int := if v32 s.rem = 0 then 0 else match vR s.rem with | [] => 0 | b :: _ => cty (b.toNat % 16)
def Cmp.lK (c : Cfg) (s : Cmp.St) : Int := match s.rem with
  | [] => 1
  | b :: r => if b.toNat / 16 = 15 then (if vK r = 0 then (if ctyK (b.toNat % 16) = 0 then contK (v32 r) (minCmp (cty (b.toNat % 16))) (vR r).length c else 10) else pk (vK r))
    else (if ctyK (b.toNat % 16) = 0 then contK ((b.toNat / 16 : Nat) : Int) (minCmp (cty (b.toNat % 16))) r.length c else 10)
def Cmp.lS (s : Cmp.St) : Cmp.St := s.at (match s.rem with | [] => [] | b :: r => if b.toNat / 16 = 15 then vR r else r)
def Cmp.lT (s : Cmp.St) : Int := match s.rem with | [] => 0 | b :: _ => cty (b.toNat % 16)
def Cmp.lN (s : Cmp.St) : Int := match s.rem with | [] => 0 | b :: r => if b.toNat / 16 = 15 then v32 r else ((b.toNat / 16 : Nat) : Int)
def Cmp.prc (c : Cfg) : Pr Cmp.St where
  len := fun s => s.rem.length
  dep := fun s => s.outer.length
  one := 1
  scK := Cmp.scK c
  scS := Cmp.scS
  scN := Cmp.scN
  scB := Cmp.scB
  sbS := Cmp.sbS
  seS := Cmp.seS
  feS := id
  meS := id
  leS := id
  fK := Cmp.fK
  fS := Cmp.fS
  fT := Cmp.fT
  fI := Cmp.fI
  mK := Cmp.mK c
  mS := Cmp.mS
  mKT := Cmp.mKT
  mT := Cmp.mT
  mN := fun s => v32 s.rem
  lK := Cmp.lK c
  lS := Cmp.lS
  lT := Cmp.lT
  lN := Cmp.lN
theorem pk_lt (k : Int) : pk k < 50 := by unfold pk; repeat' split
                                          all_goals omega
theorem fullK_lt (n : Nat) (l : List UInt8) : fullK n l < 50 := by unfold fullK; split <;> omega
theorem sizeK_lt (n : Int) (c : Cfg) : sizeK n c < 50 := by unfold sizeK; repeat' split
                                                            all_goals omega
theorem contK_lt (a b d : Int) (c : Cfg) : contK a b d c < 50 := by unfold contK; repeat' split
                                                                    all_goals omega
theorem cstrK_lt (l : List UInt8) (c : Cfg) : cstrK l c < 50 := by
  unfold cstrK; repeat' split
  · exact fullK_lt _ _
  · exact sizeK_lt _ _
  · exact pk_lt _
theorem endK_lt0 (n : Nat) (l : List UInt8) : endK n l < 50 := by unfold endK; repeat' split
                                                                  all_goals omega
theorem ctyK_lt (n : Nat) : ctyK n < 50 := by unfold ctyK; split <;> omega
theorem Cmp.scK_lt (c : Cfg) (t : Int) (s : Cmp.St) : Cmp.scK c t s < 50 := by
  unfold Cmp.scK; repeat' split
  all_goals first | decide | exact endK_lt0 _ _ | exact fullK_lt _ _ | exact pk_lt _ | exact cstrK_lt _ _
theorem Cmp.fK_lt (s : Cmp.St) : Cmp.fK s < 50 := by
  unfold Cmp.fK; repeat' split
  all_goals first | decide | exact pk_lt _ | exact ctyK_lt _
theorem Cmp.mK_lt (c : Cfg) (s : Cmp.St) : Cmp.mK c s < 50 := by
  unfold Cmp.mK; repeat' split
  all_goals first | decide | exact pk_lt _ | exact contK_lt _ _ _ _
theorem Cmp.lK_lt (c : Cfg) (s : Cmp.St) : Cmp.lK c s < 50 := by
  unfold Cmp.lK; repeat' split
  all_goals first | decide | exact pk_lt _ | exact contK_lt _ _ _ _
theorem cstrRem_le (l : List UInt8) : (cstrRem l).length ≤ l.length := by have := vR_le l; simp only [cstrRem, List.length_drop]; omega
theorem Cmp.ok_sc (t : Int) (s : Cmp.St) : (Cmp.scR t s).length ≤ s.rem.length := by
  have h1 := vR_le s.rem
  have h2 := cstrRem_le s.rem
  unfold Cmp.scR
  repeat' split
  all_goals first | omega | (simp only [List.length_drop]; omega)
theorem Cmp.ok_f (s : Cmp.St) (h : Cmp.fK s = 0) : (Cmp.fS s).rem.length < s.rem.length := by
  obtain ⟨rem, last, outer, pend, val⟩ := s
  cases rem with
  | nil => simp [Cmp.fK] at h
  | cons b r =>
    have h1 := vR_le r
    simp only [Cmp.fS]
    split
    · simp
    · simp only [List.length_cons]
      split <;> omega
theorem Cmp.ok_m (c : Cfg) (s : Cmp.St) (h : Cmp.mK c s = 0) : (Cmp.mS s).rem.length < s.rem.length := by
  have h0 : vK s.rem = 0 := by
    unfold Cmp.mK at h
    split at h
    · assumption
    · rename_i h1
      have := vK_kind s.rem
      unfold pk at h
      split at h
      · assumption
      · split at h <;> omega
  have h1 := vR_lt s.rem h0
  simp only [Cmp.mS]
  split
  · exact h1
  · simp only [List.length_drop]; omega
theorem Cmp.ok_l (c : Cfg) (s : Cmp.St) (h : Cmp.lK c s = 0) : (Cmp.lS s).rem.length < s.rem.length := by
  obtain ⟨rem, last, outer, pend, val⟩ := s
  cases rem with
  | nil => simp [Cmp.lK] at h
  | cons b r =>
    have h1 := vR_le r
    simp only [Cmp.lS, List.length_cons]
    split <;> omega
theorem Cmp.ok_lb (s : Cmp.St) : Cmp.lN s ≤ 2147483647 := by
  obtain ⟨rem, last, outer, pend, val⟩ := s
  cases rem with
  | nil => simp [Cmp.lN]
  | cons b r =>
    simp only [Cmp.lN]
    split
    · exact (v32_bd r).2
    · have := b.toNat_lt
      omega
theorem Cmp.ok_dsb (s : Cmp.St) : (Cmp.sbS s).outer.length = s.outer.length + 1 := by
  simp [Cmp.sbS]
theorem Cmp.ok_dse (s : Cmp.St) (h : 1 ≤ s.outer.length) : (Cmp.seS s).outer.length + 1 = s.outer.length := by
  simp [Cmp.seS]
  omega
theorem Cmp.ok_df (s : Cmp.St) : (Cmp.fS s).outer.length = s.outer.length := by
  obtain ⟨rem, last, outer, pend, val⟩ := s
  cases rem with
  | nil => rfl
  | cons b r =>
    simp only [Cmp.fS]
    split <;> rfl
theorem Cmp.okc (c : Cfg) : (Cmp.prc c).Ok where
  sc := Cmp.ok_sc
  sb s := Nat.le_refl _
  se s := Nat.le_refl _
  fe s := Nat.le_refl _
  me s := Nat.le_refl _
  le s := Nat.le_refl _
  f := Cmp.ok_f
  m := Cmp.ok_m c
  l := Cmp.ok_l c
  mb s := (v32_bd s.rem).2
  lb := Cmp.ok_lb
  one1 := Nat.le_refl _
  dsc _ _ _ := rfl
  dsb := Cmp.ok_dsb
  dse := Cmp.ok_dse
  dfe _ := rfl
  dme _ := rfl
  dle _ := rfl
  df := fun s _ => Cmp.ok_df s
  dm s _ := rfl
  dl s _ := rfl
end Go.Proofs.YthehmlbolajljaaGreatDoor

namespace Go.Proofs.YthehmlbolajljaaGreatDoor
open Go Go.RowKit
theorem i64_wr (n : Int) : IntKind.i64.wrap n = if n % 18446744073709551616 ≥ 9223372036854775808 then n % 18446744073709551616 - 18446744073709551616 else n % 18446744073709551616 := by
  simp [IntKind.wrap, IntKind.bits, IntKind.signed]
theorem i32_wr (n : Int) : IntKind.i32.wrap n = if n % 4294967296 ≥ 2147483648 then n % 4294967296 - 4294967296 else n % 4294967296 := by
  simp [IntKind.wrap, IntKind.bits, IntKind.signed]
theorem i16_wr (n : Int) : IntKind.i16.wrap n = if n % 65536 ≥ 32768 then n % 65536 - 65536 else n % 65536 := by
  simp [IntKind.wrap, IntKind.bits, IntKind.signed]
theorem u64_wr (n : Int) : IntKind.u64.wrap n = n % 18446744073709551616 := by
  simp [IntKind.wrap, IntKind.bits, IntKind.signed]
theorem u32_wr (n : Int) : IntKind.u32.wrap n = n % 4294967296 := by
  simp [IntKind.wrap, IntKind.bits, IntKind.signed]
theorem ofInt64 (x : Int) (n : Nat) (h : x % 18446744073709551616 = ((n % 18446744073709551616 : Nat) : Int)) : BitVec.ofInt 64 x = BitVec.ofNat 64 n := by
  apply BitVec.eq_of_toNat_eq
  simp only [BitVec.toNat_ofInt, BitVec.toNat_ofNat]
  omega
theorem ofInt32 (x : Int) (n : Nat) (h : x % 4294967296 = ((n % 4294967296 : Nat) : Int)) : BitVec.ofInt 32 x = BitVec.ofNat 32 n := by
  apply BitVec.eq_of_toNat_eq
  simp only [BitVec.toNat_ofInt, BitVec.toNat_ofNat]
  omega
theorem or_low (k acc c : Nat) (h : acc < 2 ^ k) : acc ||| c * 2 ^ k = acc + c * 2 ^ k := by
  rw [Nat.or_comm, Nat.mul_comm, ← Nat.two_pow_add_eq_or_of_lt h, Nat.add_comm]
theorem or_i64 (k acc c : Nat) (h : acc < 2 ^ k) : bits .or .i64 (IntKind.i64.wrap (acc : Nat)) (IntKind.i64.wrap ((c : Int) * 2 ^ k)) = IntKind.i64.wrap ((acc + c * 2 ^ k : Nat) : Int) := by
  show IntKind.i64.wrap ((BitVec.ofInt 64 _ ||| BitVec.ofInt 64 _).toNat : Int) = _
  have e0 : ((c : Int) * 2 ^ k) = ((c * 2 ^ k : Nat) : Int) := by simp
  rw [e0]
  rw [ofInt64 (IntKind.i64.wrap (acc : Nat)) acc (by rw [i64_wr]; split <;> omega), ofInt64 (IntKind.i64.wrap ((c * 2 ^ k : Nat) : Int)) (c * 2 ^ k) (by rw [i64_wr]; split <;> omega)]
  rw [← BitVec.ofNat_or, BitVec.toNat_ofNat, or_low k acc c h, i64_wr, i64_wr]
  generalize acc + c * 2 ^ k = m
  have e2 : ((m % 2 ^ 64 : Nat) : Int) % 18446744073709551616 = (m : Int) % 18446744073709551616 := by omega
  rw [e2]
theorem or_u64 (k acc c : Nat) (h : acc < 2 ^ k) (hm : c * 2 ^ k < 18446744073709551616) (ha : acc + c * 2 ^ k < 18446744073709551616) : bits .or .u64 (acc : Nat) (IntKind.u64.wrap ((c : Int) * 2 ^ k)) = ((acc + c * 2 ^ k : Nat) : Int) := by
  show IntKind.u64.wrap ((BitVec.ofInt 64 _ ||| BitVec.ofInt 64 _).toNat : Int) = _
  have e0 : ((c : Int) * 2 ^ k) = ((c * 2 ^ k : Nat) : Int) := by simp
  rw [e0]
  rw [ofInt64 (acc : Nat) acc (by omega), ofInt64 (IntKind.u64.wrap ((c * 2 ^ k : Nat) : Int)) (c * 2 ^ k) (by rw [u64_wr]; omega)]
  rw [← BitVec.ofNat_or, BitVec.toNat_ofNat, or_low k acc c h, u64_wr]
  rw [Nat.mod_eq_of_lt ha]
  omega
theorem and1_i32 (n : Int) : bits .and .i32 n 1 = n % 2 := by
  show IntKind.i32.wrap ((BitVec.ofInt 32 n &&& BitVec.ofInt 32 1).toNat : Int) = _
  rw [ofInt32 n (n % 4294967296).toNat (by omega), ofInt32 1 1 (by decide), ← BitVec.ofNat_and, BitVec.toNat_ofNat]
  have := Nat.and_two_pow_sub_one_eq_mod (n % 4294967296).toNat 1
  simp only [Nat.pow_one, Nat.reduceSub] at this
  rw [this, i32_wr]
  split <;> omega
theorem and1_u32 (n : Int) : bits .and .u32 n 1 = n % 2 := by
  show IntKind.u32.wrap ((BitVec.ofInt 32 n &&& BitVec.ofInt 32 1).toNat : Int) = _
  rw [ofInt32 n (n % 4294967296).toNat (by omega), ofInt32 1 1 (by decide), ← BitVec.ofNat_and, BitVec.toNat_ofNat]
  have := Nat.and_two_pow_sub_one_eq_mod (n % 4294967296).toNat 1
  simp only [Nat.pow_one, Nat.reduceSub] at this
  rw [this, u32_wr]
  omega
theorem and1_i64 (n : Int) : bits .and .i64 n 1 = n % 2 := by
  show IntKind.i64.wrap ((BitVec.ofInt 64 n &&& BitVec.ofInt 64 1).toNat : Int) = _
  rw [ofInt64 n (n % 18446744073709551616).toNat (by omega), ofInt64 1 1 (by decide), ← BitVec.ofNat_and, BitVec.toNat_ofNat]
  have := Nat.and_two_pow_sub_one_eq_mod (n % 18446744073709551616).toNat 1
  simp only [Nat.pow_one, Nat.reduceSub] at this
  rw [this, i64_wr]
  split <;> omega
theorem and1_u64 (n : Int) : bits .and .u64 n 1 = n % 2 := by
  show IntKind.u64.wrap ((BitVec.ofInt 64 n &&& BitVec.ofInt 64 1).toNat : Int) = _
  rw [ofInt64 n (n % 18446744073709551616).toNat (by omega), ofInt64 1 1 (by decide), ← BitVec.ofNat_and, BitVec.toNat_ofNat]
  have := Nat.and_two_pow_sub_one_eq_mod (n % 18446744073709551616).toNat 1
  simp only [Nat.pow_one, Nat.reduceSub] at this
  rw [this, u64_wr]
  omega
theorem xor0_i32 (n : Nat) (h : n < 2147483648) : bits .xor .i32 (n : Int) 0 = n := by
  show IntKind.i32.wrap ((BitVec.ofInt 32 (n : Int) ^^^ BitVec.ofInt 32 0).toNat : Int) = _
  rw [ofInt32 (n : Int) n (by omega), ofInt32 0 0 (by decide), ← BitVec.ofNat_xor, BitVec.toNat_ofNat, Nat.xor_zero, i32_wr]
  split <;> omega
theorem xor0_i64 (n : Nat) (h : n < 9223372036854775808) : bits .xor .i64 (n : Int) 0 = n := by
  show IntKind.i64.wrap ((BitVec.ofInt 64 (n : Int) ^^^ BitVec.ofInt 64 0).toNat : Int) = _
  rw [ofInt64 (n : Int) n (by omega), ofInt64 0 0 (by decide), ← BitVec.ofNat_xor, BitVec.toNat_ofNat, Nat.xor_zero, i64_wr]
  split <;> omega
theorem xor_ones (m n : Nat) (h : n < 2 ^ m) : n ^^^ (2 ^ m - 1) = 2 ^ m - 1 - n := by
  apply Nat.eq_of_testBit_eq
  intro i
  rw [Nat.testBit_xor, Nat.testBit_two_pow_sub_one, show 2 ^ m - 1 - n = 2 ^ m - (n + 1) by omega, Nat.testBit_two_pow_sub_succ h]
  by_cases hi : i < m
  · simp [hi]
  · have : n.testBit i = false := Nat.testBit_lt_two_pow (Nat.lt_of_lt_of_le h (Nat.pow_le_pow_right (by decide) (by omega)))
    simp [hi, this]
theorem xor1_i32 (n : Nat) (h : n < 2147483648) : bits .xor .i32 (n : Int) (-1) = -(n : Int) - 1 := by
  show IntKind.i32.wrap ((BitVec.ofInt 32 (n : Int) ^^^ BitVec.ofInt 32 (-1)).toNat : Int) = _
  have := xor_ones 32 n (by omega)
  simp only [Nat.reducePow, Nat.reduceSub] at this
  rw [ofInt32 (n : Int) n (by omega), ofInt32 (-1) 4294967295 (by decide), ← BitVec.ofNat_xor, BitVec.toNat_ofNat, this, i32_wr]
  split <;> omega
theorem xor1_i64 (n : Nat) (h : n < 9223372036854775808) : bits .xor .i64 (n : Int) (-1) = -(n : Int) - 1 := by
  show IntKind.i64.wrap ((BitVec.ofInt 64 (n : Int) ^^^ BitVec.ofInt 64 (-1)).toNat : Int) = _
  have := xor_ones 64 n (by omega)
  simp only [Nat.reducePow, Nat.reduceSub] at this
  rw [ofInt64 (n : Int) n (by omega), ofInt64 (-1) 18446744073709551615 (by decide), ← BitVec.ofNat_xor, BitVec.toNat_ofNat, this, i64_wr]
  split <;> omega
theorem unzig32 (m : Nat) (h : m < 4294967296) : bits .xor .i32 (((m / 2 : Nat) : Int)) (-((m : Int) % 2)) = zz m := by
  unfold zz
  by_cases he : m % 2 = 0
  · rw [if_pos he, show (-((m : Int) % 2)) = 0 by omega]
    exact xor0_i32 _ (by omega)
  · rw [if_neg he, show (-((m : Int) % 2)) = -1 by omega]
    exact xor1_i32 _ (by omega)
theorem unzig64 (m : Nat) (h : m < 18446744073709551616) : bits .xor .i64 (((m / 2 : Nat) : Int)) (-((m : Int) % 2)) = zz m := by
  unfold zz
  by_cases he : m % 2 = 0
  · rw [if_pos he, show (-((m : Int) % 2)) = 0 by omega]
    exact xor0_i64 _ (by omega)
  · rw [if_neg he, show (-((m : Int) % 2)) = -1 by omega]
    exact xor1_i64 _ (by omega)
theorem and15_fin : ∀ b : Fin 256, bits .and .u8 ((b.val : Nat) : Int) 15 = ((b.val % 16 : Nat) : Int) := by decide +kernel
theorem and240_fin : ∀ b : Fin 256, bits .and .u8 ((b.val : Nat) : Int) 240 = ((b.val / 16 * 16 : Nat) : Int) := by decide +kernel
theorem and127_fin : ∀ b : Fin 256, bits .and .u8 ((b.val : Nat) : Int) 127 = ((b.val % 128 : Nat) : Int) := by decide +kernel
theorem and128_fin : ∀ b : Fin 256, bits .and .u8 ((b.val : Nat) : Int) 128 = ((b.val / 128 * 128 : Nat) : Int) := by decide +kernel
theorem and1_fin : ∀ b : Fin 256, bits .and .u8 ((b.val : Nat) : Int) 1 = ((b.val % 2 : Nat) : Int) := by decide +kernel
theorem u8_and15 (b : UInt8) : bits .and .u8 ((b.toNat : Nat) : Int) 15 = ((b.toNat % 16 : Nat) : Int) := and15_fin ⟨b.toNat, b.toNat_lt⟩
theorem u8_and240 (b : UInt8) : bits .and .u8 ((b.toNat : Nat) : Int) 240 = ((b.toNat / 16 * 16 : Nat) : Int) := and240_fin ⟨b.toNat, b.toNat_lt⟩
theorem u8_and127' (b : UInt8) : bits .and .u8 ((b.toNat : Nat) : Int) 127 = ((b.toNat % 128 : Nat) : Int) := and127_fin ⟨b.toNat, b.toNat_lt⟩
theorem u8_and128 (b : UInt8) : bits .and .u8 ((b.toNat : Nat) : Int) 128 = ((b.toNat / 128 * 128 : Nat) : Int) := and128_fin ⟨b.toNat, b.toNat_lt⟩
theorem u8_and1 (b : UInt8) : bits .and .u8 ((b.toNat : Nat) : Int) 1 = ((b.toNat % 2 : Nat) : Int) := and1_fin ⟨b.toNat, b.toNat_lt⟩
end Go.Proofs.YthehmlbolajljaaGreatDoor
