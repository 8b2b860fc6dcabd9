/- Part 25 of the proof: Cmp1, Cmp2, Cmp3, Cmp4, Cmp5, Cmp6, Cmp7. -/
import Derived.Test.YtjekbomlpcdojaaGreatDoorH14
import Derived.Test.YtjekbomlpcdojaaGreatDoorH24
import Derived.Test.YtjekbomlpcdojaaGreatDoorH11
import Derived.Laws.AppendOwn
import Derived.Deep.LoopGhost
set_option linter.unusedVariables false
set_option linter.unusedSimpArgs false
set_option linter.unusedSectionVars false
set_option maxHeartbeats 16000000
namespace Go.Proofs.YtjekbomlpcdojaaGreatDoor
open Go Go.RowKit
abbrev cmpC (MB : Nat) (a : Option Addr) (fv : Value) (last : Int) (val pend : Bool) (sc : List UInt8) : List Value :=
 memV MB :: memV MB :: .pointer a :: fv :: .int .i64 last :: .string ⟨#[]⟩ :: .int .i16 0 :: .bool false :: .bool val :: .bool pend :: bcells sc
abbrev CM (P B : Nat) (fv : Value) : Nat → Prop := fun i => B = i ∨ P = i ∨ fv.ownBlock = some i
abbrev i16in (n : Int) : Prop := -32768 ≤ n ∧ n ≤ 32767
structure CmpP (E : Env) (P MB B D : Nat) (a : Option Addr) (c : Cfg) (s : Cmp.St) (fv : Value) (sc : List UInt8) (w : World) : Prop where
 sc64 : sc.length = 64
 blk : w.heap[P]? = some (.cells (cmpC MB a fv s.last s.val s.pend sc).toArray 256 (0, 0))
 row : w.ownsRow E.base 3 1 fv s.outer.length (s.outer.map (Value.int .i64))
 rowB : ∀ g, fv.ownBlock = some g → g ≠ P ∧ g ≠ MB ∧ g ≠ B ∧ g ≠ D
 last16 : i16in s.last
 out16 : ∀ x ∈ s.outer, i16in x
 mem : Mem E w MB B D s.rem
 glob : Glob E w
 cfg : CfgAt (CM P B fv) w a c
 cok : c.ok
 base : E.base ≤ P
 neM : P ≠ MB
 neB : P ≠ B
 neD : P ≠ D
theorem row_keep {M : Nat → Prop} {w w' : World} {B0 : Nat} {e : TypeId} {size n : Nat} {v : Value} {xs : List Value} (h : w.ownsRow B0 e size v n xs) (k : Keep M w w') (hM : ∀ i, v.ownBlock = some i → ¬ M i) : w'.ownsRow B0 e size v n xs := by
 refine ⟨h.1, ?_⟩
 rcases h.2 with hn | ⟨g, cap, cur, rfl, hb, hgg, rest⟩
 ·exact .inl hn
 ·exact .inr ⟨g, cap, cur, rfl, hb, (k.block g (lt_of_heap hgg) (hM g rfl)).trans hgg, rest⟩
section
variable {E : Env} {P MB B D : Nat} {a : Option Addr} {c : Cfg} {s s' : Cmp.St} {fv : Value} {sc sc' : List UInt8} {w w' : World}
theorem CmpP.ltP (h : CmpP E P MB B D a c s fv sc w) : P < w.heap.size := lt_of_heap h.blk
theorem CmpP.not2 (h : CmpP E P MB B D a c s fv sc w) : ∀ i, fv.ownBlock = some i → ¬ MB2 P B i := fun i e x => by
 have := h.rowB i e
 rcases x with x | x
 ·exact this.2.2.1 x.symm
 ·exact this.1 x.symm
theorem CmpP.base2 (h : CmpP E P MB B D a c s fv sc w) : ∀ i, MB2 P B i → E.base ≤ i := by
 have := h.base
 have := h.mem.baseB
 rintro i (e | e) <;> omega
theorem CmpP.step (h : CmpP E P MB B D a c s fv sc w) (k : Keep (MB2 P B) w w') (hsc : sc'.length = 64) (hb : w'.heap[P]? = some (.cells (cmpC MB a fv s'.last s'.val s'.pend sc').toArray 256 (0, 0))) (hm : Mem E w' MB B D s'.rem) (ho : s'.outer = s.outer) (hl : i16in s'.last) :
  CmpP E P MB B D a c s' fv sc' w' :=
 ⟨hsc, hb, ho ▸ row_keep h.row k h.not2, h.rowB, hl, ho ▸ h.out16, hm, h.glob.keep k h.base2, h.cfg.keep k (fun i x => x.elim .inl (fun y => .inr (.inl y))), h.cok, h.base, h.neM, h.neB, h.neD⟩
theorem CmpP.keep {M : Nat → Prop} (h : CmpP E P MB B D a c s fv sc w) (k : Keep M w w') (hP : ¬ M P) (hM : ¬ M MB) (hB : ¬ M B) (hD : ¬ M D) (hF : ∀ i, fv.ownBlock = some i → ¬ M i) (hE : ∀ i, M i → E.base ≤ i) (hC : CfgAt (CM P B fv) w' a c) : CmpP E P MB B D a c s fv sc w' :=
 ⟨h.sc64, (k.block P h.ltP hP).trans h.blk, row_keep h.row k hF, h.rowB, h.last16, h.out16, h.mem.keep k hM hB hD, h.glob.keep k hE, hC, h.cok, h.base, h.neM, h.neB, h.neD⟩
theorem CmpP.fresh (h : CmpP E P MB B D a c s fv sc w) (k : Keep (fun _ => False) w w') : CmpP E P MB B D a c s fv sc w' :=
 h.keep k id id id id (fun _ _ => id) (fun _ x => x.elim) (h.cfg.keep k (fun _ x => x.elim))
theorem CmpP.took {rem' : List UInt8} (h : CmpP E P MB B D a c s fv sc w) (hm : Mem E w' MB B D rem') (k : Keep (B = ·) w w') : CmpP E P MB B D a c (s.at rem') fv sc w' :=
 h.step (k.weak (fun _ _ x => .inl x)) h.sc64 ((k.block P h.ltP (fun e => h.neB e.symm)).trans h.blk) hm rfl h.last16
theorem CmpP.cells (h : CmpP E P MB B D a c s fv sc w) : w.cell? ⟨P, 0, none⟩ = some (memV MB) ∧ w.cell? ⟨P, 1, none⟩ = some (memV MB) ∧ w.cell? ⟨P, 2, none⟩ = some (.pointer a) ∧ w.cell? ⟨P, 3, none⟩ = some fv ∧ w.cell? ⟨P, 4, none⟩ = some (.int .i64 s.last) ∧
  w.cell? ⟨P, 8, none⟩ = some (.bool s.val) ∧ w.cell? ⟨P, 9, none⟩ = some (.bool s.pend) := by
 refine ⟨?_, ?_, ?_, ?_, ?_, ?_, ?_⟩ <;> simp [cellAt h.blk]
theorem cmp_byte (h : CmpP E P MB B D a c s fv sc w) :
  Calls Tryz.prog 269 #[.pointer (some ⟨P, 0, none⟩)] w fun e w' => ∃ n ev, e = .returned (.tuple #[.int .u8 n, ev]) ∧ ErrAt E w.heap.size w' ev (endK 1 s.rem) ∧
   CmpP E P MB B D a c (s.at (s.rem.drop 1)) fv sc w' ∧ Keep (B = ·) w w' ∧ (0 ≤ n ∧ n ≤ 255) ∧ (∀ b r, s.rem = b :: r → n = b.toNat) := by
 obtain ⟨c0, _, _, _, _, _, _⟩ := h.cells
 have hmt := method_mem h.mem.mb 596 "ReadByte" 202 mem_ReadByte
 simp only [Nat.reduceAdd] at hmt
 obtain ⟨rem, last, outer, pend, val⟩ := s
 cases rem with
 | nil =>
  go_enter Tryz.func269, Tryz.ntmps269
  go_wp2_with fail
  refine (buf_readByte_end h.glob h.mem.baseB h.mem.buf).mono ?_
  rintro e w1 ⟨rfl, hb1, hk1⟩
  go_wp2_with fail
  go_ret2
  exact ⟨0, _, rfl, .inr (.inl ⟨rfl, rfl⟩), h.took (h.mem.of hb1 hk1 (fun e => h.mem.ne e.symm)) hk1, hk1, by omega, by simp⟩
 | cons b r =>
  go_enter Tryz.func269, Tryz.ntmps269
  go_wp2_with fail
  refine (buf_readByte h.mem.buf).mono ?_
  rintro e w1 ⟨rfl, hb1, hk1⟩
  go_wp2_with fail
  go_ret2
  refine ⟨_, _, rfl, ?_, h.took (h.mem.of hb1 hk1 (fun e => h.mem.ne e.symm)) hk1, hk1, by have := b.toNat_lt; omega, ?_⟩
  ·rw [endK, if_pos (by simp)]; exact ErrAt.nil _ _ _
  ·rintro b' r' hb; cases hb; rfl
end
theorem vGo_more (n : Nat) (b : UInt8) (r : List UInt8) (h : ¬ b.toNat < 128) : (vGo (n + 1) (b :: r)).1 = (vGo n r).1 ∧ (vGo (n + 1) (b :: r)).2.1 = b.toNat % 128 + 128 * (vGo n r).2.1 ∧ (vGo (n + 1) (b :: r)).2.2 = (vGo n r).2.2 := by
 simp only [vGo]; rw [if_neg h]; exact ⟨rfl, rfl, rfl⟩
theorem vGo_last (n : Nat) (b : UInt8) (r : List UInt8) (h : b.toNat < 128) : vGo (n + 1) (b :: r) = (0, b.toNat, r) := by
 simp only [vGo]; rw [if_pos h]
theorem i64_w64 (n : Int) : IntKind.i64.wrap n = wrap64 n := by rw [IntKind.wrap_i64, wrap64]
section
variable {E : Env} {P MB B D : Nat} {a : Option Addr} {c : Cfg} {s s' : Cmp.St} {fv : Value} {sc sc' : List UInt8} {w w' : World}
def VRel (E : Env) (P MB B D : Nat) (a : Option Addr) (c : Cfg) (s : Cmp.St) (fv : Value) (sc : List UInt8) (w : World) (k : Nat) (sh res ix : Value) (wr : World) : Prop :=
 ∃ (i acc : Nat) (l : List UInt8), i + k = 10 ∧ sh = .int .u64 ((7 * i : Nat) : Int) ∧ res = .int .i64 (IntKind.i64.wrap (acc : Nat)) ∧ ix = .int .i64 i ∧ acc < 2 ^ (7 * i) ∧ CmpP E P MB B D a c (s.at l) fv sc wr ∧ Keep (B = ·) w wr ∧
  (vGo k l).1 = vK s.rem ∧ acc + (vGo k l).2.1 * 2 ^ (7 * i) = vN s.rem ∧ (vGo k l).2.2 = vR s.rem
set_option maxRecDepth 100000 in
theorem cmp_varint64 (h : CmpP E P MB B D a c s fv sc w) :
  Calls Tryz.prog 275 #[.pointer (some ⟨P, 0, none⟩)] w fun e w' => ∃ n ev, e = .returned (.tuple #[.int .i64 n, ev]) ∧ ErrAt E w.heap.size w' ev (vK s.rem) ∧
   CmpP E P MB B D a c (s.at (vR s.rem)) fv sc w' ∧ Keep (B = ·) w w' ∧ (vK s.rem = 0 → n = IntKind.i64.wrap ((vN s.rem : Nat) : Int)) ∧ -9223372036854775808 ≤ n ∧ n ≤ 9223372036854775807 := by
 go_enter Tryz.func275, Tryz.ntmps275
 go_wp2_with fail
 have HH := hdd h
 go_loopg [4, 5, 8] 10 (fun k sh res ix wr => VRel E P MB B D a c s fv sc w k sh res ix wr)
 case atStart => exact ⟨0, 0, s.rem, rfl, rfl, rfl, rfl, by simp, HH.out, Keep.refl _ _, rfl, by simp [vN], rfl⟩
 case round =>
  obtain ⟨i, acc, l, hik, rfl, rfl, rfl, hacc, hP, hK, h1, h2, h3⟩ := hrel
  have H1 := hdd h1
  have H2 := hdd h2
  have H3 := hdd h3
  have HK := hdd hK
  have HA := hdd hacc
  have HP := hdd hP
  clear h1 h2 h3 hK hacc hP
  cases gk with
  | zero =>
   have hi : i = 10 := by omega
   subst hi
   go_wp2_with fail
   refine (errNew _ _).mono ?_
   rintro e w1 ⟨b, rfl, hb, _, hk1⟩
   go_wp2_with fail
   refine (newPExcT' (E := E) (n0 := w.heap.size) 1 (by omega) b 0 _ _ hb (hk1.lt HK.out.size)).mono ?_
   rintro e w2 ⟨v, rfl, hv, hk2⟩
   go_wp2_with fail
   go_ret2
   have e1 : (11 : Int) = vK s.rem := H1.out
   have e3 : l = vR s.rem := H3.out
   refine ⟨_, _, rfl, by rw [← e1]; exact hv, by rw [← e3]; exact (HP.out.fresh hk1).fresh hk2, HK.out.then ((hk1.then hk2).weak (fun _ _ x => x.elim)), fun hz => by rw [← e1] at hz; omega, by omega, by omega⟩
  | succ k =>
   have hlt : (i : Int) < 10 := by omega
   go_wp2_with fail
   refine (cmp_byte HP.out).mono ?_
   rintro e w1 ⟨n, ev, rfl, he1, hp1, hk1, hn, hv⟩
   cases l with
   | nil =>
    obtain ⟨t, x, rfl⟩ := he1.held (show (1 : Int) ≠ 0 by decide)
    have e1 : (1 : Int) = vK s.rem := H1.out
    have e3 : [] = vR s.rem := H3.out
    have HE1 := hdd e1
    have HE3 := hdd e3
    clear e1 e3 hv hn
    go_wp2_with fail
    go_ret2
    refine ⟨_, _, rfl, by rw [← HE1.out]; exact he1.mono HK.out.size, by rw [← HE3.out]; exact hp1, HK.out.then hk1, fun hz => by rw [← HE1.out] at hz; omega, by omega, by omega⟩
   | cons b r =>
    have hev : ev = .nilIface := by rw [endK, if_pos (by simp)] at he1; exact he1.isNil
    subst hev
    have hnb := hv b r rfl
    subst hnb
    have hm := u8_and127' b
    have hm2 := u8_and128 b
    have hb8 := b.toNat_lt
    clear hv hn he1
    have hp2 : CmpP E P MB B D a c (s.at r) fv sc w1 := hp1
    have HP2 := hdd hp2
    clear hp1 hp2
    have hor : bits .or .i64 (wrap64 ((acc : Nat) : Int)) (wrap64 (((b.toNat % 128 : Nat) : Int) * 2 ^ (7 * i))) = wrap64 ((acc + b.toNat % 128 * 2 ^ (7 * i) : Nat) : Int) := by
     have := or_i64 (7 * i) acc (b.toNat % 128) HA.out
     rw [i64_w64, i64_w64, i64_w64] at this
     exact this
    have HOR := hdd hor
    clear hor
    have hw7 : IntKind.i64.wrap ((b.toNat % 128 : Nat) : Int) = ((b.toNat % 128 : Nat) : Int) := IntWalk.i64_in _ (by omega)
    by_cases hlast : b.toNat < 128
    ·have hq : ((b.toNat / 128 * 128 : Nat) : Int) = 0 := by omega
     have hq2 : b.toNat % 128 = b.toNat := by omega
     rw [hq] at hm2
     have e1 : (0 : Int) = vK s.rem := by rw [← H1.out, vGo_last k b r hlast]
     have e2 : acc + b.toNat * 2 ^ (7 * i) = vN s.rem := by rw [← H2.out, vGo_last k b r hlast]
     have e3 : r = vR s.rem := by rw [← H3.out, vGo_last k b r hlast]
     have HE1 := hdd e1
     have HE2 := hdd e2
     have HE3 := hdd e3
     clear e1 e2 e3 hq
     rw [hq2] at HOR
     go_wp2_with fail
     go_ret2
     have hor := HOR.out
     refine ⟨_, _, rfl, by rw [← HE1.out]; exact ErrAt.nil _ _ _, by rw [← HE3.out]; exact HP2.out, HK.out.then hk1, fun _ => ?_, ?_⟩
     ·rw [hor, ← HE2.out, i64_w64]
     ·rw [hor]
      simp only [wrap64]
      omega
    ·have hq : ((b.toNat / 128 * 128 : Nat) : Int) = 128 := by omega
     rw [hq] at hm2
     have HM := hdd (vGo_more k b r hlast)
     go_wp2_with fail
     go_roundg k
     case measure => exact Nat.lt_succ_self _
     case rel =>
      have e9 : (2 : Nat) ^ (7 * (i + 1)) = 128 * 2 ^ (7 * i) := by rw [show 7 * (i + 1) = 7 + 7 * i by omega, Nat.pow_add]
      have hA := HA.out
      have hM := HM.out
      have hor := HOR.out
      refine ⟨i + 1, acc + b.toNat % 128 * 2 ^ (7 * i), r, by omega, by first | rfl | (congr 1; omega), ?_, rfl, ?_, HP2.out, HK.out.then hk1, ?_, ?_, ?_⟩
      ·rw [i64_w64, ← hor]; simp
      ·rw [e9]
       have : b.toNat % 128 * 2 ^ (7 * i) ≤ 127 * 2 ^ (7 * i) := Nat.mul_le_mul_right _ (by omega)
       omega
      ·rw [← H1.out]; exact hM.1.symm
      ·rw [← H2.out, hM.2.1, e9, Nat.add_mul, Nat.add_assoc]
       congr 2
       rw [← Nat.mul_assoc, Nat.mul_comm 128]
      ·rw [← H3.out]; exact hM.2.2.symm
theorem cmp_varint32 (h : CmpP E P MB B D a c s fv sc w) :
  Calls Tryz.prog 266 #[.pointer (some ⟨P, 0, none⟩)] w fun e w' => ∃ n ev, e = .returned (.tuple #[.int .i32 n, ev]) ∧ ErrAt E w.heap.size w' ev (vK s.rem) ∧
   CmpP E P MB B D a c (s.at (vR s.rem)) fv sc w' ∧ Keep (B = ·) w w' ∧ (vK s.rem = 0 → n = v32 s.rem) ∧ -2147483648 ≤ n ∧ n ≤ 2147483647 := by
 go_enter Tryz.func266, Tryz.ntmps266
 go_wp2_with fail
 refine (cmp_varint64 h).mono ?_
 rintro e w1 ⟨n, ev, rfl, he, hp, hk, hv, hn⟩
 have HV := hdd hv
 clear hv
 go_wp2_with fail
 go_ret2
 refine ⟨_, _, rfl, he, hp, hk, fun hz => ?_, ?_⟩
 ·have := HV.out hz
  subst this
  rw [v32_eq, i64_w64]
  simp only [wrap32, wrap64]
  omega
 ·simp only [wrap32]
  omega
theorem zig32_at (p : Value) (n : Int) (hn : -2147483648 ≤ n ∧ n ≤ 2147483647) (w : World) :
  Calls Tryz.prog 274 #[p, .int .i32 n] w fun e w' => e = .returned (.int .i32 (zz (n % 4294967296).toNat)) ∧ w = w' := by
 have h1 := and1_i32 n
 have h2 := unzig32 (n % 4294967296).toNat (by omega)
 have h3 : ((n % 4294967296).toNat : Int) % 2 = n % 2 := by omega
 rw [h3] at h2
 have H2 := hdd h2
 clear h2
 go_enter Tryz.func274, Tryz.ntmps274
 go_wp2_with fail
 go_ret
 refine ⟨congrArg (fun z => Ending.returned (.int .i32 z)) ?_, rfl⟩
 show bits .xor .i32 (n % 4294967296 / 2) (-(n % 2)) = _
 rw [← H2.out, show n % 4294967296 / 2 = (((n % 4294967296).toNat / 2 : Nat) : Int) by omega]
theorem zig64_at (p : Value) (n : Int) (hn : -9223372036854775808 ≤ n ∧ n ≤ 9223372036854775807) (w : World) :
  Calls Tryz.prog 276 #[p, .int .i64 n] w fun e w' => e = .returned (.int .i64 (zz (n % 18446744073709551616).toNat)) ∧ w = w' := by
 have h1 := and1_i64 n
 have h2 := unzig64 (n % 18446744073709551616).toNat (by omega)
 have h3 : ((n % 18446744073709551616).toNat : Int) % 2 = n % 2 := by omega
 rw [h3] at h2
 have H2 := hdd h2
 clear h2
 go_enter Tryz.func276, Tryz.ntmps276
 go_wp2_with fail
 go_ret
 refine ⟨congrArg (fun z => Ending.returned (.int .i64 z)) ?_, rfl⟩
 show bits .xor .i64 (wrap64 (IntKind.u64.wrap n / 2)) (-(n % 2)) = _
 rw [← H2.out, u64_wr, show wrap64 (n % 18446744073709551616 / 2) = (((n % 18446744073709551616).toNat / 2 : Nat) : Int) by simp only [wrap64]; omega]
end
theorem vK_lt (l : List UInt8) : vK l < 50 := by rcases vK_kind l with h | h | h <;> omega
theorem pk_ne {k : Int} (h : k ≠ 0) : pk k ≠ 0 := by unfold pk; rw [if_neg h]; split <;> omega
theorem pk_zero : pk 0 = 0 := by decide
theorem pk_zero_iff {k : Int} (h : pk k = 0) : k = 0 := Classical.byContradiction fun hn => pk_ne hn h
theorem cell_free {w : World} {U : Nat} {c : Array Value} {T : TypeId} (h : w.heap[U]? = some (.cells c T (0, 0))) (i : Nat) : w.frozen? ⟨U, i, none⟩ = false := freeAt h _
theorem byte_one (b : UInt8) : (((b.toNat : Nat) : Int) == 1) = (b == 1) := by
 by_cases h : b = 1
 ·subst h; decide
 ·have h2 : b.toNat ≠ 1 := fun e => h (UInt8.toNat_inj.1 (by simpa using e))
  have e1 : (((b.toNat : Nat) : Int) == 1) = false := by simpa using (show ¬ ((b.toNat : Nat) : Int) = 1 by omega)
  have e2 : (b == 1) = false := by simpa using h
  rw [e1, e2]
section
variable {E : Env} {P MB B D : Nat} {a : Option Addr} {c : Cfg} {s s' : Cmp.St} {fv : Value} {sc sc' : List UInt8} {w w' : World}
theorem cmp_readI32 (h : CmpP E P MB B D a c s fv sc w) :
  Calls Tryz.prog 226 #[.pointer (some ⟨P, 0, none⟩), ctxV] w fun e w' => ∃ n ev, e = .returned (.tuple #[.int .i32 n, ev]) ∧ ErrAt E w.heap.size w' ev (pk (vK s.rem)) ∧
   CmpP E P MB B D a c (s.at (vR s.rem)) fv sc w' ∧ Keep (B = ·) w w' ∧ (vK s.rem = 0 → n = z32 s.rem) ∧ -2147483648 ≤ n ∧ n ≤ 2147483647 := by
 go_enter Tryz.func226, Tryz.ntmps226
 go_wp2_with fail
 refine (cmp_varint32 h).mono ?_
 rintro e w1 ⟨n, ev, rfl, he, hp, hk, hv, hn⟩
 by_cases hz : vK s.rem = 0
 ·have hev : ev = .nilIface := by rw [hz] at he; exact he.isNil
  subst hev
  have HZ := hdd hz
  have HV := hdd (hv hz)
  clear hv he hz
  go_wp2_with fail
  refine (zig32_at _ n hn _).mono ?_
  rintro e w2 ⟨rfl, rfl⟩
  have hb := zz_bd (n % 4294967296).toNat 2147483648 (by omega)
  go_wp2_with fail
  go_ret2
  refine ⟨_, _, rfl, by rw [HZ.out]; exact ErrAt.nil _ _ _, hp, hk, fun _ => ?_, by omega, by omega⟩
  show zz (n % 4294967296).toNat = zz (vN s.rem % 4294967296)
  congr 1
  rw [HV.out, v32_eq]
  simp only [wrap32]
  omega
 ·obtain ⟨t, x, rfl⟩ := he.held hz
  have HZ := hdd hz
  clear hz hv
  go_wp2_with fail
  refine (newPExc hp.glob (n0 := w.heap.size) hk.size he (vK_lt _)).mono ?_
  rintro e w2 ⟨v, rfl, hv2, hk2⟩
  go_wp2_with fail
  go_ret2
  exact ⟨_, _, rfl, hv2, hp.fresh hk2, hk.then (hk2.weak (fun _ _ x => x.elim)), fun hz => absurd hz HZ.out, by omega, by omega⟩
theorem cmp_readI64 (h : CmpP E P MB B D a c s fv sc w) :
  Calls Tryz.prog 227 #[.pointer (some ⟨P, 0, none⟩), ctxV] w fun e w' => ∃ n ev, e = .returned (.tuple #[.int .i64 n, ev]) ∧ ErrAt E w.heap.size w' ev (pk (vK s.rem)) ∧
   CmpP E P MB B D a c (s.at (vR s.rem)) fv sc w' ∧ Keep (B = ·) w w' ∧ (vK s.rem = 0 → n = z64 s.rem) ∧ -9223372036854775808 ≤ n ∧ n ≤ 9223372036854775807 := by
 go_enter Tryz.func227, Tryz.ntmps227
 go_wp2_with fail
 refine (cmp_varint64 h).mono ?_
 rintro e w1 ⟨n, ev, rfl, he, hp, hk, hv, hn⟩
 by_cases hz : vK s.rem = 0
 ·have hev : ev = .nilIface := by rw [hz] at he; exact he.isNil
  subst hev
  have HZ := hdd hz
  have HV := hdd (hv hz)
  clear hv he hz
  go_wp2_with fail
  refine (zig64_at _ n hn _).mono ?_
  rintro e w2 ⟨rfl, rfl⟩
  have hb := zz_bd (n % 18446744073709551616).toNat 9223372036854775808 (by omega)
  go_wp2_with fail
  go_ret2
  refine ⟨_, _, rfl, by rw [HZ.out]; exact ErrAt.nil _ _ _, hp, hk, fun _ => ?_, by omega, by omega⟩
  show zz (n % 18446744073709551616).toNat = zz (vN s.rem % 18446744073709551616)
  congr 1
  rw [HV.out, i64_w64]
  simp only [wrap64]
  omega
 ·obtain ⟨t, x, rfl⟩ := he.held hz
  have HZ := hdd hz
  clear hz hv
  go_wp2_with fail
  refine (newPExc hp.glob (n0 := w.heap.size) hk.size he (vK_lt _)).mono ?_
  rintro e w2 ⟨v, rfl, hv2, hk2⟩
  go_wp2_with fail
  go_ret2
  exact ⟨_, _, rfl, hv2, hp.fresh hk2, hk.then (hk2.weak (fun _ _ x => x.elim)), fun hz => absurd hz HZ.out, by omega, by omega⟩
theorem cmp_readI16 (h : CmpP E P MB B D a c s fv sc w) :
  Calls Tryz.prog 225 #[.pointer (some ⟨P, 0, none⟩), ctxV] w fun e w' => ∃ n ev, e = .returned (.tuple #[.int .i16 n, ev]) ∧ ErrAt E w.heap.size w' ev (pk (vK s.rem)) ∧
   CmpP E P MB B D a c (s.at (vR s.rem)) fv sc w' ∧ Keep (B = ·) w w' ∧ (vK s.rem = 0 → n = IntKind.i16.wrap (z32 s.rem)) ∧ -32768 ≤ n ∧ n ≤ 32767 := by
 go_enter Tryz.func225, Tryz.ntmps225
 go_wp2_with fail
 refine (cmp_readI32 h).mono ?_
 rintro e w1 ⟨n, ev, rfl, he, hp, hk, hv, hn⟩
 have HV := hdd hv
 clear hv
 go_wp2_with fail
 go_ret2
 have hb := i16_bd n
 refine ⟨_, _, rfl, he, hp, hk, fun hz => by rw [HV.out hz], ?_⟩
 simpa using hb
def ByteIs (l : List UInt8) (n : Int) : Prop := ∀ b r, l = b :: r → n = IntKind.i8.wrap b.toNat
theorem cmp_readByte (h : CmpP E P MB B D a c s fv sc w) :
  Calls Tryz.prog 221 #[.pointer (some ⟨P, 0, none⟩), ctxV] w fun e w' => ∃ n ev, e = .returned (.tuple #[.int .i8 n, ev]) ∧ ErrAt E w.heap.size w' ev (fullK 1 s.rem) ∧
   CmpP E P MB B D a c (s.at (s.rem.drop 1)) fv sc w' ∧ Keep (B = ·) w w' ∧ ByteIs s.rem n ∧ -128 ≤ n ∧ n ≤ 127 := by
 go_enter Tryz.func221, Tryz.ntmps221
 go_wp2_with fail
 refine (cmp_byte h).mono ?_
 rintro e w1 ⟨n, ev, rfl, he, hp, hk, hn, hv⟩
 obtain ⟨rem, last, outer, pend, val⟩ := s
 cases rem with
 | nil =>
  obtain ⟨t, x, rfl⟩ := he.held (show (1 : Int) ≠ 0 by decide)
  clear hv
  go_wp2_with fail
  refine (newPExc hp.glob (n0 := w.heap.size) hk.size he (show (1 : Int) < 50 by decide)).mono ?_
  rintro e w2 ⟨v, rfl, hv2, hk2⟩
  go_wp2_with fail
  go_ret2
  exact ⟨_, _, rfl, hv2, hp.fresh hk2, hk.then (hk2.weak (fun _ _ x => x.elim)), (fun _ _ hh => by cases hh), by omega, by omega⟩
 | cons b r =>
  have hev : ev = .nilIface := by rw [endK, if_pos (by simp)] at he; exact he.isNil
  subst hev
  have hnb := hv b r rfl
  subst hnb
  clear hv he
  go_wp2_with fail
  go_ret2
  refine ⟨_, _, rfl, ?_, hp, hk, ?_, ?_⟩
  ·rw [fullK, if_pos (by simp)]; exact ErrAt.nil _ _ _
  ·rintro b' r' hb; cases hb; rfl
  ·have := b.toNat_lt
   simp [IntKind.wrap, IntKind.bits, IntKind.signed]
   split <;> omega
def CBool (E : Env) (P MB B D : Nat) (a : Option Addr) (c : Cfg) (s : Cmp.St) (fv : Value) (sc : List UInt8) (w : World) (e : Ending) (w' : World) : Prop :=
 ∃ v ev, e = .returned (.tuple #[.bool v, ev]) ∧ ErrAt E w.heap.size w' ev (if s.pend = true then 0 else endK 1 s.rem) ∧
   CmpP E P MB B D a c { s with rem := if s.pend = true then s.rem else s.rem.drop 1, pend := false } fv sc w' ∧ Keep (MB2 P B) w w' ∧ (s.pend = true → v = s.val) ∧ (s.pend = false → ∀ b r, s.rem = b :: r → v = (b == 1))
theorem cmp_readBool (h : CmpP E P MB B D a c s fv sc w) :
  Calls Tryz.prog 220 #[.pointer (some ⟨P, 0, none⟩), ctxV] w (CBool E P MB B D a c s fv sc w) := by
 obtain ⟨_, _, _, _, _, c8, c9⟩ := h.cells
 have f9 := cell_free h.blk 9
 obtain ⟨rem, last, outer, pend, val⟩ := s
 cases pend with
 | true =>
  go_enter Tryz.func220, Tryz.ntmps220
  go_wp2_with fail
  go_ret2
  have hk : Keep (MB2 P B) w (w.setCell ⟨P, 9, none⟩ (.bool false)) := (Keep.refl _ w).set P 9 (fun _ => .inr rfl) _
  have hb := heap_set_same (i := 9) h.blk (.bool false)
  refine ⟨_, _, rfl, ErrAt.nil _ _ _, h.step hk h.sc64 (by simpa using hb) (h.mem.keep ((Keep.refl (fun i => P = i) w).set P 9 (fun _ => rfl) _) h.neM (fun e => h.neB e) h.neD) rfl h.last16, hk, fun _ => rfl, fun hh => (by cases hh)⟩
 | false =>
  go_enter Tryz.func220, Tryz.ntmps220
  go_wp2_with fail
  refine (cmp_byte h).mono ?_
  rintro e w1 ⟨n, ev, rfl, he, hp, hk, hn, hv⟩
  have HV := hdd hv
  clear hv
  go_wp2_with fail
  go_ret2
  refine ⟨_, _, rfl, he, hp, hk.weak (fun _ _ x => .inl x), fun hh => (by cases hh), fun _ b r hb => ?_⟩
  rw [HV.out b r hb]
  exact byte_one b
end
def TT (E : Env) (n0 : Nat) (m : Nat) (w : World) (e : Ending) (w' : World) : Prop := ∃ ev, e = .returned (.tuple #[.int .u8 (cty m), ev]) ∧ ErrAt E n0 w' ev (ctyK m) ∧ Keep (fun _ => False) w w'
theorem ttype_m (E : Env) (n0 : Nat) (p : Value) (n : Int) (m : Nat) (hm : m < 16) (hn : bits .and .u8 n 15 = (m : Nat)) (w : World) (hs : n0 ≤ w.heap.size) :
  Calls Tryz.prog 272 #[p, .int .u8 n] w (TT E n0 m w) := by
 have h16 : m = 0 ∨ m = 1 ∨ m = 2 ∨ m = 3 ∨ m = 4 ∨ m = 5 ∨ m = 6 ∨ m = 7 ∨ m = 8 ∨ m = 9 ∨ m = 10 ∨ m = 11 ∨ m = 12 ∨ m = 13 ∨ m = 14 ∨ m = 15 := by omega
 have HS := hdd hs
 clear hs
 rcases h16 with rfl | rfl | rfl | rfl | rfl | rfl | rfl | rfl | rfl | rfl | rfl | rfl | rfl | rfl | rfl | rfl
 iterate 14
  ·go_enter Tryz.func272, Tryz.ntmps272
   go_wp2_with fail
   go_ret2
   exact ⟨_, rfl, ErrAt.nil _ _ _, Keep.refl _ _⟩
 all_goals
  go_enter Tryz.func272, Tryz.ntmps272
  go_wp2_with fail
  refine (errNew _ _).mono ?_
  rintro e w1 ⟨b, rfl, hb, _, hk1⟩
  go_wp2_with fail
  refine (newPExc_str b 0 _ _ hb).mono ?_
  rintro e w2 ⟨rfl, rfl⟩
  go_wp2_with fail
  go_ret2
  exact ⟨_, rfl, .inr (.inr (.inr (.inl ⟨by decide, by decide, PExc.new n0 w1 0 _ _ (Nat.le_trans HS.out hk1.size)⟩))), hk1.then ((Keep.refl _ w1).alloc _)⟩
theorem ttype_at (E : Env) (n0 : Nat) (p : Value) (b : UInt8) (w : World) (hs : n0 ≤ w.heap.size) :
  Calls Tryz.prog 272 #[p, .int .u8 (b.toNat : Nat)] w (TT E n0 (b.toNat % 16) w) :=
 ttype_m E n0 p _ _ (by omega) (u8_and15 b) w hs
theorem and15_small (m : Nat) (h : m < 16) : bits .and .u8 ((m : Nat) : Int) 15 = (m : Nat) := by
 have := and15_fin ⟨m, by omega⟩
 rw [this]
 show ((m % 16 : Nat) : Int) = m
 rw [Nat.mod_eq_of_lt h]
theorem ttype_low (E : Env) (n0 : Nat) (p : Value) (m : Nat) (h : m < 16) (w : World) (hs : n0 ≤ w.heap.size) :
  Calls Tryz.prog 272 #[p, .int .u8 (m : Nat)] w (TT E n0 m w) :=
 ttype_m E n0 p _ _ h (and15_small m h) w hs
theorem minCmp_at (p : Value) (t : Int) (w : World) : Calls Tryz.prog 277 #[p, .int .u8 t] w fun e w' => e = .returned (.int .i32 (minCmp t)) ∧ w = w' := by
 go_enter Tryz.func277, Tryz.ntmps277
 go_wp2_with fail
 all_goals
  go_ret
  refine ⟨?_, rfl⟩
  simp_all [minCmp]
theorem isBool_at (p : Value) (b : UInt8) (w : World) : Calls Tryz.prog 273 #[p, .int .u8 (b.toNat : Nat)] w fun e w' => e = .returned (.bool (decide (b.toNat % 16 = 1 ∨ b.toNat % 16 = 2))) ∧ w = w' := by
 have h := u8_and15 b
 obtain ⟨m, hm⟩ : ∃ m, b.toNat % 16 = m := ⟨_, rfl⟩
 rw [hm] at h ⊢
 clear hm
 by_cases h1 : m = 1
 ·subst h1
  go_enter Tryz.func273, Tryz.ntmps273
  go_wp2_with fail
  go_ret
  exact ⟨rfl, rfl⟩
 ·by_cases h2 : m = 2
  ·subst h2
   go_enter Tryz.func273, Tryz.ntmps273
   go_wp2_with fail
   go_ret
   exact ⟨rfl, rfl⟩
  ·have e1 : ((m : Int) == 1) = false := by simpa using (show ¬ (m : Int) = 1 by omega)
   have e2 : ((m : Int) == 2) = false := by simpa using (show ¬ (m : Int) = 2 by omega)
   have e3 : decide (m = 1 ∨ m = 2) = false := by simp [h1, h2]
   rw [e3]
   clear e3 h1 h2
   go_enter Tryz.func273, Tryz.ntmps273
   go_wp2_with fail
   go_ret
   exact ⟨rfl, rfl⟩
theorem ttype_b (E : Env) (n0 : Nat) (p : Value) (b : UInt8) (w : World) (hs : n0 ≤ w.heap.size) :
  Calls Tryz.prog 272 #[p, .int .u8 ((b.toNat : Int) % 16)] w (TT E n0 (b.toNat % 16) w) := by
 have := ttype_low E n0 p (b.toNat % 16) (by omega) w hs
 simpa using this
theorem i16_id (n : Int) (h : i16in n) : IntKind.i16.wrap n = n := by rw [i16_wr]; split <;> omega
section
variable {E : Env} {P MB B D : Nat} {a : Option Addr} {c : Cfg} {s s' : Cmp.St} {fv : Value} {sc sc' : List UInt8} {w w' : World}
def CField (E : Env) (P MB B D : Nat) (a : Option Addr) (c : Cfg) (s : Cmp.St) (fv : Value) (sc : List UInt8) (w : World) (e : Ending) (w' : World) : Prop :=
 ∃ t id ev s', e = .returned (.tuple #[.string ⟨#[]⟩, .int .u8 t, .int .i16 id, ev]) ∧ ErrAt E w.heap.size w' ev (Cmp.fK s) ∧ CmpP E P MB B D a c s' fv sc w' ∧ s'.rem.length ≤ s.rem.length ∧ Keep (MB2 P B) w w' ∧ (Cmp.fK s = 0 → t = Cmp.fT s ∧ id = Cmp.fI s ∧ s' = Cmp.fS s)
set_option maxRecDepth 100000 in
theorem cmp_fieldBegin (h : CmpP E P MB B D a c s fv sc w) :
  Calls Tryz.prog 223 #[.pointer (some ⟨P, 0, none⟩), ctxV] w (CField E P MB B D a c s fv sc w) := by
 go_enter Tryz.func223, Tryz.ntmps223
 go_wp2_with fail
 refine (cmp_byte h).mono ?_
 rintro e w1 ⟨n, ev, rfl, he, hp, hk, hn, hv⟩
 obtain ⟨rem, last, outer, pend, val⟩ := s
 cases rem with
 | nil =>
  obtain ⟨t, x, rfl⟩ := he.held (show (1 : Int) ≠ 0 by decide)
  clear hv
  go_wp2_with fail
  go_returns
  exact ⟨_, _, _, _, rfl, he, hp, Nat.le_refl _, hk.weak (fun _ _ x => .inl x), fun hh => by cases hh⟩
 | cons b r =>
  have hev : ev = .nilIface := by rw [endK, if_pos (by simp)] at he; exact he.isNil
  subst hev
  have hnb := hv b r rfl
  subst hnb
  have hp1 : CmpP E P MB B D a c ⟨r, last, outer, pend, val⟩ fv sc w1 := hp
  have h15 := u8_and15 b
  have h240 := u8_and240 b
  have hb8 := b.toNat_lt
  have HP1 := hdd hp1
  have HK := hdd hk
  clear hv he hp hp1 hk
  by_cases h0 : b.toNat % 16 = 0
  ·rw [h0] at h15
   go_wp2_with fail
   go_returns
   refine ⟨_, _, _, _, rfl, ?_, HP1.out, by simp, HK.out.weak (fun _ _ x => .inl x), fun _ => ⟨?_, ?_, ?_⟩⟩
   ·simp only [Cmp.fK]; rw [if_pos h0]; exact ErrAt.nil _ _ _
   ·simp only [Cmp.fT]; rw [if_pos h0]
   ·simp only [Cmp.fI]; rw [if_pos h0]
   ·simp only [Cmp.fS]; rw [if_pos h0]
  ·have h0b : (((b.toNat % 16 : Nat) : Int) == 0) = false := by simpa using (show ¬ ((b.toNat % 16 : Nat) : Int) = 0 by omega)
   have HM0 := hdd h0
   by_cases hm : b.toNat / 16 = 0
   ·go_wp2_with fail
    refine (cmp_readI16 HP1.out).mono ?_
    rintro e w2 ⟨id, ev, rfl, he2, hp2, hk2, hv2, hidb⟩
    have hkw : Keep (MB2 P B) w w2 := (HK.out.then hk2).weak (fun _ _ x => .inl x)
    have HKW := hdd hkw
    have HSZ := hdd hkw.size
    have hvl := vR_le r
    by_cases hz : vK r = 0
    ·have hev : ev = .nilIface := by
      have he2' : ErrAt E w1.heap.size w2 ev (pk (vK r)) := he2
      rw [hz, pk_zero] at he2'; exact he2'.isNil
     subst hev
     have hid : Cmp.fI ⟨b :: r, last, outer, pend, val⟩ = id := by simp only [Cmp.fI]; rw [if_neg h0, if_pos hm]; exact (hv2 hz).symm
     have HFI := hdd hid
     have HIB : Hid (i16in id) := hdd hidb
     have HFK : Hid (Cmp.fK ⟨b :: r, last, outer, pend, val⟩ = ctyK (b.toNat % 16)) := hdd (by simp only [Cmp.fK]; rw [if_neg h0, if_pos hm, if_pos hz])
     have HFS : Hid (Cmp.fS ⟨b :: r, last, outer, pend, val⟩ = ⟨vR r, id, outer, if b.toNat % 16 = 1 ∨ b.toNat % 16 = 2 then true else pend, if b.toNat % 16 = 1 ∨ b.toNat % 16 = 2 then b.toNat % 16 == 1 else val⟩) := hdd (by simp only [Cmp.fS]; rw [if_neg h0, if_pos hm, hid])
     have hpq : CmpP E P MB B D a c ⟨vR r, last, outer, pend, val⟩ fv sc w2 := hp2
     have HPQ := hdd hpq
     have HLR : Hid ((vR r).length ≤ (b :: r).length) := hdd (by simp; omega)
     have hwid : IntKind.i64.wrap id = id := IntWalk.i64_in _ (by omega)
     clear he2 hp2 hk2 hv2 hkw hpq hid hz hvl
     go_wp2_with fail
     refine (ttype_b E w.heap.size _ b _ HSZ.out).mono ?_
     rintro e w3 ⟨ev, rfl, he3, hk3⟩
     have hp3 := HPQ.out.fresh hk3
     by_cases hc : ctyK (b.toNat % 16) = 0
     ·have hev : ev = .nilIface := by rw [hc] at he3; exact he3.isNil
      subst hev
      have HC := hdd hc
      have HP3 := hdd hp3
      have HK3 := hdd hk3
      obtain ⟨_, _, _, _, c4, c8, c9⟩ := hp3.cells
      have f4 := cell_free hp3.blk 4
      have f8 := cell_free hp3.blk 8
      have f9 := cell_free hp3.blk 9
      clear hc hp3 hk3 he3
      go_wp2_with fail
      refine (isBool_at _ b _).mono ?_
      rintro e w4 ⟨rfl, rfl⟩
      by_cases hbt : b.toNat % 16 = 1 ∨ b.toNat % 16 = 2
      ·rw [show decide (b.toNat % 16 = 1 ∨ b.toNat % 16 = 2) = true by simpa using hbt]
       have HBT := hdd hbt
       clear hbt
       go_wp2_with fail
       go_returns
       have hkw : Keep (MB2 P B) w3 (((w3.setCell ⟨P, 8, none⟩ (.bool ((((b.toNat : Int) % 16)) == 1))).setCell ⟨P, 9, none⟩ (.bool true)).setCell ⟨P, 4, none⟩ (.int .i64 id)) := (((Keep.refl _ w3).set P 8 (fun _ => .inr rfl) _).set P 9 (fun _ => .inr rfl) _).set P 4 (fun _ => .inr rfl) _
       have hkp : Keep (fun i => P = i) w3 (((w3.setCell ⟨P, 8, none⟩ (.bool ((((b.toNat : Int) % 16)) == 1))).setCell ⟨P, 9, none⟩ (.bool true)).setCell ⟨P, 4, none⟩ (.int .i64 id)) := (((Keep.refl _ w3).set P 8 (fun _ => rfl) _).set P 9 (fun _ => rfl) _).set P 4 (fun _ => rfl) _
       have hb := heap_set_same (i := 4) (heap_set_same (i := 9) (heap_set_same (i := 8) HP3.out.blk (.bool ((((b.toNat : Int) % 16)) == 1))) (.bool true)) (.int .i64 id)
       have hq : ((((b.toNat : Int) % 16)) == 1) = (b.toNat % 16 == 1) := by
        by_cases h1 : b.toNat % 16 = 1
        ·simp [h1]; omega
        ·have e1 : (((b.toNat : Int) % 16) == 1) = false := by simpa using (show ¬ ((b.toNat : Int) % 16) = 1 by omega)
         have e2 : (b.toNat % 16 == 1) = false := by simpa using h1
         rw [e1, e2]
       rw [hq] at hb hkw hkp
       rw [hq]
       refine ⟨_, _, _, ⟨vR r, id, outer, true, b.toNat % 16 == 1⟩, rfl, by rw [HFK.out, HC.out]; exact ErrAt.nil _ _ _, HP3.out.step hkw HP3.out.sc64 (by simpa using hb) (HP3.out.mem.keep hkp HP3.out.neM (fun e => HP3.out.neB e) HP3.out.neD) rfl HIB.out, HLR.out, HKW.out.then ((HK3.out.weak (fun _ _ x => x.elim)).then hkw), fun _ => ⟨?_, HFI.out.symm, ?_⟩⟩
       ·show cty (b.toNat % 16) = Cmp.fT _; simp only [Cmp.fT]; rw [if_neg HM0.out]
       ·rw [HFS.out, if_pos HBT.out, if_pos HBT.out]
      ·rw [show decide (b.toNat % 16 = 1 ∨ b.toNat % 16 = 2) = false by simpa using hbt]
       have HBT := hdd hbt
       clear hbt
       go_wp2_with fail
       go_returns
       have hkw : Keep (MB2 P B) w3 (w3.setCell ⟨P, 4, none⟩ (.int .i64 id)) := (Keep.refl _ w3).set P 4 (fun _ => .inr rfl) _
       have hkp : Keep (fun i => P = i) w3 (w3.setCell ⟨P, 4, none⟩ (.int .i64 id)) := (Keep.refl _ w3).set P 4 (fun _ => rfl) _
       have hb := heap_set_same (i := 4) HP3.out.blk (.int .i64 id)
       refine ⟨_, _, _, ⟨vR r, id, outer, pend, val⟩, rfl, by rw [HFK.out, HC.out]; exact ErrAt.nil _ _ _, HP3.out.step hkw HP3.out.sc64 (by simpa using hb) (HP3.out.mem.keep hkp HP3.out.neM (fun e => HP3.out.neB e) HP3.out.neD) rfl HIB.out, HLR.out, HKW.out.then ((HK3.out.weak (fun _ _ x => x.elim)).then hkw), fun _ => ⟨?_, HFI.out.symm, ?_⟩⟩
       ·show cty (b.toNat % 16) = Cmp.fT _; simp only [Cmp.fT]; rw [if_neg HM0.out]
       ·rw [HFS.out, if_neg HBT.out, if_neg HBT.out]
     ·obtain ⟨t, x, rfl⟩ := he3.held hc
      have HC := hdd hc
      have HP3 := hdd hp3
      have HK3 := hdd hk3
      clear hc hp3 hk3
      go_wp2_with fail
      refine (newPExc HP3.out.glob (n0 := w.heap.size) (Nat.le_trans HSZ.out HK3.out.size) he3 (by unfold ctyK; split <;> omega)).mono ?_
      rintro e w4 ⟨v, rfl, hv4, hk4⟩
      go_wp2_with fail
      go_returns
      have hc10 : ctyK (b.toNat % 16) = 10 := by have := HC.out; unfold ctyK at this ⊢; split <;> simp_all
      rw [hc10] at hv4
      exact ⟨_, _, _, _, rfl, by rw [HFK.out, hc10]; exact hv4, HP3.out.fresh hk4, HLR.out, HKW.out.then ((HK3.out.then hk4).weak (fun _ _ x => x.elim)), fun hz => by rw [HFK.out] at hz; exact absurd hz HC.out⟩
    ·obtain ⟨t, x, rfl⟩ := he2.held (pk_ne hz)
     have HZ := hdd hz
     clear hz hv2
     go_wp2_with fail
     go_returns
     have hfk : Cmp.fK ⟨b :: r, last, outer, pend, val⟩ = pk (vK r) := by simp only [Cmp.fK]; rw [if_neg h0, if_pos hm, if_neg HZ.out]
     exact ⟨_, _, _, _, rfl, by rw [hfk]; exact he2.mono HK.out.size, hp2, by simp; omega, HKW.out, fun hz => by rw [hfk] at hz; exact absurd hz (pk_ne HZ.out)⟩
   ·have hmb : (((b.toNat : Int) / 16) == 0) = false := by simpa using (show ¬ ((b.toNat : Int) / 16) = 0 by omega)
    obtain ⟨_, _, _, _, c4, c8, c9⟩ := HP1.out.cells
    have hl16 := HP1.out.last16
    have hwl : IntKind.i16.wrap last = last := i16_id _ hl16
    obtain ⟨id, hid⟩ : ∃ id, IntKind.i16.wrap (last + (b.toNat : Int) / 16) = id := ⟨_, rfl⟩
    have hidb : i16in id := by rw [← hid]; exact i16_bd _
    have HFI : Hid (Cmp.fI ⟨b :: r, last, outer, pend, val⟩ = id) := hdd (by
     simp only [Cmp.fI]; rw [if_neg h0, if_neg hm, ← hid, hwl]; congr 1)
    have HIB : Hid (i16in id) := hdd hidb
    have HFK : Hid (Cmp.fK ⟨b :: r, last, outer, pend, val⟩ = ctyK (b.toNat % 16)) := hdd (by simp only [Cmp.fK]; rw [if_neg h0, if_neg hm])
    have HFS : Hid (Cmp.fS ⟨b :: r, last, outer, pend, val⟩ = ⟨r, id, outer, if b.toNat % 16 = 1 ∨ b.toNat % 16 = 2 then true else pend, if b.toNat % 16 = 1 ∨ b.toNat % 16 = 2 then b.toNat % 16 == 1 else val⟩) := hdd (by simp only [Cmp.fS]; rw [if_neg h0, if_neg hm, HFI.out])
    have HPQ := hdd HP1.out
    have HLR : Hid (r.length ≤ (b :: r).length) := hdd (by simp)
    have HKW : Hid (Keep (MB2 P B) w w1) := hdd (HK.out.weak (fun _ _ x => .inl x))
    have HSZ := hdd HK.out.size
    have hwid : IntKind.i64.wrap id = id := IntWalk.i64_in _ (by omega)
    go_wp2_with fail
    refine (ttype_b E w.heap.size _ b _ HSZ.out).mono ?_
    rintro e w3 ⟨ev, rfl, he3, hk3⟩
    have hp3 := HPQ.out.fresh hk3
    by_cases hc : ctyK (b.toNat % 16) = 0
    ·have hev : ev = .nilIface := by rw [hc] at he3; exact he3.isNil
     subst hev
     have HC := hdd hc
     have HP3 := hdd hp3
     have HK3 := hdd hk3
     obtain ⟨_, _, _, _, c4, c8, c9⟩ := hp3.cells
     have f4 := cell_free hp3.blk 4
     have f8 := cell_free hp3.blk 8
     have f9 := cell_free hp3.blk 9
     clear hc hp3 hk3 he3
     go_wp2_with fail
     refine (isBool_at _ b _).mono ?_
     rintro e w4 ⟨rfl, rfl⟩
     by_cases hbt : b.toNat % 16 = 1 ∨ b.toNat % 16 = 2
     ·rw [show decide (b.toNat % 16 = 1 ∨ b.toNat % 16 = 2) = true by simpa using hbt]
      have HBT := hdd hbt
      clear hbt
      go_wp2_with fail
      go_returns
      have hkw : Keep (MB2 P B) w3 (((w3.setCell ⟨P, 8, none⟩ (.bool ((((b.toNat : Int) % 16)) == 1))).setCell ⟨P, 9, none⟩ (.bool true)).setCell ⟨P, 4, none⟩ (.int .i64 id)) := (((Keep.refl _ w3).set P 8 (fun _ => .inr rfl) _).set P 9 (fun _ => .inr rfl) _).set P 4 (fun _ => .inr rfl) _
      have hkp : Keep (fun i => P = i) w3 (((w3.setCell ⟨P, 8, none⟩ (.bool ((((b.toNat : Int) % 16)) == 1))).setCell ⟨P, 9, none⟩ (.bool true)).setCell ⟨P, 4, none⟩ (.int .i64 id)) := (((Keep.refl _ w3).set P 8 (fun _ => rfl) _).set P 9 (fun _ => rfl) _).set P 4 (fun _ => rfl) _
      have hb := heap_set_same (i := 4) (heap_set_same (i := 9) (heap_set_same (i := 8) HP3.out.blk (.bool ((((b.toNat : Int) % 16)) == 1))) (.bool true)) (.int .i64 id)
      have hq : ((((b.toNat : Int) % 16)) == 1) = (b.toNat % 16 == 1) := by
       by_cases h1 : b.toNat % 16 = 1
       ·simp [h1]; omega
       ·have e1 : (((b.toNat : Int) % 16) == 1) = false := by simpa using (show ¬ ((b.toNat : Int) % 16) = 1 by omega)
        have e2 : (b.toNat % 16 == 1) = false := by simpa using h1
        rw [e1, e2]
      rw [hq] at hb hkw hkp
      rw [hq]
      refine ⟨_, _, _, ⟨r, id, outer, true, b.toNat % 16 == 1⟩, rfl, by rw [HFK.out, HC.out]; exact ErrAt.nil _ _ _, HP3.out.step hkw HP3.out.sc64 (by simpa using hb) (HP3.out.mem.keep hkp HP3.out.neM (fun e => HP3.out.neB e) HP3.out.neD) rfl HIB.out, HLR.out, HKW.out.then ((HK3.out.weak (fun _ _ x => x.elim)).then hkw), fun _ => ⟨?_, HFI.out.symm, ?_⟩⟩
      ·show cty (b.toNat % 16) = Cmp.fT _; simp only [Cmp.fT]; rw [if_neg HM0.out]
      ·rw [HFS.out, if_pos HBT.out, if_pos HBT.out]
     ·rw [show decide (b.toNat % 16 = 1 ∨ b.toNat % 16 = 2) = false by simpa using hbt]
      have HBT := hdd hbt
      clear hbt
      go_wp2_with fail
      go_returns
      have hkw : Keep (MB2 P B) w3 (w3.setCell ⟨P, 4, none⟩ (.int .i64 id)) := (Keep.refl _ w3).set P 4 (fun _ => .inr rfl) _
      have hkp : Keep (fun i => P = i) w3 (w3.setCell ⟨P, 4, none⟩ (.int .i64 id)) := (Keep.refl _ w3).set P 4 (fun _ => rfl) _
      have hb := heap_set_same (i := 4) HP3.out.blk (.int .i64 id)
      refine ⟨_, _, _, ⟨r, id, outer, pend, val⟩, rfl, by rw [HFK.out, HC.out]; exact ErrAt.nil _ _ _, HP3.out.step hkw HP3.out.sc64 (by simpa using hb) (HP3.out.mem.keep hkp HP3.out.neM (fun e => HP3.out.neB e) HP3.out.neD) rfl HIB.out, HLR.out, HKW.out.then ((HK3.out.weak (fun _ _ x => x.elim)).then hkw), fun _ => ⟨?_, HFI.out.symm, ?_⟩⟩
      ·show cty (b.toNat % 16) = Cmp.fT _; simp only [Cmp.fT]; rw [if_neg HM0.out]
      ·rw [HFS.out, if_neg HBT.out, if_neg HBT.out]
    ·obtain ⟨t, x, rfl⟩ := he3.held hc
     have HC := hdd hc
     have HP3 := hdd hp3
     have HK3 := hdd hk3
     clear hc hp3 hk3
     go_wp2_with fail
     refine (newPExc HP3.out.glob (n0 := w.heap.size) (Nat.le_trans HSZ.out HK3.out.size) he3 (by unfold ctyK; split <;> omega)).mono ?_
     rintro e w4 ⟨v, rfl, hv4, hk4⟩
     go_wp2_with fail
     go_returns
     have hc10 : ctyK (b.toNat % 16) = 10 := by have := HC.out; unfold ctyK at this ⊢; split <;> simp_all
     rw [hc10] at hv4
     exact ⟨_, _, _, _, rfl, by rw [HFK.out, hc10]; exact hv4, HP3.out.fresh hk4, HLR.out, HKW.out.then ((HK3.out.then hk4).weak (fun _ _ x => x.elim)), fun hz => by rw [HFK.out] at hz; exact absurd hz HC.out⟩
end
section
variable {E : Env} {P MB B D : Nat} {a : Option Addr} {c : Cfg} {s s' : Cmp.St} {fv : Value} {sc sc' : List UInt8} {w w' : World}
def CList (E : Env) (P MB B D : Nat) (a : Option Addr) (c : Cfg) (s : Cmp.St) (fv : Value) (sc : List UInt8) (w : World) (e : Ending) (w' : World) : Prop :=
 ∃ t n ev s', e = .returned (.tuple #[.int .u8 t, .int .i64 n, ev]) ∧ ErrAt E w.heap.size w' ev (Cmp.lK c s) ∧ CmpP E P MB B D a c s' fv sc w' ∧ s'.rem.length ≤ s.rem.length ∧ Keep (MB2 P B) w w' ∧ (Cmp.lK c s = 0 → t = Cmp.lT s ∧ n = Cmp.lN s ∧ s' = Cmp.lS s)
theorem shr4_and (b : UInt8) : bits .and .u8 ((b.toNat : Int) / 16) 15 = (b.toNat : Int) / 16 := by
 have h := b.toNat_lt
 have := and15_small (b.toNat / 16) (by omega)
 simpa using this
set_option maxRecDepth 100000 in
theorem cmp_listBegin (h : CmpP E P MB B D a c s fv sc w) (hr : s.rem.length ≤ 140737488355328) :
  Calls Tryz.prog 228 #[.pointer (some ⟨P, 0, none⟩), ctxV] w (CList E P MB B D a c s fv sc w) := by
 go_enter Tryz.func228, Tryz.ntmps228
 go_wp2_with fail
 refine (cmp_byte h).mono ?_
 rintro e w1 ⟨n, ev, rfl, he, hp, hk, hn, hv⟩
 obtain ⟨rem, last, outer, pend, val⟩ := s
 cases rem with
 | nil =>
  obtain ⟨t, x, rfl⟩ := he.held (show (1 : Int) ≠ 0 by decide)
  clear hv
  go_wp2_with fail
  go_returns
  exact ⟨_, _, _, _, rfl, he, hp, Nat.le_refl _, hk.weak (fun _ _ x => .inl x), fun hh => by cases hh⟩
 | cons b r =>
  have hev : ev = .nilIface := by rw [endK, if_pos (by simp)] at he; exact he.isNil
  subst hev
  have hnb := hv b r rfl
  subst hnb
  have hp1 : CmpP E P MB B D a c ⟨r, last, outer, pend, val⟩ fv sc w1 := hp
  have h15 := shr4_and b
  have hb8 := b.toNat_lt
  have HP1 := hdd hp1
  have HK := hdd hk
  have HRL : Hid (r.length ≤ 140737488355328) := hdd (by simp at hr; omega)
  clear hv he hp hp1 hk hr
  by_cases hm : b.toNat / 16 = 15
  ·have hmz : (b.toNat : Int) / 16 = 15 := by omega
   rw [hmz] at h15
   go_wp2_with fail
   refine (cmp_varint32 HP1.out).mono ?_
   rintro e w2 ⟨n, ev, rfl, he2, hp2, hk2, hv2, hnb⟩
   have HKW : Hid (Keep (MB2 P B) w w2) := hdd ((HK.out.then hk2).weak (fun _ _ x => .inl x))
   have HSZ := hdd HKW.out.size
   have hvl := vR_le r
   by_cases hz : vK r = 0
   ·have hev : ev = .nilIface := by
     have he2' : ErrAt E w1.heap.size w2 ev (vK r) := he2
     rw [hz] at he2'; exact he2'.isNil
    subst hev
    have hn : n = v32 r := hv2 hz
    have HLO := hdd hnb
    have HLK : Hid (Cmp.lK c ⟨b :: r, last, outer, pend, val⟩ = if ctyK (b.toNat % 16) = 0 then contK n (minCmp (cty (b.toNat % 16))) ((vR r).length : Nat) c else 10) := hdd (by simp only [Cmp.lK]; rw [if_pos hm, if_pos hz, hn])
    have HLN : Hid (Cmp.lN ⟨b :: r, last, outer, pend, val⟩ = n) := hdd (by simp only [Cmp.lN]; rw [if_pos hm, hn])
    have HLS : Hid (Cmp.lS ⟨b :: r, last, outer, pend, val⟩ = ⟨vR r, last, outer, pend, val⟩) := hdd (by simp only [Cmp.lS]; rw [if_pos hm])
    have hpq : CmpP E P MB B D a c ⟨vR r, last, outer, pend, val⟩ fv sc w2 := hp2
    have HPQ := hdd hpq
    have HRQ : Hid ((vR r).length ≤ 140737488355328) := hdd (Nat.le_trans hvl HRL.out)
    have HLR : Hid ((vR r).length ≤ (b :: r).length) := hdd (by simp; omega)
    have hw64 : IntKind.i64.wrap n = n := IntWalk.i64_in _ (by omega)
    clear he2 hp2 hk2 hv2 hpq hn hz hvl
    go_wp2_with fail
    refine (ttype_at E w.heap.size _ b _ HSZ.out).mono ?_
    rintro e w3 ⟨ev, rfl, he3, hk3⟩
    have hp3 := HPQ.out.fresh hk3
    have HKW3 : Hid (Keep (MB2 P B) w w3) := hdd (HKW.out.then (hk3.weak (fun _ _ x => x.elim)))
    have HSZ3 := hdd (Nat.le_trans HSZ.out hk3.size)
    by_cases hc : ctyK (b.toNat % 16) = 0
    ·have hev : ev = .nilIface := by rw [hc] at he3; exact he3.isNil
     subst hev
     have HL2 : Hid (Cmp.lK c ⟨b :: r, last, outer, pend, val⟩ = contK n (minCmp (cty (b.toNat % 16))) ((vR r).length : Nat) c) := hdd (by rw [HLK.out, if_pos hc])
     obtain ⟨c0, _, c2, _, _, _, _⟩ := hp3.cells
     have HP3 := hdd hp3
     clear hc hk3 he3 hp3
     go_wp2_with fail
     refine (minCmp_at _ _ _).mono ?_
     rintro e w4 ⟨rfl, rfl⟩
     have hmin := minCmp_bd (cty (b.toNat % 16))
     have HM := hdd (HP3.out.mem.keep ((Keep.refl (fun _ => False) w3).drew) id id id)
     have HC := hdd (fun n => HP3.out.cfg.keep ((Keep.refl (fun _ => False) w3).drewN n) (fun _ x => x.elim))
     have hrem : (vR r).length ≤ 140737488355328 := HRQ.out
     obtain ⟨mn, hmn⟩ : ∃ mn, minCmp (cty (b.toNat % 16)) = mn := ⟨_, rfl⟩
     rw [hmn] at HL2 hmin ⊢
     clear hmn
     obtain ⟨r4, hr4⟩ : ∃ r4, vR r = r4 := ⟨_, rfl⟩
     rw [hr4] at HL2 HM hrem
     have HR4 := hdd hr4
     clear hr4
     go_wp2_with fail
     go_region_with (first | (go_at_call 410; refine (mem_remaining HM.out hrem).mono ?_; rintro e w5 ⟨rfl, nd, rfl⟩) | (go_at_call 278; refine (checkCont (E := E) (n0 := w.heap.size) n mn (r4.length : Nat) HLO.out.1 HLO.out.2 (by omega) (by omega) (HC.out _) HP3.out.cok HSZ3.out).mono ?_; rintro e w6 ⟨v, rfl, hv6, hk6⟩))
     all_goals
      have hk7 : Keep (fun _ => False) w3 w6 := ((Keep.refl _ w3).drewN _).then hk6
      have hp7 : CmpP E P MB B D a c ⟨r4, last, outer, pend, val⟩ fv sc w6 := HR4.out ▸ HP3.out.fresh hk7
      have hkw : Keep (MB2 P B) w w6 := HKW3.out.then (hk7.weak (fun _ _ x => x.elim))
      have hlr : r4.length ≤ (b :: r).length := by rw [← HR4.out]; exact HLR.out
      by_cases hz : contK n mn (r4.length : Nat) c = 0
      ·rw [hz] at hv6
       have hev := hv6.isNil
       subst hev
       have HZ := hdd hz
       clear hz hv6
       go_wp2_with fail
       go_returns
       exact ⟨_, _, _, _, rfl, by rw [HL2.out, HZ.out]; exact ErrAt.nil _ _ _, hp7, hlr, hkw, fun _ => ⟨rfl, HLN.out.symm, by rw [← HR4.out]; exact HLS.out.symm⟩⟩
      ·obtain ⟨t, x, rfl⟩ := hv6.held hz
       have HZ := hdd hz
       clear hz
       go_wp2_with fail
       go_returns
       exact ⟨_, _, _, _, rfl, by rw [HL2.out]; exact hv6, hp7, hlr, hkw, fun hh => absurd (HL2.out ▸ hh) HZ.out⟩
    ·obtain ⟨t, x, rfl⟩ := he3.held hc
     have HL2 : Hid (Cmp.lK c ⟨b :: r, last, outer, pend, val⟩ = 10) := hdd (by rw [HLK.out, if_neg hc])
     have hc10 : ctyK (b.toNat % 16) = 10 := by unfold ctyK at hc ⊢; split <;> simp_all
     rw [hc10] at he3
     clear hc
     go_wp2_with fail
     refine (newPExc hp3.glob (n0 := w.heap.size) HSZ3.out he3 (by decide)).mono ?_
     rintro e w4 ⟨v, rfl, hv4, hk4⟩
     go_wp2_with fail
     go_returns
     exact ⟨_, _, _, _, rfl, by rw [HL2.out]; exact hv4, hp3.fresh hk4, HLR.out, HKW3.out.then (hk4.weak (fun _ _ x => x.elim)), fun hz => by rw [HL2.out] at hz; omega⟩
   ·obtain ⟨t, x, rfl⟩ := he2.held hz
    have HZ := hdd hz
    clear hz hv2
    go_wp2_with fail
    refine (newPExc hp2.glob (n0 := w.heap.size) HSZ.out (he2.mono HK.out.size) (vK_lt r)).mono ?_
    rintro e w3 ⟨v, rfl, hv3, hk3⟩
    go_wp2_with fail
    go_returns
    have hfk : Cmp.lK c ⟨b :: r, last, outer, pend, val⟩ = pk (vK r) := by simp only [Cmp.lK]; rw [if_pos hm, if_neg HZ.out]
    exact ⟨_, _, _, _, rfl, by rw [hfk]; exact hv3, hp2.fresh hk3, by simp; omega, HKW.out.then (hk3.weak (fun _ _ x => x.elim)), fun hz => by rw [hfk] at hz; exact absurd hz (pk_ne HZ.out)⟩
  ·have hmz : (((b.toNat : Int) / 16) == 15) = false := by simpa using (show ¬ ((b.toNat : Int) / 16) = 15 by omega)
   obtain ⟨n, hn⟩ : ∃ n, ((b.toNat : Int) / 16) = n := ⟨_, rfl⟩
   have HLO : Hid (-2147483648 ≤ n ∧ n ≤ 2147483647) := hdd (by omega)
   have HLK : Hid (Cmp.lK c ⟨b :: r, last, outer, pend, val⟩ = if ctyK (b.toNat % 16) = 0 then contK n (minCmp (cty (b.toNat % 16))) (r.length : Nat) c else 10) := hdd (by simp only [Cmp.lK]; rw [if_neg hm, ← hn]; congr 1)
   have HLN : Hid (Cmp.lN ⟨b :: r, last, outer, pend, val⟩ = n) := hdd (by simp only [Cmp.lN]; rw [if_neg hm, ← hn]; congr 1)
   have HLS : Hid (Cmp.lS ⟨b :: r, last, outer, pend, val⟩ = ⟨r, last, outer, pend, val⟩) := hdd (by simp only [Cmp.lS]; rw [if_neg hm])
   have HPQ := hdd HP1.out
   have HRQ := HRL
   have HLR : Hid (r.length ≤ (b :: r).length) := hdd (by simp)
   have HKW : Hid (Keep (MB2 P B) w w1) := hdd (HK.out.weak (fun _ _ x => .inl x))
   have HSZ := hdd HK.out.size
   rw [hn] at h15 hmz
   go_wp2_with fail
   refine (ttype_at E w.heap.size _ b _ HSZ.out).mono ?_
   rintro e w3 ⟨ev, rfl, he3, hk3⟩
   have hp3 := HPQ.out.fresh hk3
   have HKW3 : Hid (Keep (MB2 P B) w w3) := hdd (HKW.out.then (hk3.weak (fun _ _ x => x.elim)))
   have HSZ3 := hdd (Nat.le_trans HSZ.out hk3.size)
   by_cases hc : ctyK (b.toNat % 16) = 0
   ·have hev : ev = .nilIface := by rw [hc] at he3; exact he3.isNil
    subst hev
    have HL2 : Hid (Cmp.lK c ⟨b :: r, last, outer, pend, val⟩ = contK n (minCmp (cty (b.toNat % 16))) (r.length : Nat) c) := hdd (by rw [HLK.out, if_pos hc])
    obtain ⟨c0, _, c2, _, _, _, _⟩ := hp3.cells
    have HP3 := hdd hp3
    clear hc hk3 he3 hp3
    go_wp2_with fail
    refine (minCmp_at _ _ _).mono ?_
    rintro e w4 ⟨rfl, rfl⟩
    have hmin := minCmp_bd (cty (b.toNat % 16))
    have HM := hdd (HP3.out.mem.keep ((Keep.refl (fun _ => False) w3).drew) id id id)
    have HC := hdd (fun n => HP3.out.cfg.keep ((Keep.refl (fun _ => False) w3).drewN n) (fun _ x => x.elim))
    have hrem : r.length ≤ 140737488355328 := HRQ.out
    obtain ⟨mn, hmn⟩ : ∃ mn, minCmp (cty (b.toNat % 16)) = mn := ⟨_, rfl⟩
    rw [hmn] at HL2 hmin ⊢
    clear hmn
    have HR4 := HRL
    go_wp2_with fail
    go_region_with (first | (go_at_call 410; refine (mem_remaining HM.out hrem).mono ?_; rintro e w5 ⟨rfl, nd, rfl⟩) | (go_at_call 278; refine (checkCont (E := E) (n0 := w.heap.size) n mn (r.length : Nat) HLO.out.1 HLO.out.2 (by omega) (by omega) (HC.out _) HP3.out.cok HSZ3.out).mono ?_; rintro e w6 ⟨v, rfl, hv6, hk6⟩))
    all_goals
     have hk7 : Keep (fun _ => False) w3 w6 := ((Keep.refl _ w3).drewN _).then hk6
     have hp7 : CmpP E P MB B D a c ⟨r, last, outer, pend, val⟩ fv sc w6 := HP3.out.fresh hk7
     have hkw : Keep (MB2 P B) w w6 := HKW3.out.then (hk7.weak (fun _ _ x => x.elim))
     have hlr : r.length ≤ (b :: r).length := HLR.out
     by_cases hz : contK n mn (r.length : Nat) c = 0
     ·rw [hz] at hv6
      have hev := hv6.isNil
      subst hev
      have HZ := hdd hz
      clear hz hv6
      go_wp2_with fail
      go_returns
      exact ⟨_, _, _, _, rfl, by rw [HL2.out, HZ.out]; exact ErrAt.nil _ _ _, hp7, hlr, hkw, fun _ => ⟨rfl, HLN.out.symm, HLS.out.symm⟩⟩
     ·obtain ⟨t, x, rfl⟩ := hv6.held hz
      have HZ := hdd hz
      clear hz
      go_wp2_with fail
      go_returns
      exact ⟨_, _, _, _, rfl, by rw [HL2.out]; exact hv6, hp7, hlr, hkw, fun hh => absurd (HL2.out ▸ hh) HZ.out⟩
   ·obtain ⟨t, x, rfl⟩ := he3.held hc
    have HL2 : Hid (Cmp.lK c ⟨b :: r, last, outer, pend, val⟩ = 10) := hdd (by rw [HLK.out, if_neg hc])
    have hc10 : ctyK (b.toNat % 16) = 10 := by unfold ctyK at hc ⊢; split <;> simp_all
    rw [hc10] at he3
    clear hc
    go_wp2_with fail
    refine (newPExc hp3.glob (n0 := w.heap.size) HSZ3.out he3 (by decide)).mono ?_
    rintro e w4 ⟨v, rfl, hv4, hk4⟩
    go_wp2_with fail
    go_returns
    exact ⟨_, _, _, _, rfl, by rw [HL2.out]; exact hv4, hp3.fresh hk4, HLR.out, HKW3.out.then (hk4.weak (fun _ _ x => x.elim)), fun hz => by rw [HL2.out] at hz; omega⟩
end
section
variable {E : Env} {P MB B D : Nat} {a : Option Addr} {c : Cfg} {s s' : Cmp.St} {fv : Value} {sc sc' : List UInt8} {w w' : World}
theorem cmp_setBegin (h : CmpP E P MB B D a c s fv sc w) (hr : s.rem.length ≤ 140737488355328) :
  Calls Tryz.prog 234 #[.pointer (some ⟨P, 0, none⟩), ctxV] w (CList E P MB B D a c s fv sc w) := by
 go_enter Tryz.func234, Tryz.ntmps234
 go_wp2_with fail
 refine (cmp_listBegin h hr).mono ?_
 rintro e w1 ⟨t, n, ev, s', rfl, h1, h2, h3, h4, h5⟩
 go_wp2_with fail
 go_returns
 exact ⟨t, n, ev, s', rfl, h1, h2, h3, h4, h5⟩
def CMap (E : Env) (P MB B D : Nat) (a : Option Addr) (c : Cfg) (s : Cmp.St) (fv : Value) (sc : List UInt8) (w : World) (e : Ending) (w' : World) : Prop :=
 ∃ kt t n ev s', e = .returned (.tuple #[.int .u8 kt, .int .u8 t, .int .i64 n, ev]) ∧ ErrAt E w.heap.size w' ev (Cmp.mK c s) ∧ CmpP E P MB B D a c s' fv sc w' ∧ s'.rem.length ≤ s.rem.length ∧ Keep (MB2 P B) w w' ∧ (Cmp.mK c s = 0 → kt = Cmp.mKT s ∧ t = Cmp.mT s ∧ n = v32 s.rem ∧ s' = Cmp.mS s)
theorem ttype_q (E : Env) (n0 : Nat) (p : Value) (b : UInt8) (w : World) (hs : n0 ≤ w.heap.size) :
  Calls Tryz.prog 272 #[p, .int .u8 ((b.toNat : Int) / 16)] w (TT E n0 (b.toNat / 16) w) := by
 have := ttype_low E n0 p (b.toNat / 16) (by have := b.toNat_lt; omega) w hs
 simpa using this
theorem ErrAt.some {E : Env} {n0 : Nat} {w : World} {v : Value} {k : Int} (h : ErrAt E n0 w v k) : v = .nilIface ∨ ∃ t x, v = .iface t x := by
 by_cases hk : k = 0
 ·subst hk; exact .inl h.isNil
 ·exact .inr (h.held hk)
set_option maxRecDepth 100000 in
theorem cmp_mapBegin (h : CmpP E P MB B D a c s fv sc w) (hr : s.rem.length ≤ 140737488355328) :
  Calls Tryz.prog 230 #[.pointer (some ⟨P, 0, none⟩), ctxV] w (CMap E P MB B D a c s fv sc w) := by
 go_enter Tryz.func230, Tryz.ntmps230
 go_wp2_with fail
 refine (cmp_varint32 h).mono ?_
 rintro e w1 ⟨n, ev, rfl, he, hp, hk, hv, hnb⟩
 obtain ⟨rem, last, outer, pend, val⟩ := s
 have hvl := vR_le rem
 have HK := hdd hk
 by_cases hz : vK rem = 0
 ·have hev : ev = .nilIface := by
   have he' : ErrAt E w.heap.size w1 ev (vK rem) := he
   rw [hz] at he'; exact he'.isNil
  subst hev
  have hn : n = v32 rem := hv hz
  have HN := hdd hn
  have hp1 : CmpP E P MB B D a c ⟨vR rem, last, outer, pend, val⟩ fv sc w1 := hp
  have hw64 : IntKind.i64.wrap n = n := IntWalk.i64_in _ (by omega)
  have HZ := hdd hz
  have HP1 := hdd hp1
  obtain ⟨R, hR⟩ : ∃ R, vR rem = R := ⟨_, rfl⟩
  have HRR := hdd hR
  have HRL : Hid (R.length ≤ 140737488355328) := hdd (by rw [← hR]; exact Nat.le_trans hvl hr)
  have HRL2 : Hid (R.length ≤ rem.length) := hdd (by rw [← hR]; exact hvl)
  clear he hp hk hv hz hp1 hn hvl hr
  rw [hR] at HP1
  clear hR
  by_cases hn0 : n = 0
  ·subst hn0
   have HLK : Hid (Cmp.mK c ⟨rem, last, outer, pend, val⟩ = contK 0 2 (R.length : Nat) c) := hdd (by simp only [Cmp.mK]; rw [if_pos HZ.out, if_pos HN.out.symm, HRR.out])
   have HKT : Hid (Cmp.mKT ⟨rem, last, outer, pend, val⟩ = cty 0) := hdd (by simp only [Cmp.mKT]; rw [if_pos HN.out.symm]; rfl)
   have HTT : Hid (Cmp.mT ⟨rem, last, outer, pend, val⟩ = cty 0) := hdd (by simp only [Cmp.mT]; rw [if_pos HN.out.symm]; rfl)
   have HLS : Hid (Cmp.mS ⟨rem, last, outer, pend, val⟩ = ⟨R, last, outer, pend, val⟩) := hdd (by simp only [Cmp.mS]; rw [if_pos HN.out.symm, HRR.out])
   have HPQ := hdd HP1.out
   have HRQ := HRL
   have HLR := HRL2
   have HLO : Hid (-2147483648 ≤ (0 : Int) ∧ (0 : Int) ≤ 2147483647) := hdd (by omega)
   have HKW : Hid (Keep (MB2 P B) w w1) := hdd (HK.out.weak (fun _ _ x => .inl x))
   go_wp2_with fail
   refine (ttype_low E w.heap.size _ 0 (by omega) _ HK.out.size).mono ?_
   rintro e w3 ⟨ev1, rfl, he3, hk3⟩
   have HE3 := hdd he3
   clear he3
   go_wp2_with fail
   refine (ttype_low E w.heap.size _ 0 (by omega) _ (Nat.le_trans HK.out.size hk3.size)).mono ?_
   rintro e w4 ⟨ev2, rfl, he4, hk4⟩
   have hp4 := (HPQ.out.fresh hk3).fresh hk4
   have HKW4 : Hid (Keep (MB2 P B) w w4) := hdd (HKW.out.then ((hk3.then hk4).weak (fun _ _ x => x.elim)))
   have HSZ4 := hdd HKW4.out.size
   obtain ⟨c0, _, c2, _, _, _, _⟩ := hp4.cells
   have HP4 := hdd hp4
   clear hk3 he4 hk4 hp4
   go_wp2_with fail
   refine (minCmp_at _ _ _).mono ?_
   rintro e w5 ⟨rfl, rfl⟩
   rw [show minCmp (cty 0) = 1 by decide]
   go_wp2_with fail
   refine (minCmp_at _ _ _).mono ?_
   rintro e w5 ⟨rfl, rfl⟩
   rw [show minCmp (cty 0) = 1 by decide]
   have HM := hdd (HP4.out.mem.keep ((Keep.refl (fun _ => False) w4).drew) id id id)
   have HC := hdd (fun n => HP4.out.cfg.keep ((Keep.refl (fun _ => False) w4).drewN n) (fun _ x => x.elim))
   have hrem : R.length ≤ 140737488355328 := HRQ.out
   go_wp2_with fail
   go_region_with (first | (go_at_call 410; refine (mem_remaining HM.out hrem).mono ?_; rintro e w5 ⟨rfl, nd, rfl⟩) | (go_at_call 278; refine (checkCont (E := E) (n0 := w.heap.size) (0) 2 (R.length : Nat) HLO.out.1 HLO.out.2 (by omega) (by omega) (HC.out _) HP4.out.cok HSZ4.out).mono ?_; rintro e w6 ⟨v, rfl, hv6, hk6⟩))
   all_goals
    have hk7 : Keep (fun _ => False) w4 w6 := ((Keep.refl _ w4).drewN _).then hk6
    have hp7 := HP4.out.fresh hk7
    have hkw : Keep (MB2 P B) w w6 := HKW4.out.then (hk7.weak (fun _ _ x => x.elim))
    by_cases hz : contK (0) 2 (R.length : Nat) c = 0
    ·rw [hz] at hv6
     have hev := hv6.isNil
     subst hev
     have HZ0 := hdd hz
     clear hz hv6
     go_wp2_with fail
     go_returns
     exact ⟨_, _, _, _, _, rfl, by rw [HLK.out, HZ0.out]; exact ErrAt.nil _ _ _, hp7, HLR.out, hkw, fun _ => ⟨HKT.out.symm, HTT.out.symm, HN.out, HLS.out.symm⟩⟩
    ·obtain ⟨t, x, rfl⟩ := hv6.held hz
     have HZ0 := hdd hz
     clear hz
     go_wp2_with fail
     go_returns
     exact ⟨_, _, _, _, _, rfl, by rw [HLK.out]; exact hv6, hp7, HLR.out, hkw, fun hh => absurd (HLK.out ▸ hh) HZ0.out⟩
  ·have hn1 : (n == 0) = false := by simpa using hn0
   go_wp2_with fail
   refine (cmp_byte HP1.out).mono ?_
   rintro e w2 ⟨y, ev, rfl, he2, hp2, hk2, hy, hv2⟩
   have HKW : Hid (Keep (MB2 P B) w w2) := hdd ((HK.out.then hk2).weak (fun _ _ x => .inl x))
   have hvn : ¬ v32 rem = 0 := fun e => hn0 (HN.out.trans e)
   cases R with
   | nil =>
    obtain ⟨t, x, rfl⟩ := he2.held (show (1 : Int) ≠ 0 by decide)
    have HLK : Hid (Cmp.mK c ⟨rem, last, outer, pend, val⟩ = 1) := hdd (by simp only [Cmp.mK]; rw [if_pos HZ.out, if_neg hvn, HRR.out])
    clear hv2 hvn
    go_wp2_with fail
    go_returns
    exact ⟨_, _, _, _, _, rfl, by rw [HLK.out]; exact he2.mono HK.out.size, hp2, by simp, HKW.out, fun hh => by rw [HLK.out] at hh; omega⟩
   | cons b r =>
    have hev : ev = .nilIface := by rw [endK, if_pos (by simp)] at he2; exact he2.isNil
    subst hev
    have hyb := hv2 b r rfl
    subst hyb
    have h15 := u8_and15 b
    have hb8 := b.toNat_lt
    have HLK : Hid (Cmp.mK c ⟨rem, last, outer, pend, val⟩ = contK n (minCmp (cty (b.toNat / 16)) + minCmp (cty (b.toNat % 16))) (r.length : Nat) c) := hdd (by simp only [Cmp.mK]; rw [if_pos HZ.out, if_neg hvn, HRR.out, HN.out])
    have HKT : Hid (Cmp.mKT ⟨rem, last, outer, pend, val⟩ = cty (b.toNat / 16)) := hdd (by simp only [Cmp.mKT]; rw [if_neg hvn, HRR.out])
    have HTT : Hid (Cmp.mT ⟨rem, last, outer, pend, val⟩ = cty (b.toNat % 16)) := hdd (by simp only [Cmp.mT]; rw [if_neg hvn, HRR.out])
    have HLS : Hid (Cmp.mS ⟨rem, last, outer, pend, val⟩ = ⟨r, last, outer, pend, val⟩) := hdd (by simp only [Cmp.mS]; rw [if_neg hvn, HRR.out]; rfl)
    have hpq : CmpP E P MB B D a c ⟨r, last, outer, pend, val⟩ fv sc w2 := hp2
    have HPQ := hdd hpq
    have HRQ : Hid (r.length ≤ 140737488355328) := hdd (by have := HRL.out; simp at this; omega)
    have HLR : Hid (r.length ≤ rem.length) := hdd (by have := HRL2.out; simp at this; omega)
    have HLO := hdd hnb
    have HSZ2 := hdd HKW.out.size
    clear he2 hp2 hk2 hv2 hy hpq hvn
    go_wp2_with fail
    refine (ttype_q E w.heap.size _ b _ HSZ2.out).mono ?_
    rintro e w3 ⟨ev1, rfl, he3, hk3⟩
    have HE3 := hdd he3
    clear he3
    go_wp2_with fail
    refine (ttype_b E w.heap.size _ b _ (Nat.le_trans HSZ2.out hk3.size)).mono ?_
    rintro e w4 ⟨ev2, rfl, he4, hk4⟩
    have hp4 := (HPQ.out.fresh hk3).fresh hk4
    have HKW4 : Hid (Keep (MB2 P B) w w4) := hdd (HKW.out.then ((hk3.then hk4).weak (fun _ _ x => x.elim)))
    have HSZ4 := hdd HKW4.out.size
    obtain ⟨c0, _, c2, _, _, _, _⟩ := hp4.cells
    have HP4 := hdd hp4
    clear hk3 he4 hk4 hp4
    go_wp2_with fail
    refine (minCmp_at _ _ _).mono ?_
    rintro e w5 ⟨rfl, rfl⟩
    have hm1 := minCmp_bd (cty (b.toNat / 16))
    obtain ⟨m1, hq1⟩ : ∃ m1, minCmp (cty (b.toNat / 16)) = m1 := ⟨_, rfl⟩
    rw [hq1] at HLK hm1 ⊢
    go_wp2_with fail
    refine (minCmp_at _ _ _).mono ?_
    rintro e w5 ⟨rfl, rfl⟩
    have hm2 := minCmp_bd (cty (b.toNat % 16))
    obtain ⟨m2, hq2⟩ : ∃ m2, minCmp (cty (b.toNat % 16)) = m2 := ⟨_, rfl⟩
    rw [hq2] at HLK hm2 ⊢
    have hw32 : IntKind.i32.wrap (m1 + m2) = m1 + m2 := IntWalk.i32_in _ (by omega)
    clear hq1 hq2
    have HM := hdd (HP4.out.mem.keep ((Keep.refl (fun _ => False) w4).drew) id id id)
    have HC := hdd (fun n => HP4.out.cfg.keep ((Keep.refl (fun _ => False) w4).drewN n) (fun _ x => x.elim))
    have hrem : r.length ≤ 140737488355328 := HRQ.out
    go_wp2_with fail
    go_region_with (first | (go_at_call 410; refine (mem_remaining HM.out hrem).mono ?_; rintro e w5 ⟨rfl, nd, rfl⟩) | (go_at_call 278; refine (checkCont (E := E) (n0 := w.heap.size) (n) (m1 + m2) (r.length : Nat) HLO.out.1 HLO.out.2 (by omega) (by omega) (HC.out _) HP4.out.cok HSZ4.out).mono ?_; rintro e w6 ⟨v, rfl, hv6, hk6⟩))
    all_goals
     have hk7 : Keep (fun _ => False) w4 w6 := ((Keep.refl _ w4).drewN _).then hk6
     have hp7 := HP4.out.fresh hk7
     have hkw : Keep (MB2 P B) w w6 := HKW4.out.then (hk7.weak (fun _ _ x => x.elim))
     by_cases hz : contK (n) (m1 + m2) (r.length : Nat) c = 0
     ·rw [hz] at hv6
      have hev := hv6.isNil
      subst hev
      have HZ0 := hdd hz
      clear hz hv6
      go_wp2_with fail
      go_returns
      exact ⟨_, _, _, _, _, rfl, by rw [HLK.out, HZ0.out]; exact ErrAt.nil _ _ _, hp7, HLR.out, hkw, fun _ => ⟨HKT.out.symm, HTT.out.symm, HN.out, HLS.out.symm⟩⟩
     ·obtain ⟨t, x, rfl⟩ := hv6.held hz
      have HZ0 := hdd hz
      clear hz
      go_wp2_with fail
      go_returns
      exact ⟨_, _, _, _, _, rfl, by rw [HLK.out]; exact hv6, hp7, HLR.out, hkw, fun hh => absurd (HLK.out ▸ hh) HZ0.out⟩
 ·obtain ⟨t, x, rfl⟩ := he.held hz
  have HZ := hdd hz
  clear hz hv
  go_wp2_with fail
  refine (newPExc hp.glob (n0 := w.heap.size) hk.size he (vK_lt rem)).mono ?_
  rintro e w3 ⟨v, rfl, hv3, hk3⟩
  go_wp2_with fail
  go_returns
  have hfk : Cmp.mK c ⟨rem, last, outer, pend, val⟩ = pk (vK rem) := by simp only [Cmp.mK]; rw [if_neg HZ.out]
  exact ⟨_, _, _, _, _, rfl, by rw [hfk]; exact hv3, hp.fresh hk3, hvl, (hk.weak (fun _ _ x => .inl x)).then (hk3.weak (fun _ _ x => x.elim)), fun hz => by rw [hfk] at hz; exact absurd hz (pk_ne HZ.out)⟩
end
theorem splice_ten {α : Type} (a0 a1 a2 a3 a4 a5 a6 a7 a8 a9 : α) (l cs : List α) : splice (a0 :: a1 :: a2 :: a3 :: a4 :: a5 :: a6 :: a7 :: a8 :: a9 :: l) 10 cs = a0 :: a1 :: a2 :: a3 :: a4 :: a5 :: a6 :: a7 :: a8 :: a9 :: splice l 0 cs := by
 simp [splice]
 rw [show 10 + cs.length = cs.length + 10 by omega]
 simp
theorem cmp_block {w' : World} {P MB : Nat} {a : Option Addr} {fv : Value} {last : Int} {val pend : Bool} {T : TypeId} {sc cs : List UInt8} (h : w'.heap[P]? = some (.cells (splice (cmpC MB a fv last val pend sc) 10 (bcells cs)).toArray T (0, 0))) (hsc : sc.length = 64) (hcs : cs.length ≤ 64) :
  ∃ sc' : List UInt8, sc'.length = 64 ∧ w'.heap[P]? = some (.cells (cmpC MB a fv last val pend sc').toArray T (0, 0)) ∧ sc'.take cs.length = cs := by
 refine ⟨splice sc 0 cs, by rw [length_splice _ _ _ (by omega)]; exact hsc, ?_, by simp [splice]⟩
 rw [h]
 show some (Obj.cells (splice (_ :: _ :: _ :: _ :: _ :: _ :: _ :: _ :: _ :: _ :: bcells sc) 10 (bcells cs)).toArray T (0, 0)) = _
 rw [splice_ten, bcells_splice]
theorem leNat_lt : ∀ l : List UInt8, Lib.leNat l < 256 ^ l.length
 | [] => by decide
 | b :: r => by
  have := leNat_lt r
  have := b.toNat_lt
  simp only [Lib.leNat, List.length_cons, Nat.pow_succ]
  omega
section
variable {E : Env} {P MB B D : Nat} {a : Option Addr} {c : Cfg} {s s' : Cmp.St} {fv : Value} {sc sc' : List UInt8} {w w' : World}
def CFull (E : Env) (P MB B D : Nat) (a : Option Addr) (c : Cfg) (s : Cmp.St) (fv : Value) (n : Nat) (w : World) (e : Ending) (w' : World) : Prop :=
 ∃ ev sc', e = .returned (.tuple #[.int .i64 (min n s.rem.length : Nat), ev]) ∧ ErrAt E w.heap.size w' ev (endK n s.rem) ∧ CmpP E P MB B D a c (s.at (s.rem.drop n)) fv sc' w' ∧ Keep (MB2 P B) w w' ∧ sc'.take (min n s.rem.length) = s.rem.take n
theorem cmp_readFull (h : CmpP E P MB B D a c s fv sc w) (n k : Nat) (hn : 0 < n) (hnk : n ≤ k) (hk : n ≤ 64) :
  Calls Tryz.prog 270 #[memV MB, .slice (some ⟨P, 10, none⟩) n k] w (CFull E P MB B D a c s fv n w) := by
 have h1 := h.sc64
 have h2 := h.blk
 have hnB := h.neB
 have hnM := h.neM
 have hnD := h.neD
 have hlen : (cmpC MB a fv s.last s.val s.pend sc).toArray.size = 74 := by simp [h1]
 obtain ⟨rem, last, outer, pend, val⟩ := s
 go_enter Tryz.func270, Tryz.ntmps270
 go_wp2_with fail
 by_cases hl : n ≤ rem.length
 ·refine (readAtLeast_all (T := 256) h.mem hl hn (by omega) h2 hnB hnD hnM (by simp; omega)).mono ?_
  rintro e w1 ⟨rfl, hm1, hb1, hk1⟩
  have hk2 : Keep (MB2 P B) w w1 := hk1
  obtain ⟨sc', e1, e2, e3⟩ := cmp_block hb1 h1 (by simp; omega)
  go_wp2_with fail
  go_ret2
  have hmin : min n rem.length = n := by omega
  refine ⟨_, sc', by show _ = Ending.returned (.tuple #[.int .i64 (min n rem.length : Nat), _]); rw [hmin]; rfl, ?_, h.step hk2 e1 e2 hm1 rfl h.last16, hk2, ?_⟩
  ·show ErrAt _ _ _ _ (endK n rem); rw [endK, if_pos hl]; exact ErrAt.nil _ _ _
  ·show sc'.take (min n rem.length) = _; rw [hmin]; simpa [hmin] using e3
 ·by_cases hz : rem = []
  ·subst hz
   refine (readAtLeast_end h.glob h.mem hn hnk (by omega)).mono ?_
   rintro e w1 ⟨rfl, hm1, hk1⟩
   have hk2 : Keep (MB2 P B) w w1 := hk1.weak (fun _ _ x => .inl x)
   have hb1 := (hk1.block P (lt_of_heap h2) (fun e => hnB e.symm)).trans h2
   go_wp2_with fail
   go_ret2
   refine ⟨eofV E, sc, by simp, ?_, h.step hk2 h1 hb1 (by simpa using hm1) rfl h.last16, hk2, by simp⟩
   simp only [endK, if_neg hl]
   exact .inr (.inl ⟨rfl, rfl⟩)
  ·refine (readAtLeast_some (T := 256) h.glob h.mem (by show rem.length < n; omega) hz hnk (by omega) h2 hnB hnD hnM h.base (by simp; omega)).mono ?_
   rintro e w1 ⟨rfl, hm1, hb1, hk1⟩
   have hk2 : Keep (MB2 P B) w w1 := hk1
   obtain ⟨sc', e1, e2, e3⟩ := cmp_block hb1 h1 (by show rem.length ≤ 64; omega)
   go_wp2_with fail
   go_ret2
   have hmin : min n rem.length = rem.length := by omega
   refine ⟨_, sc', by show _ = Ending.returned (.tuple #[.int .i64 (min n rem.length : Nat), _]); rw [hmin]; rfl, ?_, h.step hk2 e1 e2 (by show Mem _ _ _ _ _ (rem.drop n); rw [List.drop_of_length_le (by omega)]; exact hm1) rfl h.last16, hk2, ?_⟩
   ·show ErrAt _ _ _ _ (endK n rem); rw [endK, if_neg hl, if_neg (by simpa using hz)]
    exact .inr (.inr (.inl ⟨rfl, rfl⟩))
   ·show sc'.take (min n rem.length) = rem.take n; rw [hmin, e3, List.take_of_length_le (by omega)]
theorem ccell_sc {w : World} {P MB : Nat} {a : Option Addr} {fv : Value} {last : Int} {val pend : Bool} {T : TypeId} {sc : List UInt8} (h : w.heap[P]? = some (.cells (cmpC MB a fv last val pend sc).toArray T (0, 0))) (j : Nat) (hj : j < sc.length) :
  w.cell? ⟨P, 10 + j, none⟩ = some (.int .u8 (sc[j].toNat : Int)) := by
 rw [cellAt h]
 simp only [List.getElem?_toArray]
 rw [show 10 + j = j + 10 by omega]
 simp [bcells, hj]
theorem take8' {sc : List UInt8} (hs : sc.length = 64) : sc.take 8 = [sc[0], sc[1], sc[2], sc[3], sc[4], sc[5], sc[6], sc[7]] := take8 hs
theorem cmp_le64 {w : World} {P MB : Nat} {a : Option Addr} {fv : Value} {last : Int} {val pend : Bool} {T : TypeId} {sc : List UInt8} {p : Value} (hb : w.heap[P]? = some (.cells (cmpC MB a fv last val pend sc).toArray T (0, 0))) (hs : sc.length = 64) :
  Calls Tryz.prog 271 #[p, .slice (some ⟨P, 10, none⟩) 8 64] w fun e w' => e = .returned (.int .u64 (Lib.leNat (sc.take 8))) ∧ Keep (fun _ => False) w w' := by
 rw [take8' hs]
 go_enter Tryz.func271, Tryz.ntmps271
 go_wp2_with fail
 refine (Tryz.binary_LE_Uint64 P 10 8 64 sc[0] sc[1] sc[2] sc[3] sc[4] sc[5] sc[6] sc[7] _ (by omega) (ccell_sc hb 0 (by omega)) (ccell_sc hb 1 (by omega)) (ccell_sc hb 2 (by omega)) (ccell_sc hb 3 (by omega)) (ccell_sc hb 4 (by omega)) (ccell_sc hb 5 (by omega)) (ccell_sc hb 6 (by omega)) (ccell_sc hb 7 (by omega))).mono ?_
 rintro e w2 ⟨rfl, hb2⟩
 go_wp2_with fail
 go_ret
 exact ⟨rfl, Keep.of_below hb2 _⟩
def CDbl (E : Env) (P MB B D : Nat) (a : Option Addr) (c : Cfg) (s : Cmp.St) (fv : Value) (w : World) (e : Ending) (w' : World) : Prop :=
 ∃ (n : Nat) (ev : Value) (sc' : List UInt8), e = .returned (.tuple #[.float .f64 n, ev]) ∧ ErrAt E w.heap.size w' ev (fullK 8 s.rem) ∧ CmpP E P MB B D a c (s.at (s.rem.drop 8)) fv sc' w' ∧ Keep (MB2 P B) w w' ∧ n < 18446744073709551616 ∧ (8 ≤ s.rem.length → n = Lib.leNat (s.rem.take 8))
theorem cmp_readDouble (h : CmpP E P MB B D a c s fv sc w) :
  Calls Tryz.prog 222 #[.pointer (some ⟨P, 0, none⟩), ctxV] w (CDbl E P MB B D a c s fv w) := by
 obtain ⟨c0, _, _, _, _, _, _⟩ := h.cells
 go_enter Tryz.func222, Tryz.ntmps222
 go_wp2_with fail
 refine (cmp_readFull h 8 64 (by omega) (by omega) (by omega)).mono ?_
 rintro e w1 ⟨ev, sc1, rfl, he1, h1, hk1, ht⟩
 have hs := h1.sc64
 have hb := h1.blk
 by_cases hl : 8 ≤ s.rem.length
 ·have hev : ev = .nilIface := by rw [endK, if_pos hl] at he1; exact he1.isNil
  subst hev
  have hfb := frombits
  have hmin : min 8 s.rem.length = 8 := by omega
  have HT := hdd (show sc1.take 8 = s.rem.take 8 by have h9 := ht; rw [hmin] at h9; exact h9)
  have HL := hdd hl
  have HS := hdd hs
  clear ht hl he1
  rw [hmin]
  clear hmin
  go_wp2_with fail
  refine (cmp_le64 hb HS.out).mono ?_
  rintro e w2 ⟨rfl, hk2⟩
  obtain ⟨m, hm⟩ : ∃ m, Lib.leNat (sc1.take 8) = m := ⟨_, rfl⟩
  have hlt : m < 18446744073709551616 := by
   rw [← hm]
   have := leNat_lt (sc1.take 8)
   rw [show (sc1.take 8).length = 8 by simp [HS.out]] at this
   exact this
  rw [hm]
  have HM := hdd hm
  have Hlt := hdd hlt
  clear hm hlt
  go_wp2_with fail
  go_ret2
  refine ⟨m, _, _, rfl, ?_, h1.fresh hk2, hk1.then (hk2.weak (fun _ _ x => x.elim)), Hlt.out, fun _ => by rw [← HM.out, HT.out]⟩
  rw [fullK, if_pos HL.out]; exact ErrAt.nil _ _ _
 ·obtain ⟨t, x, rfl⟩ := he1.held (by unfold endK; rw [if_neg hl]; split <;> decide)
  have HL := hdd hl
  clear ht hl
  go_wp2_with fail
  refine (newPExc h1.glob (n0 := w.heap.size) hk1.size he1 (endK_lt _ _)).mono ?_
  rintro e w2 ⟨v, rfl, hv2, hk2⟩
  go_wp2_with fail
  go_ret2
  exact ⟨0, _, _, rfl, by rw [← pk_endK]; exact hv2, h1.fresh hk2, hk1.then (hk2.weak (fun _ _ x => x.elim)), by decide, fun hh => absurd hh HL.out⟩
end
end Go.Proofs.YtjekbomlpcdojaaGreatDoor
