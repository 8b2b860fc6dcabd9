/- Part 28 of the proof: Rc1. -/
import Derived.Test.YthehmlbolajljaaGreatDoorQ26
import Derived.Test.YthehmlbolajljaaGreatDoorQ27
import Derived.Test.YthehmlbolajljaaGreatDoorQ15
import Derived.Lib.AppendStr
set_option linter.unusedVariables false
set_option linter.unusedSimpArgs false
set_option linter.unusedSectionVars false
set_option maxHeartbeats 16000000
namespace Go.Proofs.YthehmlbolajljaaGreatDoor
open Go Go.RowKit
abbrev wName : ByteArray := ⟨#[58, 32, 119, 114, 111, 110, 103, 32, 109, 101, 116, 104, 111, 100, 32, 110, 97, 109, 101]⟩
abbrev wSeq : ByteArray := ⟨#[58, 32, 111, 117, 116, 32, 111, 102, 32, 111, 114, 100, 101, 114, 32, 115, 101, 113, 117, 101, 110, 99, 101, 32, 114, 101, 115, 112, 111, 110, 115, 101]⟩
abbrev wType : ByteArray := ⟨#[58, 32, 105, 110, 118, 97, 108, 105, 100, 32, 109, 101, 115, 115, 97, 103, 101, 32, 116, 121, 112, 101]⟩
def excR {σ : Type} (R : Int × σ × (List UInt8 × Int)) : Int × σ × List UInt8 × V := if R.1 = 0 then (faultK R.2.2.2, R.2.1, fltTxt R.2.2, V.zero) else (R.1, R.2.1, [], V.zero)
def rcvR {σ : Type} (p : Pr σ) (gK gT gN : Int) (gB : List UInt8) (s1 : σ) (seq : Int) (m : List UInt8) (d : Nat) : Int × σ × List UInt8 × V :=
 if gK = 0 then
  (if gB = m then
   (if gN = seq then
    (if gT = 3 then excR (flt p (p.len (p.sbS s1) + 1) (p.sbS s1) ([], 0))
     else if gT = 2 then ((gt p d 12 s1).1, (gt p d 12 s1).2.1, [], (gt p d 12 s1).2.2)
     else (32, s1, m ++ wType.data.toList, V.zero))
    else (34, s1, m ++ wSeq.data.toList, V.zero))
   else (33, s1, m ++ wName.data.toList, V.zero))
 else (gK, s1, [], V.zero)
theorem run_append_noneO (a : Option Addr) (c : Nat) (ty : TypeId) (w : World) : (Builtin.append_ #[24, 24] ty #[.slice none 0 0, .slice a 0 c]).run Tryz.prog w = .ok (.slice none 0 0) w := by
 cases a <;> kernel_rfl
theorem wpList_nilO {A : Nat → Prop} {w : World} {ops : Array Oper} {rest : List Oper} {o : Oper} {a : Act} {Q : Exit → Act → World → Prop} (hg : o.guard = none) (s x : Operand)
  (hop : o.op = Op.call { callee := Callee.builtin Builtin.append, args := #[s, x], argTypes := #[24, 24] })
  (hs : a.eval s = .slice none 0 0) (v : Value) (l : List UInt8) (hv : BytesAt A w v l) (hx : a.eval x = v)
  (hK : ∀ v' w', w'.ownsRow w.heap.size 5 1 v' l.length (bcells l) → Keep (fun _ => False) w w' → wpList Tryz.prog ops Q rest (a.put o.dst v') w') : wpList Tryz.prog ops Q (o :: rest) a w := by
 rcases hv with ⟨rfl, va, c, rfl⟩ | ⟨hne, D, off, c, rfl, h1, h2, h3, h4⟩
 ·refine wpList_plain hg fun K hK' => ?_
  have hrun := run_append_noneO va c o.type w
  unfold Oper.wp
  simp [execOp, hop, resolve, invoke, builtin, hs, hx, hrun, Result.andThen]
  exact hK' _ _ (hK _ _ (World.ownsRow_nil w _ _ _) (Keep.refl _ w))
 ·have h0 := u8info
  obtain ⟨i, hi, h5⟩ := Option.map_eq_some_iff.1 h0
  simp only [Prod.mk.injEq] at h5
  obtain ⟨hz, hsz, hby⟩ := h5
  refine wpList_append_own w hg s x 24 hop w.heap.size 5 i (.int .u8 0) 1 1 Tryz.underlying24 hi hz hsz hby rfl (by omega) (.slice none 0 0) 0 [] hs (World.ownsRow_nil w _ _ _)
   ⟨D, off, none⟩ l.length c (bcells l) hx (by simp) (fun j u hj => ?_) (bcells_oc l) (by simp only [maxLen]; omega) (by omega) (Nat.le_refl _) (fun v' w' r1 r2 _ => hK v' w' (by simpa using r1) ((Keep.refl _ w).grown r2 (fun k hk => by cases hk)))
  simp [bcells] at hj
  obtain ⟨b, hb1, rfl⟩ := hj
  rw [Addr.add_lit]
  exact h4 j b hb1
set_option maxRecDepth 100000 in
theorem said_at {A : Nat → Prop} {w : World} {v : Value} {l : List UInt8} (h : BytesAt A w v l) (t : ByteArray) (hb : l.length + t.size ≤ 140737488355328) :
  Calls Tryz.prog 72 #[v, .string t] w fun e w' => ∃ va vm vc, e = .returned (.slice va vm vc) ∧ BytesAt (w.heap.size ≤ ·) w' (.slice va vm vc) (l ++ t.data.toList) ∧ Keep (fun _ => False) w w' := by
 have h0 := u8info
 obtain ⟨i, hi, h5⟩ := Option.map_eq_some_iff.1 h0
 simp only [Prod.mk.injEq] at h5
 obtain ⟨hz, hsz, hby⟩ := h5
 have H := hdd h
 have HB := hdd hb
 clear h hb
 obtain ⟨n, hn⟩ : ∃ n, l.length = n := ⟨_, rfl⟩
 have HN := hdd hn
 clear hn
 go_enter Tryz.func72, Tryz.ntmps72
 go_wp2_with (refine wpList_nilO rfl _ _ rfl rfl v l H.out rfl ?_)
 intro v1 w1 ho1 hk1
 rw [HN.out] at ho1
 have HO := hdd ho1
 have HK1 := hdd hk1
 clear ho1 hk1
 go_wp2_with (at_builtin; go_loud (refine Lib.wpList_append_own_string w1 rfl _ _ 24 9 rfl w.heap.size 5 i Tryz.underlying24 Tryz.underlying9 hi hz hsz hby v1 n (bcells l) rfl HO.out t rfl (by have := HB.out; have := HN.out; simp only [maxLen]; omega) (by have := HB.out; have := HN.out; omega) HK1.out.size ?_))
 intro v2 w2 ho2 hg2 _
 have hcat : bcells l ++ Lib.strCells t = bcells (l ++ t.data.toList) := by simp [bcells, Lib.strCells]
 rw [hcat] at ho2
 have hb2 : BytesAt (w.heap.size ≤ ·) w2 v2 (l ++ t.data.toList) := .row ho2 (by have := HN.out; simp; omega) (by have := HB.out; have := HN.out; omega)
 have hk2 : Keep (fun i => w.heap.size ≤ i) w1 w2 := (Keep.refl _ w1).grown hg2 (fun k hk _ => (World.ownsRow.lt HO.out k hk).1)
 obtain ⟨va, vm, vc, rfl⟩ := hb2.shape
 have HB2 := hdd hb2
 have HK2 := hdd hk2
 clear hb2 hk2 ho2 hg2
 go_wp2_with fail
 go_ret
 exact ⟨va, vm, vc, rfl, HB2.out, HK1.out.trans HK2.out (fun i hi e => by omega)⟩
theorem isSame_at {A A' : Nat → Prop} {w : World} {v1 v2 : Value} {l1 l2 : List UInt8} (h1 : BytesAt A w v1 l1) (h2 : BytesAt A' w v2 l2) :
  Calls Tryz.prog 71 #[v1, v2] w fun e w' => e = .returned (.bool (decide (l1 = l2))) ∧ ∃ n, w.drewN n = w' := by
 obtain ⟨a1, c1, rfl, hl, hc1, g1⟩ := h1.cellAt'
 obtain ⟨a2, c2, rfl, _, hc2, g2⟩ := h2.cellAt'
 obtain ⟨L, hL⟩ : ∃ L, l1.length = L := ⟨_, rfl⟩
 obtain ⟨L2, hL2⟩ : ∃ L2, l2.length = L2 := ⟨_, rfl⟩
 rw [hL] at hl hc1 ⊢
 rw [hL2] at hc2 ⊢
 have HL := hdd hL
 have HL2 := hdd hL2
 have G1 := hdd g1
 have G2 := hdd g2
 have HC1 := hdd hc1
 have HC2 := hdd hc2
 clear hL hL2 g1 g2 hc1 hc2
 by_cases hLL : L = L2
 ·subst hLL
  go_enter Tryz.func71, Tryz.ntmps71
  go_wp2_with fail
  go_loopw [5] (fun i wr => ∃ k n : Nat, k ≤ L ∧ i = .int .i64 k ∧ w.drewN n = wr ∧ l1.take k = l2.take k) (fun i _ => L - (intOf i).toNat)
  case atStart => exact ⟨0, 0, Nat.zero_le _, rfl, rfl, rfl⟩
  case round =>
   obtain ⟨k, n, hk, rfl, rfl, htk⟩ := hrel
   have HTK := hdd htk
   clear htk
   by_cases hlt : k < L
   ·have hj1 : l1[k]? = some (l1[k]'(by have := HL.out; omega)) := List.getElem?_eq_getElem _
    have hj2 : l2[k]? = some (l2[k]'(by have := HL2.out; omega)) := List.getElem?_eq_getElem _
    obtain ⟨D1, o1, ha1, e1⟩ := G1.out k _ hj1
    obtain ⟨D2, o2, ha2, e2⟩ := G2.out k _ hj2
    generalize (l1[k]'(by have := HL.out; omega)) = b1 at *
    generalize (l2[k]'(by have := HL2.out; omega)) = b2 at *
    subst ha1 ha2
    have hw : IntKind.i64.wrap ((k : Int) + 1) = (k : Int) + 1 := IntWalk.i64_in _ (by omega)
    have hlt' : (k : Int) < (L : Int) := by omega
    have hlc1 : L ≤ c1 := HC1.out (by omega)
    have hlc2 : L ≤ c2 := HC2.out (by omega)
    have HJ1 := hdd hj1
    have HJ2 := hdd hj2
    clear hj1 hj2
    by_cases hb : b1 = b2
    ·subst hb
     go_wp2_with fail
     go_quiet (fail)
     go_wp2_with fail
     go_roundw
     case rel => exact ⟨k + 1, _, by omega, by go_num, rfl, by rw [List.take_add_one, List.take_add_one, HTK.out, HJ1.out, HJ2.out]⟩
     case measure => simp [intOf]; omega
    ·have hne : ¬ (b1.toNat : Int) = (b2.toNat : Int) := fun e => hb (UInt8.toNat_inj.1 (by omega))
     have hnb : ((b1.toNat : Int) != (b2.toNat : Int)) = true := by simpa using hne
     have hll : l1 ≠ l2 := fun e => by
      have h3 := HJ1.out
      rw [e, HJ2.out] at h3
      exact hb (Option.some.inj h3).symm
     have HLL := hdd hll
     clear hll
     go_wp2_with fail
     go_quiet (fail)
     go_wp2_with fail
     go_ret
     exact ⟨by rw [decide_eq_false HLL.out]; rfl, _, (World.drewN_drewN _ _ _).symm⟩
   ·have hge : ¬ (k : Int) < (L : Int) := by omega
    have hkL : k = L := by omega
    subst hkL
    have hll : l1 = l2 := by
     have h3 := HTK.out
     rwa [List.take_of_length_le (by have := HL.out; omega), List.take_of_length_le (by have := HL2.out; omega)] at h3
    have HLL := hdd hll
    clear hll
    go_wp2
    go_ret
    exact ⟨by rw [decide_eq_true HLL.out]; rfl, _, rfl⟩
 ·have hne : ¬ (L : Int) = (L2 : Int) := by omega
  have hd : decide (l1 = l2) = false := decide_eq_false (fun e => hLL (by rw [← HL.out, ← HL2.out, e]))
  rw [hd]
  clear hd
  go_enter Tryz.func71, Tryz.ntmps71
  go_wp2_with fail
  go_ret
  exact ⟨rfl, 0, rfl⟩
theorem faultKind_at (q : Int) (h1 : -2147483648 ≤ q) (h2 : q ≤ 2147483647) (w : World) : Calls Tryz.prog 73 #[.int .i32 q] w fun e w' => e = .returned (.int .i64 (faultK q)) ∧ w = w' := by
 unfold faultK
 by_cases q1 : q < 0
 ·rw [if_pos q1]
  go_enter Tryz.func73, Tryz.ntmps73
  go_wp2_with fail
  go_ret
  exact ⟨rfl, rfl⟩
 ·rw [if_neg q1]
  by_cases q2 : 11 < q
  ·rw [if_pos q2]
   go_enter Tryz.func73, Tryz.ntmps73
   go_wp2_with fail
   go_ret
   exact ⟨rfl, rfl⟩
  ·rw [if_neg q2]
   have hw : IntKind.i64.wrap q = q := IntWalk.i64_in _ (by omega)
   have hw2 : IntKind.i64.wrap (30 + q) = 30 + q := IntWalk.i64_in _ (by omega)
   go_enter Tryz.func73, Tryz.ntmps73
   go_wp2_with fail
   go_ret
   exact ⟨rfl, rfl⟩
end Go.Proofs.YthehmlbolajljaaGreatDoor
