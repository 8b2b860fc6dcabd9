/- Part 7 of the proof: Sp1. -/
import Derived.Test.YtjekbomlpcdojaaGreatDoorH6
import Derived.ArgAppend
set_option linter.unusedVariables false
set_option linter.unusedSimpArgs false
set_option linter.unusedSectionVars false
set_option maxHeartbeats 16000000
namespace Go.Proofs.YtjekbomlpcdojaaGreatDoor
open Go Go.RowKit
def BytesAt (A : Nat → Prop) (w : World) (v : Value) (l : List UInt8) : Prop :=
 (l = [] ∧ ∃ a c, v = .slice a 0 c) ∨ (l ≠ [] ∧ ∃ D o c, v = .slice (some ⟨D, o, none⟩) l.length c ∧ l.length ≤ c ∧ l.length ≤ 140737488355328 ∧ A D ∧ ∀ j b, l[j]? = some b → w.cell? ⟨D, o + j, none⟩ = some (.int .u8 (b.toNat : Int)))
theorem BytesAt.lt {A : Nat → Prop} {w : World} {D o : Nat} {l : List UInt8} (hne : l ≠ []) (h : ∀ j b, l[j]? = some b → w.cell? ⟨D, o + j, none⟩ = some (.int .u8 (b.toNat : Int))) : D < w.heap.size := by
 cases l with
 | nil => exact absurd rfl hne
 | cons x r => exact lt_of_cell (h 0 x rfl)
theorem BytesAt.keep {A M : Nat → Prop} {w w' : World} {v : Value} {l : List UInt8} (h : BytesAt A w v l) (k : Keep M w w') (hM : ∀ i, A i → ¬ M i) : BytesAt A w' v l := by
 rcases h with h | ⟨hne, D, o, c, rfl, h1, h2, h3, h4⟩
 ·exact .inl h
 ·have hlt := BytesAt.lt (A := A) hne h4
  exact .inr ⟨hne, D, o, c, rfl, h1, h2, h3, fun j b hj => (k.cell (p := ⟨D, o + j, none⟩) hlt (hM _ h3)).trans (h4 j b hj)⟩
theorem BytesAt.weak {A A' : Nat → Prop} {w : World} {v : Value} {l : List UInt8} (h : BytesAt A w v l) (hA : ∀ i, i < w.heap.size → A i → A' i) : BytesAt A' w v l := by
 rcases h with h | ⟨hne, D, o, c, rfl, h1, h2, h3, h4⟩
 ·exact .inl h
 ·exact .inr ⟨hne, D, o, c, rfl, h1, h2, hA _ (BytesAt.lt (A := A) hne h4) h3, h4⟩
theorem take_ne {l : List UInt8} {n : Nat} (h : l ≠ []) (hn : 0 < n) : l.take n ≠ [] := by
 cases l with
 | nil => exact absurd rfl h
 | cons x r => cases n with
  | zero => omega
  | succ n => simp
abbrev nilB : Value := .slice none 0 0
structure TubeP (TB DT : Nat) (rem : List UInt8) (w : World) : Prop where
 blk : ∃ v m, w.heap[TB]? = some (.cells #[.int .i64 0, nilB, nilB, .int .i64 0, v, nilB, .int .i64 4096, .int .i64 0, nilB, .bool false, .int .i64 m, nilB, nilB, .int .i64 4096, .bool false, .bool false, .bool false, .bool false] 229 (0, 0)) ∧ BytesAt (fun i => i = DT ∧ i ≠ TB) w v rem
 len : rem.length ≤ 140737488355328
theorem TubeP.keep {TB DT : Nat} {rem : List UInt8} {w w' : World} {M : Nat → Prop} (h : TubeP TB DT rem w) (k : Keep M w w') (hT : ¬ M TB) (hM : rem ≠ [] → ¬ M DT) : TubeP TB DT rem w' := by
 obtain ⟨⟨v, m, h1, h2⟩, hl⟩ := h
 refine ⟨⟨v, m, (k.block TB (lt_of_heap h1) hT).trans h1, ?_⟩, hl⟩
 rcases h2 with h2 | ⟨hne, D, o, c, rfl, e1, e2, e3, e4⟩
 ·exact .inl h2
 ·have hlt := BytesAt.lt (A := fun _ => True) hne e4
  exact .inr ⟨hne, D, o, c, rfl, e1, e2, e3, fun j b hj => (k.cell (p := ⟨D, o + j, none⟩) hlt (by rw [e3.1]; exact hM hne)).trans (e4 j b hj)⟩
theorem TubeP.fresh {TB DT : Nat} {rem : List UInt8} {w w' : World} (h : TubeP TB DT rem w) (k : Keep (fun _ => False) w w') : TubeP TB DT rem w' := h.keep k id (fun _ => id)
theorem tube_read_end {TB DT : Nat} {w : World} (h : TubeP TB DT [] w) (n : Nat) (hn : 0 < n) :
  Calls Tryz.prog 165 #[.pointer (some ⟨TB, 0, none⟩), .int .i64 n] w fun e w' => e = .returned (.tuple #[nilB, .int .i64 1]) ∧ w = w' := by
 obtain ⟨v, m, h1, h2⟩ := h.blk
 rcases h2 with ⟨_, a, c, rfl⟩ | ⟨hh, _⟩
 ·have c0 := cellAt h1 0
  have c4 := cellAt h1 4
  have c16 := cellAt h1 16
  simp at c0 c4 c16
  have hn0 : ¬ (n : Int) = 0 := by omega
  go_enter Tryz.func165, Tryz.ntmps165
  go_wp2_with fail
  go_ret2
  exact ⟨rfl, rfl⟩
 ·exact absurd rfl hh
theorem tube_read {TB DT : Nat} {rem : List UInt8} {w : World} (h : TubeP TB DT rem w) (n : Nat) (hn : 0 < n) (hr : rem ≠ []) (hnb : n ≤ 9223372036854775807) :
  Calls Tryz.prog 165 #[.pointer (some ⟨TB, 0, none⟩), .int .i64 n] w fun e w' => ∃ v, e = .returned (.tuple #[v, .int .i64 0]) ∧ BytesAt (· ≠ TB) w' v (rem.take n) ∧ TubeP TB DT (rem.drop n) w' ∧ Keep (TB = ·) w w' := by
 obtain ⟨v, mm, h1, h2⟩ := h.blk
 rcases h2 with ⟨hh, _⟩ | ⟨hne, D, o, c, rfl, hlc, hc, ⟨rfl, hD⟩, hcell⟩
 ·exact absurd hh hr
 ·have c0 := cellAt h1 0
  have c4 := cellAt h1 4
  have c16 := cellAt h1 16
  have f4 := freeAt h1 4
  simp at c0 c4 c16
  obtain ⟨L, hL⟩ : ∃ L, rem.length = L := ⟨_, rfl⟩
  have hL0 : ¬ L = 0 := by have := List.length_pos_iff.2 hr; omega
  rw [hL] at c4 hlc hc
  have hLb : L ≤ 140737488355328 := hc
  have hlen := h.len
  have HL := hdd hL
  have HC := hdd hc
  clear hL
  by_cases hnL : n < L
  ·have hmin : min (n : Int) (L : Int) = n := by omega
   have hcn : ¬ c = n := by omega
   go_enter Tryz.func165, Tryz.ntmps165
   go_wp2_with fail
   go_ret2
   have hL := HL.out
   refine ⟨_, rfl, ?_, ⟨⟨_, _, by simpa using heap_set_same (i := 4) h1 _, ?_⟩, by simp; omega⟩, (Keep.refl _ w).set TB 4 (fun _ => rfl) _⟩
   ·refine .inr ⟨take_ne hr hn, D, o, c, by show Value.slice (some ⟨D, o, none⟩) n c = _; rw [List.length_take, hL, Nat.min_eq_left (by omega)], by simp; omega, by simp; have := HC.out; omega, hD, fun j b hj => ?_⟩
    have hj2 : j < n := by have := (List.getElem?_eq_some_iff.1 hj).1; simp at this; omega
    rw [List.getElem?_take_of_lt hj2] at hj
    rw [World.cell?_of_block (w := w) (heap_set_other _ (Ne.symm hD.symm))]
    exact hcell j b hj
   ·have hd : rem.drop n ≠ [] := by intro e; have := congrArg List.length e; simp at this; omega
    refine .inr ⟨hd, D, o + n, c - n, by rw [List.length_drop, hL], by simp; omega, by simp; have := HC.out; omega, ⟨rfl, hD⟩, fun j b hj => ?_⟩
    rw [List.getElem?_drop] at hj
    rw [World.cell?_of_block (w := w) (heap_set_other _ (Ne.symm hD.symm)), show o + n + j = o + (n + j) by omega]
    exact hcell _ b hj
  ·have hd : rem.drop n = [] := List.drop_eq_nil_of_le (by have := HL.out; omega)
   have ht : rem.take n = rem := List.take_of_length_le (by have := HL.out; omega)
   rw [hd, ht]
   clear hd ht
   by_cases hnE : n = L
   ·subst hnE
    by_cases hcm : c = n
    ·subst hcm
     go_enter Tryz.func165, Tryz.ntmps165
     go_wp2_with fail
     go_ret2
     have hL := HL.out
     refine ⟨_, rfl, ?_, ⟨⟨_, _, by simpa using heap_set_same (i := 4) h1 _, .inl ⟨rfl, _, _, rfl⟩⟩, by simp⟩, (Keep.refl _ w).set TB 4 (fun _ => rfl) _⟩
     refine .inr ⟨hr, D, o, c, by rw [hL]; rfl, by omega, by have := HC.out; omega, hD, fun j b hj => ?_⟩
     rw [World.cell?_of_block (w := w) (heap_set_other _ (Ne.symm hD.symm))]
     exact hcell j b hj
    ·go_enter Tryz.func165, Tryz.ntmps165
     go_wp2_with fail
     go_ret2
     have hL := HL.out
     refine ⟨_, rfl, ?_, ⟨⟨_, _, by simpa using heap_set_same (i := 4) h1 _, .inl ⟨rfl, _, _, rfl⟩⟩, by simp⟩, (Keep.refl _ w).set TB 4 (fun _ => rfl) _⟩
     refine .inr ⟨hr, D, o, c, by rw [hL]; rfl, by omega, by have := HC.out; omega, hD, fun j b hj => ?_⟩
     rw [World.cell?_of_block (w := w) (heap_set_other _ (Ne.symm hD.symm))]
     exact hcell j b hj
   ·have hLn : L < n := by omega
    clear hnL hnE
    by_cases hcm : c = L
    ·subst hcm
     go_enter Tryz.func165, Tryz.ntmps165
     go_wp2_with fail
     go_ret2
     have hL := HL.out
     refine ⟨_, rfl, ?_, ⟨⟨_, _, by simpa using heap_set_same (i := 4) h1 _, .inl ⟨rfl, _, _, rfl⟩⟩, by simp⟩, (Keep.refl _ w).set TB 4 (fun _ => rfl) _⟩
     refine .inr ⟨hr, D, o, c, by rw [hL]; rfl, by omega, by have := HC.out; omega, hD, fun j b hj => ?_⟩
     rw [World.cell?_of_block (w := w) (heap_set_other _ (Ne.symm hD.symm))]
     exact hcell j b hj
    ·go_enter Tryz.func165, Tryz.ntmps165
     go_wp2_with fail
     go_ret2
     have hL := HL.out
     refine ⟨_, rfl, ?_, ⟨⟨_, _, by simpa using heap_set_same (i := 4) h1 _, .inl ⟨rfl, _, _, rfl⟩⟩, by simp⟩, (Keep.refl _ w).set TB 4 (fun _ => rfl) _⟩
     refine .inr ⟨hr, D, o, c, by rw [hL]; rfl, by omega, by have := HC.out; omega, hD, fun j b hj => ?_⟩
     rw [World.cell?_of_block (w := w) (heap_set_other _ (Ne.symm hD.symm))]
     exact hcell j b hj
theorem BytesAt.row {w : World} {B n : Nat} {v : Value} {l : List UInt8} (h : w.ownsRow B 5 1 v n (bcells l)) (hl : l.length = n) (hb : n ≤ 140737488355328) : BytesAt (B ≤ ·) w v l := by
 rcases h.2 with ⟨rfl, h0⟩ | ⟨g, cap, cur, rfl, hg, hgg, hnc, _, _, htake⟩
 ·have hl0 : l = [] := by
   have : n = 0 := by first | exact h0 | exact h0.1 | omega
   cases l with
   | nil => rfl
   | cons => simp at hl; omega
  exact .inl ⟨hl0, _, _, rfl⟩
 ·by_cases hl0 : l = []
  ·subst hl0
   simp at hl
   subst hl
   exact .inl ⟨rfl, _, _, rfl⟩
  ·refine .inr ⟨hl0, g, 0, cap, by rw [hl], by omega, by omega, hg, fun j b hj => ?_⟩
   rw [Nat.zero_add, cellAt hgg]
   have hj2 : (bcells l)[j]? = some (.int .u8 (b.toNat : Int)) := by simp [bcells, hj]
   rw [← htake, List.getElem?_take] at hj2
   split at hj2
   ·simpa using hj2
   ·cases hj2
theorem wpList_nilB {w : World} {ops : Array Oper} {rest : List Oper} {o : Oper} {a : Act} {Q : Exit → Act → World → Prop} (hg : o.guard = none) (s x : Operand)
  (hop : o.op = Op.call { callee := Callee.builtin Builtin.append, args := #[s, x], argTypes := #[24, 24] })
  (hs : a.eval s = .slice none 0 0) (ad : Addr) (m c : Nat) (l : List UInt8) (hx : a.eval x = .slice (some ad) m c) (hl : l.length = m) (hm : 0 < m) (hb : m ≤ 140737488355328)
  (hc : ∀ j b, l[j]? = some b → w.cell? (ad.add j) = some (.int .u8 (b.toNat : Int)))
  (hK : ∀ v' w', BytesAt (w.heap.size ≤ ·) w' v' l → Keep (fun _ => False) w w' → wpList Tryz.prog ops Q rest (a.put o.dst v') w') : wpList Tryz.prog ops Q (o :: rest) a w := by
 have h0 := u8info
 obtain ⟨i, hi, h1⟩ := Option.map_eq_some_iff.1 h0
 simp only [Prod.mk.injEq] at h1
 obtain ⟨hz, hsz, hby⟩ := h1
 refine wpList_append_grows w hg s x 24 hop 5 i (.int .u8 0) 1 1 Tryz.underlying24 hi hz hsz hby rfl (by omega) none 0 0 [] hs (fun _ => ⟨rfl, rfl⟩) rfl (fun _ h => by cases h)
  ad m c (bcells l) hx (by simp; omega) (fun j u hj => ?_) (fun u hu => ?_) (by omega) (by simp only [maxLen]; omega) (by omega) (fun v' w' r1 r2 => hK v' w' (.row (by simpa using r1) hl hb) ((Keep.refl _ w).grown r2 (fun k hk => by cases hk)))
 ·simp [bcells] at hj
  obtain ⟨b, hb1, rfl⟩ := hj
  exact hc j b hb1
 ·obtain ⟨b, _, rfl⟩ := List.mem_map.1 hu
  rfl
end Go.Proofs.YtjekbomlpcdojaaGreatDoor
