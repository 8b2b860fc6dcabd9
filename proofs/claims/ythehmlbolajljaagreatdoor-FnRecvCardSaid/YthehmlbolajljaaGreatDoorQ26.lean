/- Part 26 of the proof: FltS. -/
import Derived.Test.YthehmlbolajljaaGreatDoorQ20
import Derived.Test.YthehmlbolajljaaGreatDoorQ22
import Derived.Test.YthehmlbolajljaaGreatDoorQ21
set_option linter.unusedVariables false
set_option linter.unusedSimpArgs false
set_option linter.unusedSectionVars false
set_option maxHeartbeats 16000000
namespace Go.Proofs.YthehmlbolajljaaGreatDoor
open Go Go.RowKit
def faultTxt (q : Int) : List UInt8 :=
 if q = 0 then [117, 110, 107, 110, 111, 119, 110, 32, 97, 112, 112, 108, 105, 99, 97, 116, 105, 111, 110, 32, 101, 120, 99, 101, 112, 116, 105, 111, 110] else if q = 1 then [117, 110, 107, 110, 111, 119, 110, 32, 109, 101, 116, 104, 111, 100] else if q = 2 then [105, 110, 118, 97, 108, 105, 100, 32, 109, 101, 115, 115, 97, 103, 101, 32, 116, 121, 112, 101] else if q = 3 then [119, 114, 111, 110, 103, 32, 109, 101, 116, 104, 111, 100, 32, 110, 97, 109, 101] else if q = 4 then [98, 97, 100, 32, 115, 101, 113, 117, 101, 110, 99, 101, 32, 73, 68] else if q = 5 then [109, 105, 115, 115, 105, 110, 103, 32, 114, 101, 115, 117, 108, 116] else if q = 6 then [117, 110, 107, 110, 111, 119, 110, 32, 105, 110, 116, 101, 114, 110, 97, 108, 32, 101, 114, 114, 111, 114] else if q = 7 then [117, 110, 107, 110, 111, 119, 110, 32, 112, 114, 111, 116, 111, 99, 111, 108, 32, 101, 114, 114, 111, 114] else if q = 8 then [73, 110, 118, 97, 108, 105, 100, 32, 116, 114, 97, 110, 115, 102, 111, 114, 109] else if q = 9 then [73, 110, 118, 97, 108, 105, 100, 32, 112, 114, 111, 116, 111, 99, 111, 108] else if q = 10 then [85, 110, 115, 117, 112, 112, 111, 114, 116, 101, 100, 32, 99, 108, 105, 101, 110, 116, 32, 116, 121, 112, 101] else if q = 11 then [118, 97, 108, 105, 100, 97, 116, 105, 111, 110, 32, 102, 97, 105, 108, 101, 100] else []
def fltTxt (a : List UInt8 × Int) : List UInt8 := if a.1 = [] then faultTxt a.2 else a.1
theorem fault_cases (q : Int) : q < 0 ∨ 11 < q ∨ q = 0 ∨ q = 1 ∨ q = 2 ∨ q = 3 ∨ q = 4 ∨ q = 5 ∨ q = 6 ∨ q = 7 ∨ q = 8 ∨ q = 9 ∨ q = 10 ∨ q = 11 := by omega
theorem faultTxt_out (q : Int) (h : q < 0 ∨ 11 < q) : faultTxt q = [] := by
 unfold faultTxt
 repeat (rw [if_neg (by omega)])
set_option maxRecDepth 100000 in
theorem spec_fault (q : Int) (w : World) :
  Calls Tryz.prog 117 #[.int .i32 q] w fun e w' => ∃ va vm vc, e = .returned (.slice va vm vc) ∧ BytesAt (w.heap.size ≤ ·) w' (.slice va vm vc) (faultTxt q) ∧ Keep (fun _ => False) w w' := by
 rcases fault_cases q with h | h | h
 ·rw [faultTxt_out q (.inl h)]
  go_enter Tryz.func117, Tryz.ntmps117
  go_wp2_with fail
  go_ret
  exact ⟨_, _, _, rfl, .inl ⟨rfl, _, _, rfl⟩, (Keep.refl _ w).alloc _⟩
 ·rw [faultTxt_out q (.inr h)]
  have h0 : ¬ q < 0 := by omega
  go_enter Tryz.func117, Tryz.ntmps117
  go_wp2_with fail
  go_ret
  exact ⟨_, _, _, rfl, .inl ⟨rfl, _, _, rfl⟩, (Keep.refl _ w).alloc _⟩
 ·rcases h with rfl | rfl | rfl | rfl | rfl | rfl | rfl | rfl | rfl | rfl | rfl | rfl
  all_goals
   go_enter Tryz.func117, Tryz.ntmps117
   go_wp2_with (refine wpList_bytes rfl (.tmp 14) rfl _ rfl ?_)
   intro va vm vc w2 hb hk
   go_wp2_with fail
   go_ret
   exact ⟨_, _, _, rfl, BytesAt.weak (A' := fun i => w.heap.size ≤ i) hb (fun i _ hi => by have hi2 : w.heap.size + 1 ≤ i := hi; omega), ((Keep.refl _ w).alloc _).then hk⟩
theorem spec_faultText {A : Nat → Prop} (q : Int) (tv : Value) (l : List UInt8) (w : World) (h : BytesAt A w tv l) :
  Calls Tryz.prog 96 #[.int .i32 q, tv] w fun e w' => ∃ va vm vc, e = .returned (.slice va vm vc) ∧ BytesAt (fun i => A i ∨ w.heap.size ≤ i) w' (.slice va vm vc) (fltTxt (l, q)) ∧ Keep (fun _ => False) w w' := by
 obtain ⟨a, c, rfl, hl, _, _⟩ := h.cellAt'
 by_cases h0 : l = []
 ·subst h0
  have e : fltTxt ([], q) = faultTxt q := rfl
  rw [e]
  simp only [List.length_nil]
  go_enter Tryz.func96, Tryz.ntmps96
  go_wp2_with fail
  refine (spec_fault q w).mono ?_
  rintro e w1 ⟨va, vm, vc, rfl, hb, hk⟩
  go_wp2_with fail
  go_ret
  exact ⟨_, _, _, rfl, hb.weak (fun _ _ => .inr), hk⟩
 ·have e : fltTxt (l, q) = l := by unfold fltTxt; rw [if_neg h0]
  rw [e]
  obtain ⟨L, hL⟩ : ∃ L, l.length = L := ⟨_, rfl⟩
  have hL0 : ¬ L = 0 := by intro e; rw [e] at hL; exact h0 (List.eq_nil_of_length_eq_zero hL)
  rw [hL] at h hl ⊢
  have hLi : ¬ (L : Int) = 0 := by omega
  go_enter Tryz.func96, Tryz.ntmps96
  go_wp2_with fail
  go_ret
  exact ⟨_, _, _, rfl, h.weak (fun _ _ => .inl), Keep.refl _ _⟩
theorem spec_own (x : Int) (w : World) :
  Calls Tryz.prog 94 #[.int .i64 x] w fun e w' => e = .returned (.bool (x == 50 || x == 51 || x == 52)) ∧ w = w' := by
 by_cases h0 : x = 50
 ·subst h0
  go_enter Tryz.func94, Tryz.ntmps94
  go_wp2_with fail
  go_ret
  exact ⟨by rfl, rfl⟩
 ·have b0 : (x == 50) = false := by simpa using h0
  by_cases h1 : x = 51
  ·subst h1
   go_enter Tryz.func94, Tryz.ntmps94
   go_wp2_with fail
   go_ret
   exact ⟨by rfl, rfl⟩
  ·have b1 : (x == 51) = false := by simpa using h1
   rw [b0, b1]
   by_cases h2 : x = 52
   ·subst h2
    go_enter Tryz.func94, Tryz.ntmps94
    go_wp2_with fail
    go_ret
    exact ⟨by rfl, rfl⟩
   ·have b2 : (x == 52) = false := by simpa using h2
    rw [b2]
    go_enter Tryz.func94, Tryz.ntmps94
    go_wp2_with fail
    go_ret
    exact ⟨by rfl, rfl⟩
def ofN (ids : List Int) (l : List V) (i : Nat) : List UInt8 × Int := ofF (ids.take i) (l.take i) ([], 0)
theorem ofN_succ {ids : List Int} {l : List V} {i : Nat} {b : Int} {x : V} (hlen : ids.length = l.length) (h1 : ids[i]? = some b) (h2 : l[i]? = some x) : ofN ids l (i + 1) = flF b x (ofN ids l i) := by
 unfold ofN
 rw [List.take_add_one, List.take_add_one, h1, h2]
 exact ofF_snoc _ _ _ _ _ (by simp [hlen])
theorem ofN_all {ids : List Int} {l : List V} (hlen : ids.length = l.length) : ofN ids l l.length = ofF ids l ([], 0) := by
 unfold ofN
 rw [List.take_of_length_le (by omega), List.take_of_length_le (Nat.le_refl _)]
set_option maxRecDepth 100000 in
theorem spec_ofFault {d : Nat} {A : Nat → Prop} (cs : List Value) (ids : List Int) (l : List V) (w : World) (h : ValAt d A w cs (.mk 12 0 [] 0 0 ids l)) (hlen : ids.length = l.length) :
  Calls Tryz.prog 95 #[.agg cs.toArray] w fun e w' => ∃ q ta tm tc, e = .returned (.tuple #[.int .i32 q, .slice ta tm tc]) ∧ q = (ofF ids l ([], 0)).2 ∧ BytesAt A w' (.slice ta tm tc) (ofF ids l ([], 0)).1 ∧ Keep (fun _ => False) w w' := by
 cases d with
 | zero => exact h.elim
 | succ d =>
 obtain ⟨sv, iv, lv, rfl, hs, hi, hl⟩ := h
 obtain ⟨n, hn⟩ : ∃ n, l.length = n := ⟨_, rfl⟩
 obtain ⟨a1, c1, rfl, hn1, hc1, g1⟩ := hi.cellAt'
 obtain ⟨a2, c2, rfl, hn2, g2⟩ := parts_at hl
 rw [hlen, hn] at hn1 hc1
 rw [hlen]
 rw [hn] at hn2 ⊢
 have hk0 : Keep (fun _ => False) w (w.alloc (.cells (valC 12 0 sv 0 0 (.slice a1 n c1) (.slice a2 n c2)) 34 (0, 0))) := (Keep.refl _ w).alloc _
 have hU0 := heap_alloc_new w (.cells (valC 12 0 sv 0 0 (.slice a1 n c1) (.slice a2 n c2)) 34 (0, 0))
 have HN := hdd hn
 have HLEN := hdd hlen
 have G1 : Hid (∀ (j : Nat) (b : Int), ids[j]? = some b → ∃ D o, a1 = some ⟨D, o, none⟩ ∧ (w.alloc (.cells (valC 12 0 sv 0 0 (.slice a1 n c1) (.slice a2 n c2)) 34 (0, 0))).cell? ⟨D, o + j, none⟩ = some (.int .i64 b)) := hdd (fun j b hj => let ⟨D, o, e1, e2⟩ := g1 j b hj; ⟨D, o, e1, (hk0.cell (p := ⟨D, o + j, none⟩) (lt_of_cell e2) id).trans e2⟩)
 have G2 : Hid (∀ (j : Nat) (x : V), l[j]? = some x → ∃ D o cs', a2 = some ⟨D, o, none⟩ ∧ ValAt d A (w.alloc (.cells (valC 12 0 sv 0 0 (.slice a1 n c1) (.slice a2 n c2)) 34 (0, 0))) cs' x ∧ ∀ i v, cs'[i]? = some v → (w.alloc (.cells (valC 12 0 sv 0 0 (.slice a1 n c1) (.slice a2 n c2)) 34 (0, 0))).cell? ⟨D, o + (j * 7 + i), none⟩ = some v) := hdd (fun j x hj => let ⟨D, o, cs', e1, e2, e3⟩ := g2 j x hj; ⟨D, o, cs', e1, e2.keep hk0 (fun _ _ => id), fun i v hv => (hk0.cell (p := ⟨D, o + (j * 7 + i), none⟩) (lt_of_cell (e3 i v hv)) id).trans (e3 i v hv)⟩)
 clear hn hlen g1 g2 hi hl hs
 go_enter Tryz.func95, Tryz.ntmps95
 go_wp2_with fail
 obtain ⟨U, hU⟩ : ∃ U, w.heap.size = U := ⟨_, rfl⟩
 rw [hU] at hU0 ⊢
 generalize w.alloc (.cells (valC 12 0 sv 0 0 (.slice a1 n c1) (.slice a2 n c2)) 34 (0, 0)) = w1 at *
 obtain ⟨x0, x1, x2, x3, x4, x5, x6⟩ := got_cells hU0
 have HK0 := hdd hk0
 clear hU0 hk0 hU
 go_loopg [4, 5, 6] n (fun k v4 v5 v6 wr => ∃ (i : Nat) (q : Int) (ta : Option Addr) (tm tc : Nat), v4 = .int .i32 q ∧ v5 = .slice ta tm tc ∧ v6 = .int .i64 i ∧ i + k = n ∧ w1 = wr ∧ q = (ofN ids l i).2 ∧ BytesAt A w1 (.slice ta tm tc) (ofN ids l i).1)
 case atStart => exact ⟨0, 0, none, 0, 0, rfl, rfl, rfl, by omega, rfl, by simp [ofN, ofF], .inl ⟨by simp [ofN, ofF], none, 0, rfl⟩⟩
 case round =>
  obtain ⟨i, q, ta, tm, tc, rfl, rfl, rfl, hik, rfl, hq, hb⟩ := hrel
  have HQ := hdd hq
  have HB := hdd hb
  clear hq hb
  by_cases hlt : i < n
  ·cases gk with
   | zero => omega
   | succ k =>
   have hj2 : l[i]? = some (l[i]'(by have := HN.out; omega)) := List.getElem?_eq_getElem _
   have hj1 : ids[i]? = some (ids[i]'(by have := HN.out; have := HLEN.out; omega)) := List.getElem?_eq_getElem _
   generalize (l[i]'(by have := HN.out; omega)) = x at *
   generalize (ids[i]'(by have := HN.out; have := HLEN.out; omega)) = b at *
   obtain ⟨D1, o1, rfl, e1⟩ := G1.out i b hj1
   obtain ⟨D2, o2, cs', rfl, hv, e2⟩ := G2.out i x hj2
   have HS : Hid (ofN ids l (i + 1) = flF b x (ofN ids l i)) := hdd (ofN_succ HLEN.out hj1 hj2)
   clear hj1 hj2
   cases d with
   | zero => exact hv.elim
   | succ d =>
   cases x with
   | mk T N S K E I2 L2 =>
   obtain ⟨sv2, iv2, lv2, rfl, hs2, _, _⟩ := hv
   obtain ⟨sa, sm, sc, rfl⟩ := hs2.shape
   have HS2 := hdd hs2
   have d0 : w1.cell? ⟨D2, o2 + i * 7, none⟩ = some (.int .i64 T) := e2 0 _ rfl
   have d1 : w1.cell? ⟨D2, o2 + i * 7 + 1, none⟩ = some (.int .i64 N) := e2 1 _ rfl
   have d2 : w1.cell? ⟨D2, o2 + i * 7 + 2, none⟩ = some (.slice sa sm sc) := e2 2 _ rfl
   have hw : IntKind.i64.wrap ((i : Int) + 1) = (i : Int) + 1 := IntWalk.i64_in _ (by omega)
   have hlt' : (i : Int) < (n : Int) := by omega
   have hnc1 : n ≤ c1 := hc1 (by omega)
   have hnc2 : n ≤ c2 := by omega
   clear e2 hs2
   have hcs : (b = 1 ∧ T = 11) ∨ (b = 1 ∧ ¬ T = 11) ∨ (b = 2 ∧ T = 8) ∨ (b = 2 ∧ ¬ T = 8) ∨ (¬ b = 1 ∧ ¬ b = 2) := by omega
   rcases hcs with ⟨rfl, rfl⟩ | ⟨rfl, hT⟩ | ⟨rfl, rfl⟩ | ⟨rfl, hT⟩ | ⟨hb1, hb2⟩
   ·go_wp2_with fail
    go_roundg k
    case measure => exact Nat.lt_succ_self _
    case rel => exact ⟨i + 1, q, sa, sm, sc, rfl, rfl, by go_num, by omega, rfl, by rw [HS.out]; unfold flF; rw [if_pos ⟨rfl, rfl⟩]; exact HQ.out, by rw [HS.out]; unfold flF; rw [if_pos ⟨rfl, rfl⟩]; exact HS2.out⟩
   ·have hTb : (T == 11) = false := by simpa using hT
    go_wp2_with fail
    go_roundg k
    case measure => exact Nat.lt_succ_self _
    case rel =>
     have hf : flF 1 (.mk T N S K E I2 L2) (ofN ids l i) = ofN ids l i := by unfold flF; rw [if_neg (fun h => hT h.2), if_neg (by rintro ⟨h, _⟩; exact absurd h (by decide))]
     exact ⟨i + 1, q, ta, tm, tc, rfl, rfl, by go_num, by omega, rfl, by rw [HS.out, hf]; exact HQ.out, by rw [HS.out, hf]; exact HB.out⟩
   ·have hf : flF 2 (.mk 8 N S K E I2 L2) (ofN ids l i) = ((ofN ids l i).1, wrap32 N) := by unfold flF; rw [if_neg (by rintro ⟨h, _⟩; exact absurd h (by decide)), if_pos ⟨rfl, rfl⟩]; rfl
    obtain ⟨q2, hq2⟩ : ∃ q2, IntKind.i32.wrap N = q2 := ⟨_, rfl⟩
    have HQ2 : Hid (q2 = wrap32 N) := hdd (by rw [← hq2, IntKind.wrap_i32, wrap32])
    have HF := hdd hf
    clear hf
    go_wp2_with fail
    go_roundg k
    case measure => exact Nat.lt_succ_self _
    case rel => exact ⟨i + 1, q2, ta, tm, tc, by first | rfl | rw [hq2], rfl, by go_num, by omega, rfl, by rw [HS.out, HF.out]; exact HQ2.out, by rw [HS.out, HF.out]; exact HB.out⟩
   ·have hTb : (T == 8) = false := by simpa using hT
    go_wp2_with fail
    go_roundg k
    case measure => exact Nat.lt_succ_self _
    case rel =>
     have hf : flF 2 (.mk T N S K E I2 L2) (ofN ids l i) = ofN ids l i := by unfold flF; rw [if_neg (by rintro ⟨h, _⟩; exact absurd h (by decide)), if_neg (fun h => hT h.2)]
     exact ⟨i + 1, q, ta, tm, tc, rfl, rfl, by go_num, by omega, rfl, by rw [HS.out, hf]; exact HQ.out, by rw [HS.out, hf]; exact HB.out⟩
   ·have hbb1 : (b == 1) = false := by simpa using hb1
    have hbb2 : (b == 2) = false := by simpa using hb2
    go_wp2_with fail
    go_roundg k
    case measure => exact Nat.lt_succ_self _
    case rel =>
     have hf : flF b (.mk T N S K E I2 L2) (ofN ids l i) = ofN ids l i := by unfold flF; rw [if_neg (fun h => hb1 h.1), if_neg (fun h => hb2 h.1)]
     exact ⟨i + 1, q, ta, tm, tc, rfl, rfl, by go_num, by omega, rfl, by rw [HS.out, hf]; exact HQ.out, by rw [HS.out, hf]; exact HB.out⟩
  ·have hge : ¬ (i : Int) < (n : Int) := by omega
   have hin : i = n := by omega
   subst hin
   have hall := ofN_all HLEN.out
   rw [HN.out] at hall
   have HALL := hdd hall
   clear hall
   go_wp2_with fail
   go_ret2
   exact ⟨q, ta, tm, tc, rfl, by rw [← HALL.out]; exact HQ.out, by rw [← HALL.out]; exact HB.out, HK0.out⟩
end Go.Proofs.YthehmlbolajljaaGreatDoor
