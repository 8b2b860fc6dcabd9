/- Part 3 of the proof: Buf2. -/
import Derived.Test.YtjekbomlpcdojaaGreatDoorH2
import Derived.Deep.RegionLaw
import Derived.Laws.CopyOwn
set_option linter.unusedVariables false
set_option linter.unusedSimpArgs false
set_option linter.unusedSectionVars false
set_option maxHeartbeats 16000000
namespace Go.Proofs.YtjekbomlpcdojaaGreatDoor
open Go Go.RowKit
theorem step_copy_row {P : Program} {ops : Array Oper} {o : Oper} {a : Act} {w : World} {K : Act → World → Prop} {Q : Exit → Act → World → Prop} {E : Prop} (hgd : o.guard = none) (d s : Operand) (dT sT : TypeId)
  (ho : o.op = .call { callee := .builtin .copy, args := #[d, s], argTypes := #[dT, sT] }) (elem : TypeId) (hu : P.underlying dT = some (.slice elem)) (hsz : (P.info? elem).map (·.size) = some 1)
  (g off dLen dCap : Nat) (ad : Addr) (sLen sCap : Nat) (hd : a.eval d = .slice (some ⟨g, off, none⟩) dLen dCap) (hs : a.eval s = .slice (some ad) sLen sCap)
  (cur : List Value) (t : TypeId) (hg : w.heap[g]? = some (.cells cur.toArray t (0, 0))) (cs : List Value) (hn : cs.length = Nat.min sLen dLen)
  (hsrc : ∀ j v, cs[j]? = some v → w.cell? (ad.add j) = some v) (hfit : off + cs.length ≤ cur.length) (h1 : ∀ v ∈ cs, v.oneCell' = true)
  (h : ∀ w', Hid (Eqv (w.setRow g (splice cur off cs).toArray) w') → K (a.put o.dst (goInt cs.length)) w') :
  if Region.wanted o (yielded ops a.tmps) = true then Oper.wp P o a w K Q else E := by
 have hw : Region.wanted o (yielded ops a.tmps) = true := by simp [Region.wanted, hgd]
 rw [if_pos hw]
 have hrun := run_copy_row (P := P) w dT sT o.type elem g off dLen dCap ad sLen sCap cur.toArray t cs hu hsz hg hn hsrc (by simpa using hfit) h1
 unfold Oper.wp
 simp [execOp, ho, resolve, invoke, builtin, hd, hs, hrun, Result.andThen]
 exact h _ (Eqv.refl _)
theorem wpList_copy_row {P : Program} {w : World} {ops : Array Oper} {rest : List Oper} {o : Oper} {a : Act} {Q : Exit → Act → World → Prop} (hgd : o.guard = none) (d s : Operand) (dT sT : TypeId)
  (ho : o.op = .call { callee := .builtin .copy, args := #[d, s], argTypes := #[dT, sT] }) (elem : TypeId) (hu : P.underlying dT = some (.slice elem)) (hsz : (P.info? elem).map (·.size) = some 1)
  (g off dLen dCap : Nat) (ad : Addr) (sLen sCap : Nat) (hd : a.eval d = .slice (some ⟨g, off, none⟩) dLen dCap) (hs : a.eval s = .slice (some ad) sLen sCap)
  (cur : List Value) (t : TypeId) (hg : w.heap[g]? = some (.cells cur.toArray t (0, 0))) (cs : List Value) (hn : cs.length = Nat.min sLen dLen)
  (hsrc : ∀ j v, cs[j]? = some v → w.cell? (ad.add j) = some v) (hfit : off + cs.length ≤ cur.length) (h1 : ∀ v ∈ cs, v.oneCell' = true)
  (h : ∀ w', Hid (Eqv (w.setRow g (splice cur off cs).toArray) w') → wpList P ops Q rest (a.put o.dst (goInt cs.length)) w') : wpList P ops Q (o :: rest) a w :=
 wpList_copy_own hgd d s dT sT ho elem hu hsz g off dLen dCap ad sLen sCap hd hs cur.toArray t hg cs hn hsrc (by simpa using hfit) h1 (h _ (hdd (by simpa [splice] using Eqv.refl _)))
theorem blk_other {w w2 : World} {X B : Nat} {cs : Array Value} (h : Eqv (w.setRow X cs) w2) (hne : B ≠ X) : w2.heap[B]? = w.heap[B]? := by
 rw [h.1, setRow_other _ _ _ _ hne]
abbrev bcells (l : List UInt8) : List Value := l.map fun b => Value.int .u8 (b.toNat : Int)
theorem buf_read_raw (B D o X xo n c : Nat) (L C off : Nat) (lr : Int) (cs : List Value) (cur : List Value) (T : TypeId) (m : Nat) (w : World)
  (hB : w.heap[B]? = some (.cells #[.slice (some ⟨D, o, none⟩) L C, .int .i64 off, .int .i8 lr] 208 (0, 0)))
  (hlt : off < L) (hC : L ≤ C) (hm : L ≤ 140737488355328) (hX : w.heap[X]? = some (.cells cur.toArray T (0, 0))) (hXB : X ≠ B) (hDB : D ≠ B) (hcs : cs.length = m) (hmn : m = Nat.min (L - off) n) (h0 : 0 < m)
  (hfit : xo + m ≤ cur.length) (h1 : ∀ v ∈ cs, v.oneCell' = true) (hsrc : ∀ j v, cs[j]? = some v → w.cell? ⟨D, o + (off + j), none⟩ = some v) :
  Calls Tryz.prog 201 #[.pointer (some ⟨B, 0, none⟩), .slice (some ⟨X, xo, none⟩) n c] w fun e w' => e = .returned (.tuple #[.int .i64 m, .nilIface]) ∧
   Eqv ((((w.setCell ⟨B, 2, none⟩ (.int .i8 0)).setRow X (splice cur xo cs).toArray).setCell ⟨B, 1, none⟩ (.int .i64 (off + m))).setCell ⟨B, 2, none⟩ (.int .i8 (-1))) w' := by
 have f2 := freeAt hB 2
 have c2 := cellAt hB 2
 simp at c2
 have hnl : decide (L ≤ off) = false := by simp; omega
 have hB1 : (w.setCell ⟨B, 2, none⟩ (.int .i8 0)).heap[B]? = some (.cells #[.slice (some ⟨D, o, none⟩) L C, .int .i64 off, .int .i8 0] 208 (0, 0)) := by
  simpa using heap_set_same (i := 2) hB (.int .i8 0)
 go_enter Tryz.func201, Tryz.ntmps201
 go_wp2_with fail
 refine (buf_empty B _ L C off 0 _ hB1).mono ?_
 rintro e w1 ⟨rfl, he1⟩
 rw [hnl]
 have hX1 : w1.heap[X]? = some (.cells cur.toArray T (0, 0)) := by
  obtain ⟨n, rfl⟩ := he1
  exact (heap_set_other (p := ⟨B, 2, none⟩) _ hXB).trans hX
 have hB2 : w1.heap[B]? = some (.cells #[.slice (some ⟨D, o, none⟩) L C, .int .i64 off, .int .i8 0] 208 (0, 0)) := by
  obtain ⟨n, rfl⟩ := he1
  exact hB1
 have he2 : Eqv (w.setCell ⟨B, 2, none⟩ (.int .i8 0)) w1 := by
  obtain ⟨n, rfl⟩ := he1
  exact ⟨rfl, rfl, rfl, rfl⟩
 have He := hdd he2
 have HX := hdd hX1
 have c0 := cellAt hB2 0
 have c1 := cellAt hB2 1
 have c2 := cellAt hB2 2
 have f1 := freeAt hB2 1
 have f2 := freeAt hB2 2
 simp at c0 c1 c2
 have hle : off ≤ L := by omega
 have hne : ¬ C = off := by omega
 have HS : Hid (∀ j v, cs[j]? = some v → w1.cell? ((⟨D, o + off, none⟩ : Addr).add j) = some v) := fun j v hj => by
  rw [Addr.add_lit, he2.cell, Nat.add_assoc, World.cell?_of_block (w := w) (heap_set_other (p := ⟨B, 2, none⟩) _ hDB)]
  exact hsrc j v hj
 have HN := hdd (hcs.trans hmn)
 have HF := hdd (show xo + cs.length ≤ cur.length by omega)
 have Hm := hdd hcs
 have Hh1 := hdd h1
 clear he1 he2 hX1 hB1 hcs hmn hsrc h1
 go_wp2_with fail
 have HB2 := hdd hB2
 clear hB2
 have hm1 : m ≤ L - off := by have := HN.out; rw [Hm.out] at this; have := Nat.min_le_left (L - off) n; simp only [Nat.min_def] at *; omega
 go_region_law (refine step_copy_row rfl (.tmp 17) (.tmp 26) 24 24 rfl 5 Tryz.underlying24 (by kernel_rfl) X xo n c ⟨D, o + off, none⟩ (L - off) (C - off) rfl rfl cur T HX.out cs HN.out HS.out HF.out Hh1.out ?_; intro w2 Hw; rw [Hm.out]; clear c0 c1 c2 f1 f2; have hB3 := (blk_other Hw.out hXB.symm).trans HB2.out; have c0 := cellAt hB3 0; have c1 := cellAt hB3 1; have c2 := cellAt hB3 2; have f1 := freeAt hB3 1; have f2 := freeAt hB3 2; simp at c0 c1 c2)
 all_goals
  go_wp2_with fail
  go_ret2
  exact ⟨rfl, ((((He.out.setr _ _).trans Hw.out).setc _ _).setc _ _)⟩
theorem buf_read {w : World} {B D X xo n c : Nat} {rem : List UInt8} {cur : List Value} {T : TypeId} (h : Buf w B D rem) (hr : rem ≠ []) (hn : 0 < n)
  (hX : w.heap[X]? = some (.cells cur.toArray T (0, 0))) (hXB : X ≠ B) (hXD : X ≠ D) (hfit : xo + n ≤ cur.length) :
  Calls Tryz.prog 201 #[.pointer (some ⟨B, 0, none⟩), .slice (some ⟨X, xo, none⟩) n c] w fun e w' => e = .returned (.tuple #[.int .i64 (min rem.length n : Nat), .nilIface]) ∧
   Buf w' B D (rem.drop n) ∧ w'.heap[X]? = some (.cells (splice cur xo (bcells (rem.take n))).toArray T (0, 0)) ∧ Keep (fun b => B = b ∨ X = b) w w' := by
 obtain ⟨a, L, C, off, lr, h1, h2, h3, h4, h5, h6⟩ := h
 obtain ⟨o, rfl, hDB, hj⟩ := h6 hr
 have hrl : 0 < rem.length := List.length_pos_iff.2 hr
 have hlen : (bcells (rem.take n)).length = min rem.length n := by simp [Nat.min_comm]
 refine (buf_read_raw B D o X xo n c L C off lr (bcells (rem.take n)) cur T (min rem.length n) w h1 (by omega) h3 h4 hX hXB hDB hlen ?_ (by omega) (by omega) ?_ ?_).mono ?_
 ·have : L - off = rem.length := by omega
  rw [this]
 ·intro v hv
  obtain ⟨x, _, rfl⟩ := List.mem_map.1 hv
  rfl
 ·intro j v hv
  rw [List.getElem?_map] at hv
  obtain ⟨x, hx, rfl⟩ := Option.map_eq_some_iff.1 hv
  rw [List.getElem?_take] at hx
  split at hx
  ·obtain ⟨hlt, rfl⟩ := List.getElem?_eq_some_iff.1 hx
   exact hj j hlt
  ·cases hx
 ·rintro e w' ⟨rfl, he⟩
  have hfull : w'.heap[B]? = some (.cells #[.slice (some ⟨D, o, none⟩) L C, .int .i64 ((off + min rem.length n : Nat) : Int), .int .i8 (-1)] 208 (0, 0)) := by
   rw [he.1]
   have e0 : ((w.setCell ⟨B, 2, none⟩ (.int .i8 0)).setRow X (splice cur xo (bcells (rem.take n))).toArray).heap[B]? = some (.cells (#[.slice (some ⟨D, o, none⟩) L C, .int .i64 off, .int .i8 lr].setIfInBounds 2 (.int .i8 0)) 208 (0, 0)) := by
    rw [setRow_other _ _ _ _ hXB.symm]; exact heap_set_same h1 _
   have := heap_set_same (i := 2) (heap_set_same (i := 1) e0 (.int .i64 (off + (min rem.length n : Nat)))) (.int .i8 (-1))
   simpa using this
  refine ⟨rfl, ⟨_, L, C, off + min rem.length n, -1, hfull, by simp; omega, h3, h4, by simp, fun _ => ⟨o, rfl, hDB, fun j hlt => ?_⟩⟩, ?_, ?_⟩
  ·simp at hlt
   have := hj (n + j) (by omega)
   rw [he.cell, World.cell?_of_block (w := w), show o + (off + min rem.length n + j) = o + (off + (n + j)) by omega]
   ·simpa using this
   ·rw [heap_set_other _ (by exact hDB), heap_set_other _ (by exact hDB), setRow_other _ _ _ _ hXD.symm, heap_set_other _ (by exact hDB)]
  ·rw [he.1, heap_set_other _ (by exact hXB), heap_set_other _ (by exact hXB)]
   exact setRow_heap _ _ _ _ _ _ ((heap_set_other (p := ⟨B, 2, none⟩) _ hXB).trans hX)
  ·exact (((((Keep.refl _ w).set B 2 (fun _ => .inl rfl) _).setRow X (fun _ => .inr rfl) _).set B 1 (fun _ => .inl rfl) _).set B 2 (fun _ => .inl rfl) _).eqv he
theorem buf_read_end {E : Env} {w : World} {B D n c : Nat} {a : Option Addr} (hg : Glob E w) (hE : E.base ≤ B) (h : Buf w B D []) (hn : 0 < n) :
  Calls Tryz.prog 201 #[.pointer (some ⟨B, 0, none⟩), .slice a n c] w fun e w' => e = .returned (.tuple #[.int .i64 0, eofV E]) ∧ Buf w' B D [] ∧ Keep (B = ·) w w' := by
 have h1 : Buf (w.setCell ⟨B, 2, none⟩ (.int .i8 0)) B D [] ∧ w.cell? ⟨B, 2, none⟩ ≠ none ∧ w.frozen? ⟨B, 2, none⟩ = false := by
  obtain ⟨a, L, C, off, lr, h1, h2, h3, h4, h5, h6⟩ := h
  exact ⟨⟨a, L, C, off, 0, by simpa using heap_set_same (i := 2) h1 (.int .i8 0), h2, h3, h4, h5, by simp⟩, by simp [cellAt h1 2], freeAt h1 2⟩
 obtain ⟨hb1, hc, hf⟩ := h1
 obtain ⟨v, hv⟩ := Option.ne_none_iff_exists'.1 hc
 have hk1 : Keep (B = ·) w (w.setCell ⟨B, 2, none⟩ (.int .i8 0)) := (Keep.refl _ w).set B 2 (fun _ => rfl) _
 clear hc
 have hn0 : ((n : Int) == 0) = false := by simp; omega
 go_enter Tryz.func201, Tryz.ntmps201
 go_wp2_with fail
 refine (buf_empty' hb1).mono ?_
 rintro e w1 ⟨rfl, he1⟩
 go_wp2_with fail
 refine (buf_reset' (hb1.eqv he1)).mono ?_
 rintro e w2 ⟨rfl, hb2, hk2⟩
 have hk := (hk1.eqv he1).then hk2
 have ge := (hg.keep hk (fun i hi => by omega)).eof
 go_wp2_with fail
 go_quiet (fail)
 go_wp2_with fail
 go_ret2
 exact ⟨rfl, hb2, hk.eqv ⟨rfl, rfl, rfl, rfl⟩⟩
end Go.Proofs.YtjekbomlpcdojaaGreatDoor
