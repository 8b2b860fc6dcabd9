/- Part 2 of the proof: Buf1. -/
import Derived.Test.YtjekbomlpcdojaaGreatDoorH1
import Derived.Outline
set_option linter.unusedVariables false
set_option linter.unusedSimpArgs false
set_option linter.unusedSectionVars false
set_option maxHeartbeats 16000000
namespace Go.Proofs.YtjekbomlpcdojaaGreatDoor
open Go Go.RowKit
def Buf (w : World) (B D : Nat) (rem : List UInt8) : Prop :=
 ∃ (a : Option Addr) (L C off : Nat) (lr : Int), w.heap[B]? = some (.cells #[.slice a L C, .int .i64 off, .int .i8 lr] 208 (0, 0)) ∧
  L = off + rem.length ∧ L ≤ C ∧ L ≤ 140737488355328 ∧ (a = none → C = 0) ∧
  (rem ≠ [] → ∃ o, a = some ⟨D, o, none⟩ ∧ D ≠ B ∧ ∀ j (h : j < rem.length), w.cell? ⟨D, o + (off + j), none⟩ = some (.int .u8 (rem[j].toNat : Int)))
theorem buf_empty (B : Nat) (a : Option Addr) (L C off : Nat) (lr : Int) (w : World) (hB : w.heap[B]? = some (.cells #[.slice a L C, .int .i64 off, .int .i8 lr] 208 (0, 0))) :
  Calls Tryz.prog 207 #[.pointer (some ⟨B, 0, none⟩)] w fun e w' => e = .returned (.bool (decide (L ≤ off))) ∧ ∃ n, w.drewN n = w' := by
 have c0 := cellAt hB 0
 have c1 := cellAt hB 1
 simp at c0 c1
 go_enter Tryz.func207, Tryz.ntmps207
 go_wp2_with fail
 go_quiet (fail)
 go_wp2
 go_ret
 exact ⟨rfl, _, rfl⟩
def bufWorld (B : Nat) (w : World) (v : Value) (off : Int) (lr : Int) : World := ((w.setCell ⟨B, 0, none⟩ v).setCell ⟨B, 1, none⟩ (.int .i64 off)).setCell ⟨B, 2, none⟩ (.int .i8 lr)
theorem buf_reset (B : Nat) (a : Option Addr) (L C off : Nat) (lr : Int) (w : World) (hB : w.heap[B]? = some (.cells #[.slice a L C, .int .i64 off, .int .i8 lr] 208 (0, 0))) (ha : a = none → C = 0) (hL : L ≤ C) :
  Calls Tryz.prog 72 #[.pointer (some ⟨B, 0, none⟩)] w fun e w' => e = .returned (.tuple #[]) ∧ bufWorld B w (.slice a 0 C) 0 0 = w' := by
 have c0 := cellAt hB 0
 have c1 := cellAt hB 1
 have c2 := cellAt hB 2
 have f0 := freeAt hB 0
 have f1 := freeAt hB 1
 have f2 := freeAt hB 2
 simp at c0 c1 c2
 unfold bufWorld
 go_enter Tryz.func72, Tryz.ntmps72
 go_wp2_with fail
 go_end0
 exact ⟨rfl, rfl⟩
theorem Buf.lt {w : World} {B D : Nat} {rem : List UInt8} (h : Buf w B D rem) : B < w.heap.size := by
 obtain ⟨a, L, C, off, lr, hB, _⟩ := h
 exact lt_of_heap hB
theorem Buf.keep {w w' : World} {M : Nat → Prop} {B D : Nat} {rem : List UInt8} (h : Buf w B D rem) (k : Keep M w w') (hB : ¬ M B) (hD : ¬ M D) : Buf w' B D rem := by
 obtain ⟨a, L, C, off, lr, h1, h2, h3, h4, h5, h6⟩ := h
 refine ⟨a, L, C, off, lr, (k.block B (lt_of_heap h1) hB).trans h1, h2, h3, h4, h5, fun hr => ?_⟩
 obtain ⟨o, ho, hDB, hj⟩ := h6 hr
 exact ⟨o, ho, hDB, fun j hlt => (k.cell (p := ⟨D, o + (off + j), none⟩) (lt_of_cell (p := ⟨D, o + (off + j), none⟩) (hj j hlt)) hD).trans (hj j hlt)⟩
theorem buf_readByte_raw (B D o : Nat) (L C off : Nat) (lr : Int) (c : UInt8) (w : World) (hB : w.heap[B]? = some (.cells #[.slice (some ⟨D, o, none⟩) L C, .int .i64 off, .int .i8 lr] 208 (0, 0)))
  (hlt : off < L) (hC : L ≤ C) (hm : L ≤ 140737488355328) (hD : D ≠ B) (hc : w.cell? ⟨D, o + off, none⟩ = some (.int .u8 (c.toNat : Int))) :
  Calls Tryz.prog 202 #[.pointer (some ⟨B, 0, none⟩)] w fun e w' => e = .returned (.tuple #[.int .u8 c.toNat, .nilIface]) ∧ Eqv ((w.setCell ⟨B, 1, none⟩ (.int .i64 (off + 1))).setCell ⟨B, 2, none⟩ (.int .i8 (-1))) w' := by
 have c0 := cellAt hB 0
 have c1 := cellAt hB 1
 have c2 := cellAt hB 2
 have f1 := freeAt hB 1
 have f2 := freeAt hB 2
 have hnl : decide (L ≤ off) = false := by simp; omega
 simp at c0 c1 c2
 go_enter Tryz.func202, Tryz.ntmps202
 go_wp2_with (go_at_call 207; refine (buf_empty B _ L C off lr _ hB).mono ?_; rintro e w' ⟨rfl, n, rfl⟩)
 go_quiet (fail)
 go_wp2_with fail
 go_ret2
 exact ⟨rfl, rfl, rfl, rfl, rfl⟩
theorem buf_readByte {w : World} {B D : Nat} {c : UInt8} {rem : List UInt8} (h : Buf w B D (c :: rem)) :
  Calls Tryz.prog 202 #[.pointer (some ⟨B, 0, none⟩)] w fun e w' => e = .returned (.tuple #[.int .u8 c.toNat, .nilIface]) ∧ Buf w' B D rem ∧ Keep (B = ·) w w' := by
 obtain ⟨a, L, C, off, lr, h1, h2, h3, h4, h5, h6⟩ := h
 obtain ⟨o, rfl, hDB, hj⟩ := h6 (by simp)
 have h0 := hj 0 (by simp)
 simp at h0 h2
 refine (buf_readByte_raw B D o L C off lr c w h1 (by omega) h3 h4 hDB h0).mono ?_
 rintro e w' ⟨rfl, he⟩
 refine ⟨rfl, ⟨_, L, C, off + 1, -1, ?_, by omega, h3, h4, by simp, fun _ => ⟨o, rfl, hDB, fun j hlt => ?_⟩⟩, ?_⟩
 ·rw [he.1]
  have := heap_set_same (i := 2) (heap_set_same (i := 1) h1 (.int .i64 (off + 1))) (.int .i8 (-1))
  simpa using this
 ·have := hj (j + 1) (by simpa using hlt)
  rw [he.cell]
  rw [World.cell?_of_block (w := w), show o + (off + 1 + j) = o + (off + (j + 1)) by omega]
  ·simpa using this
  ·rw [heap_set_other _ (by exact hDB), heap_set_other _ (by exact hDB)]
 ·exact (((Keep.refl _ w).set B 1 (fun _ => rfl) _).set B 2 (fun _ => rfl) _).eqv he
theorem buf_reset_end {w : World} {B D : Nat} {a : Option Addr} {L C off : Nat} {lr : Int} (hB : w.heap[B]? = some (.cells #[.slice a L C, .int .i64 off, .int .i8 lr] 208 (0, 0)))
  (h4 : L ≤ 140737488355328) (h5 : a = none → C = 0) {w' : World} (he : Eqv (bufWorld B w (.slice a 0 C) 0 0) w') : Buf w' B D [] ∧ Keep (B = ·) w w' := by
 refine ⟨⟨a, 0, C, 0, 0, ?_, rfl, by omega, by omega, h5, by simp⟩, ?_⟩
 ·rw [he.1]
  have := heap_set_same (i := 2) (heap_set_same (i := 1) (heap_set_same (i := 0) hB (.slice a 0 C)) (.int .i64 0)) (.int .i8 0)
  simpa [bufWorld] using this
 ·exact ((((Keep.refl _ w).set B 0 (fun _ => rfl) _).set B 1 (fun _ => rfl) _).set B 2 (fun _ => rfl) _).eqv he
theorem Buf.eqv {w w' : World} {B D : Nat} {rem : List UInt8} (h : Buf w B D rem) (he : Eqv w w') : Buf w' B D rem := h.keep (he.keep (fun _ => False)) id id
theorem Glob.eqv {E : Env} {w w' : World} (h : Glob E w) (he : Eqv w w') : Glob E w' := h.keep (he.keep (fun _ => False)) (fun _ x => x.elim)
theorem buf_empty' {w : World} {B D : Nat} {rem : List UInt8} (h : Buf w B D rem) :
  Calls Tryz.prog 207 #[.pointer (some ⟨B, 0, none⟩)] w fun e w' => e = .returned (.bool rem.isEmpty) ∧ Eqv w w' := by
 obtain ⟨a, L, C, off, lr, hB, h2, h3, h4, h5, h6⟩ := h
 refine (buf_empty B a L C off lr w hB).mono ?_
 rintro e w' ⟨rfl, n, rfl⟩
 refine ⟨?_, rfl, rfl, rfl, rfl⟩
 congr 2
 cases rem with
 | nil => simp at h2 ⊢; omega
 | cons c r => simp at h2 ⊢; omega
theorem buf_reset' {w : World} {B D : Nat} {rem : List UInt8} (h : Buf w B D rem) :
  Calls Tryz.prog 72 #[.pointer (some ⟨B, 0, none⟩)] w fun e w' => e = .returned (.tuple #[]) ∧ Buf w' B D [] ∧ Keep (B = ·) w w' := by
 obtain ⟨a, L, C, off, lr, hB, h2, h3, h4, h5, h6⟩ := h
 refine (buf_reset B a L C off lr w hB h5 h3).mono ?_
 rintro e w' ⟨rfl, rfl⟩
 exact ⟨rfl, buf_reset_end hB h4 h5 (Eqv.refl _)⟩
theorem buf_readByte_end {E : Env} {w : World} {B D : Nat} (hg : Glob E w) (hE : E.base ≤ B) (h : Buf w B D []) :
  Calls Tryz.prog 202 #[.pointer (some ⟨B, 0, none⟩)] w fun e w' => e = .returned (.tuple #[.int .u8 0, eofV E]) ∧ Buf w' B D [] ∧ Keep (B = ·) w w' := by
 go_enter Tryz.func202, Tryz.ntmps202
 go_wp2_with fail
 refine (buf_empty' h).mono ?_
 rintro e w1 ⟨rfl, he1⟩
 go_wp2_with fail
 refine (buf_reset' (h.eqv he1)).mono ?_
 rintro e w2 ⟨rfl, hb2, hk2⟩
 have ge := ((hg.eqv he1).keep hk2 (fun i hi => by omega)).eof
 go_wp2_with fail
 go_quiet (fail)
 go_wp2_with fail
 go_ret2
 exact ⟨rfl, hb2, ((he1.keep _).then hk2).eqv ⟨rfl, rfl, rfl, rfl⟩⟩
end Go.Proofs.YtjekbomlpcdojaaGreatDoor
