/- Part 6 of the proof: Safe1. -/
import Derived.Test.YtjekbomlpcdojaaGreatDoorH4
import Derived.Test.YtjekbomlpcdojaaGreatDoorH5
import Derived.Deep.OwnRows
set_option linter.unusedVariables false
set_option linter.unusedSimpArgs false
set_option linter.unusedSectionVars false
set_option maxHeartbeats 16000000
namespace Go.Proofs.YtjekbomlpcdojaaGreatDoor
open Go Go.RowKit
theorem zeros_is (n : Nat) : madeCells #[Value.int .u8 0] n = (bcells (List.replicate n 0)).toArray := by
 simp [madeCells, bcells]
 apply Array.ext
 ·simp
 ·intro i h1 h2
  simp [Nat.mod_one]
def zrow (n : Nat) : Array Value := (bcells (List.replicate n 0)).toArray
theorem u8info : (Tryz.prog.info? 5).map (fun i => (i.zero, i.size, i.bytes)) = some (some (.int .u8 0), 1, 1) := by kernel_rfl
theorem mk_bytes (kl kc : IntKind) (l c : Nat) (hlc : l ≤ c) (hc : c ≤ 140737488355328) (w : World) :
  (Instr.makeSlice 24 (.int kl (l : Int)) (.int kc (c : Int))).run Tryz.prog w = .ok (.slice (some ⟨w.heap.size, 0, none⟩) l c) (w.alloc (.cells (zrow c) 5)) := by
 obtain ⟨i, hi, hz, hs, hb⟩ := info_parts u8info
 have hr := run_make w 24 5 i (.int .u8 0) Tryz.underlying24 hi hz kl kc l c (by omega) (by omega) (by rw [hb]; omega) (by omega)
 simp only [Int.toNat_natCast, hs, Nat.mul_one] at hr
 rw [hr, zrow, ← zeros_is]
 rfl
theorem readAtLeast_zero {w : World} {MB c : Nat} {a : Option Addr} :
  Calls Tryz.prog 289 #[memV MB, .slice a 0 c, .int .i64 0] w fun e w' => e = .returned (.tuple #[.int .i64 0, .nilIface]) ∧ w = w' := by
 go_enter Tryz.func289, Tryz.ntmps289
 go_wp2_with fail
 refine wp_loop_rounds 1 ?_
 rw [rounds_succ]
 go_wp2_with fail
 go_ret2
 exact ⟨rfl, rfl⟩
def endK (n : Nat) (rem : List UInt8) : Int := if n ≤ rem.length then 0 else if rem.length = 0 then 1 else 2
theorem mem_readFull {E : Env} {MB B D X n : Nat} {rem : List UInt8} {w : World} (hg : Glob E w) (h : Mem E w MB B D rem) (hX : w.heap[X]? = some (.cells (bcells (List.replicate n 0)).toArray 5 (0, 0)))
  (hXB : X ≠ B) (hXD : rem ≠ [] → X ≠ D) (hXM : X ≠ MB) (hXE : E.base ≤ X) (hn : n ≤ 140737488355328) :
  Calls Tryz.prog 270 #[memV MB, .slice (some ⟨X, 0, none⟩) n n] w fun e w' => ∃ ev, e = .returned (.tuple #[.int .i64 (min n rem.length : Nat), ev]) ∧ ErrAt E w.heap.size w' ev (endK n rem) ∧
   Mem E w' MB B D (rem.drop n) ∧ Keep (fun i => B = i ∨ X = i) w w' ∧
   (∃ sc : List UInt8, sc.length = n ∧ w'.heap[X]? = some (.cells (bcells sc).toArray 5 (0, 0)) ∧ sc.take (min n rem.length) = rem.take n) := by
 have hrow : ∀ (w' : World) (cs : List UInt8), cs.length ≤ n → w'.heap[X]? = some (.cells (splice (bcells (List.replicate n 0)) 0 (bcells cs)).toArray 5 (0, 0)) →
   ∃ sc : List UInt8, sc.length = n ∧ w'.heap[X]? = some (.cells (bcells sc).toArray 5 (0, 0)) ∧ sc.take cs.length = cs := by
  intro w' cs hcs hh
  refine ⟨splice (List.replicate n 0) 0 cs, by rw [length_splice _ _ _ (by simpa using hcs)]; simp, ?_, by simp [splice]⟩
  rw [hh]; simp [splice, bcells]
 have Hrow := hdd hrow
 clear hrow
 go_enter Tryz.func270, Tryz.ntmps270
 go_wp2_with fail
 by_cases hz : n = 0
 ·subst hz
  refine readAtLeast_zero.mono ?_
  rintro e w1 ⟨rfl, rfl⟩
  go_wp2_with fail
  go_ret2
  exact ⟨.nilIface, by simp, by simpa [endK] using ErrAt.nil _ _ _, by simpa using h, Keep.refl _ _, [], rfl, hX, by simp⟩
 ·by_cases hl : n ≤ rem.length
  ·refine (readAtLeast_all (T := 5) h hl (by omega) hn hX hXB (hXD (by rintro rfl; simp at hl; omega)) hXM (by simp)).mono ?_
   rintro e w1 ⟨rfl, hm1, hb1, hk1⟩
   obtain ⟨sc', e1, e2, e3⟩ := Hrow.out w1 (rem.take n) (by simp; omega) hb1
   go_wp2_with fail
   go_ret2
   have hmin : min n rem.length = n := by omega
   rw [hmin]
   refine ⟨_, rfl, ?_, hm1, hk1, sc', e1, e2, ?_⟩
   ·rw [endK, if_pos hl]; exact ErrAt.nil _ _ _
   ·simpa [hmin] using e3
  ·by_cases hr : rem = []
   ·subst hr
    refine (readAtLeast_end hg h (by omega) (Nat.le_refl _) hn).mono ?_
    rintro e w1 ⟨rfl, hm1, hk1⟩
    have hb1 := (hk1.block X (lt_of_heap hX) (fun e => hXB e.symm)).trans hX
    go_wp2_with fail
    go_ret2
    refine ⟨eofV E, by simp, ?_, by simpa using hm1, hk1.weak (fun _ _ x => .inl x), _, by simp, hb1, by simp⟩
    simp only [endK, if_neg hl]
    exact .inr (.inl ⟨rfl, rfl⟩)
   ·refine (readAtLeast_some (T := 5) hg h (by omega) hr (Nat.le_refl _) hn hX hXB (hXD hr) hXM hXE (by simp)).mono ?_
    rintro e w1 ⟨rfl, hm1, hb1, hk1⟩
    obtain ⟨sc', e1, e2, e3⟩ := Hrow.out w1 rem (by omega) hb1
    go_wp2_with fail
    go_ret2
    have hmin : min n rem.length = rem.length := by omega
    rw [hmin]
    refine ⟨_, rfl, ?_, by rw [List.drop_of_length_le (by omega)]; exact hm1, hk1, sc', e1, e2, ?_⟩
    ·rw [endK, if_neg hl, if_neg (by simpa using hr)]
     exact .inr (.inr (.inl ⟨rfl, rfl⟩))
    ·rw [e3, List.take_of_length_le (by omega)]
theorem Buf.dlt {w : World} {B D : Nat} {rem : List UInt8} (h : Buf w B D rem) (hr : rem ≠ []) : D < w.heap.size := by
 obtain ⟨a, L, C, off, lr, hB, h2, h3, h4, h5, h6⟩ := h
 obtain ⟨o, _, _, hj⟩ := h6 hr
 exact lt_of_cell (p := ⟨D, o + (off + 0), none⟩) (hj 0 (List.length_pos_iff.2 hr))
theorem Mem.lts {E : Env} {w : World} {MB B D : Nat} {rem : List UInt8} (h : Mem E w MB B D rem) : MB < w.heap.size ∧ B < w.heap.size := ⟨lt_of_cell h.mb, h.buf.lt⟩
def safeK (n : Nat) (rem : List UInt8) : Int := if n ≤ rem.length then 0 else if n ≤ 512 then endK n rem else 1
theorem safe_small {E : Env} {MB B D n : Nat} {rem : List UInt8} {w : World} (hg : Glob E w) (h : Mem E w MB B D rem) (hn : n ≤ 512) :
  Calls Tryz.prog 268 #[.int .i32 n, memV MB] w fun e w' => ∃ g cap ev sc, e = .returned (.tuple #[.slice (some ⟨g, 0, none⟩) (min n rem.length) cap, ev]) ∧ ErrAt E w.heap.size w' ev (safeK n rem) ∧
   Mem E w' MB B D (rem.drop n) ∧ Keep (B = ·) w w' ∧ w.heap.size ≤ g ∧ sc.length = cap ∧ w'.heap[g]? = some (.cells (bcells sc).toArray 5 (0, 0)) ∧ sc.take (min n rem.length) = rem.take n ∧ min n rem.length ≤ cap ∧ cap ≤ 140737488355328 := by
 have hmk := fun (w : World) => mk_bytes .i32 .i32 n n (Nat.le_refl _) (by omega) w
 go_enter Tryz.func268, Tryz.ntmps268
 go_wp2_with fail
 obtain ⟨hl1, hl2⟩ := h.lts
 have hk0 : Keep (B = ·) w (w.alloc (.cells (zrow n) 5)) := (Keep.refl _ w).alloc _
 have hb0 : (w.alloc (.cells (zrow n) 5)).heap[w.heap.size]? = some (.cells (zrow n) 5 (0, 0)) := heap_alloc_new w _
 have hm0 : Mem E (w.alloc (.cells (zrow n) 5)) MB B D rem := h.keep ((Keep.refl (fun _ => False) w).alloc _) id id id
 have hg0 : Glob E (w.alloc (.cells (zrow n) 5)) := hg.keep ((Keep.refl (fun _ => False) w).alloc _) (fun _ x => x.elim)
 generalize w.alloc (.cells (zrow n) 5) = w0 at *
 refine (mem_readFull hg0 hm0 hb0 (by omega) (fun hr => by have := h.buf.dlt hr; omega) (by omega) hg.size (by omega)).mono ?_
 rintro e w1 ⟨ev, rfl, he1, hm1, hk1, sc, hs, hb, ht⟩
 have hmn : min n rem.length ≤ n := Nat.min_le_left _ _
 generalize hmin : min n rem.length = m at *
 have Hm := hdd hmin
 clear hmin hmk
 go_wp2_with fail
 go_ret2
 rw [Hm.out]
 refine ⟨_, _, _, sc, rfl, ?_, hm1, (hk0.trans hk1 (fun i hi x => by rcases x with x | x; exact x; omega)), Nat.le_refl _, hs, hb, ht, hmn, by omega⟩
 unfold safeK
 by_cases hl : n ≤ rem.length
 ·rw [if_pos hl]
  simpa [endK, hl] using he1.mono hk0.size
 ·rw [if_neg hl, if_pos hn]
  exact he1.mono hk0.size
end Go.Proofs.YtjekbomlpcdojaaGreatDoor
