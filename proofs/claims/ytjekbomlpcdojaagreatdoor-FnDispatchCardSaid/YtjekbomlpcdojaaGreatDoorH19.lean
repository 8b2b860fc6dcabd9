/- Part 19 of the proof: Wr0. -/
import Derived.Test.YtjekbomlpcdojaaGreatDoorH4
import Derived.Test.YtjekbomlpcdojaaGreatDoorH7
import Derived.Test.YtjekbomlpcdojaaGreatDoorH10
import Derived.Laws.IdiomCopy
set_option linter.unusedVariables false
set_option linter.unusedSimpArgs false
set_option linter.unusedSectionVars false
set_option maxHeartbeats 16000000
namespace Go.Proofs.YtjekbomlpcdojaaGreatDoor
open Go Go.RowKit
theorem heap_alloc_at {w : World} {b : Nat} (h : w.heap.size = b) (o : Obj) : (w.alloc o).heap[b]? = some o := h ▸ heap_alloc_new w o
abbrev bufO (lr : Int) : Obj := .cells #[nilB, .int .i64 0, .int .i8 lr] 208 (0, 0)
abbrev memO (B : Nat) : Obj := .cells #[.pointer (some ⟨B, 0, none⟩), .int .i64 0] 136 (0, 0)
theorem new_mem (w : World) : Calls Tryz.prog 47 #[] w fun e w' => e = .returned (.pointer (some ⟨w.heap.size + 1, 0, none⟩)) ∧ (w.alloc (bufO 0)).alloc (memO w.heap.size) = w' := by
 go_enter Tryz.func47, Tryz.ntmps47
 go_wp2_with fail
 go_ret
 exact ⟨rfl, rfl⟩
theorem u8size : (Tryz.prog.info? 5).map (·.size) = some 1 := by kernel_rfl
theorem buf_write_none {b : Nat} {lr : Int} {w : World} (h : w.heap[b]? = some (bufO lr)) (a : Option Addr) (c : Nat) :
  Calls Tryz.prog 73 #[.pointer (some ⟨b, 0, none⟩), .slice a 0 c] w fun e w' => e = .returned (.tuple #[.int .i64 0, .nilIface]) ∧ (∃ lr', w'.heap[b]? = some (bufO lr')) ∧ Keep (b = ·) w w' := by
 have hce : ∀ d dLen dCap W, (Builtin.copy_ #[24, 24] 3 #[.slice d dLen dCap, .slice a 0 c]).run Tryz.prog W = .ok (goInt 0) W := fun d dLen dCap W => run_copy_none W 24 24 3 5 d a dLen dCap 0 c Tryz.underlying24 u8size (by simp)
 have c0 := cellAt h 0
 have c2 := cellAt h 2
 have f0 := freeAt h 0
 have f2 := freeAt h 2
 have h1 : (w.setCell ⟨b, 2, none⟩ (.int .i8 0)).heap[b]? = some (bufO 0) := by simpa [bufO] using heap_set_same (i := 2) h (.int .i8 0)
 have hk : Keep (b = ·) w (w.setCell ⟨b, 2, none⟩ (.int .i8 0)) := (Keep.refl _ w).set b 2 (fun _ => rfl) _
 have HC := hdd (freeAt h1 0)
 have HC0 := hdd (cellAt h1 0)
 have H1 := hdd h1
 simp at c0 c2
 clear h1
 go_enter Tryz.func73, Tryz.ntmps73
 go_wp2_with fail
 refine (Tryz.Buffer_tryGrow_room b none 0 0 0 _ (by simpa using HC0.out) HC.out (by omega) (by unfold maxLen; omega) (by omega)).mono ?_
 rintro e w1 ⟨rfl, rfl⟩
 have hb2 := heap_set_same (i := 0) H1.out (.slice none 0 0)
 have hk2 : Keep (b = ·) w ((w.setCell ⟨b, 2, none⟩ (.int .i8 0)).setCell ⟨b, 0, none⟩ (.slice none 0 0)) := hk.set b 0 (fun _ => rfl) _
 simp only [Nat.add_zero]
 generalize (w.setCell ⟨b, 2, none⟩ (.int .i8 0)).setCell ⟨b, 0, none⟩ (.slice none 0 0) = w2 at *
 have d0 := cellAt hb2 0
 simp at d0
 go_wp2_with fail
 go_ret2
 exact ⟨rfl, ⟨0, by simpa [bufO] using hb2⟩, hk2⟩
theorem Buf.of_written {E : Env} {b : Nat} {w : World} {l : List UInt8} (h : Lib.IsBuffer 208 5 E.base b (bcells l) w) (hl : l.length ≤ 140737488355328) : ∃ D, E.base ≤ D ∧ D ≠ b ∧ (l ≠ [] → D < w.heap.size) ∧ Buf w b D l := by
 obtain ⟨hB, v, lr, hb, hrow, hne⟩ := h
 have hln : (bcells l).length = l.length := by simp
 rw [hln] at hrow
 rcases hrow.2 with ⟨rfl, h0⟩ | ⟨g, cap, cur, rfl, hg, hgg, hnc, _, _, htake⟩
 ·have hl0 : l = [] := List.eq_nil_of_length_eq_zero h0
  subst hl0
  exact ⟨b + 1, by omega, by omega, fun h => absurd rfl h, none, 0, 0, 0, lr, hb, rfl, by omega, by omega, fun _ => rfl, fun h => absurd rfl h⟩
 ·have hgb : g ≠ b := fun e => hne (by simp [Value.ownBlock, e])
  refine ⟨g, hg, hgb, fun _ => lt_of_heap hgg, _, l.length, cap, 0, lr, hb, by omega, hnc, hl, by simp, fun hl0 => ⟨0, rfl, hgb, fun j hj => ?_⟩⟩
  rw [Nat.zero_add, Nat.zero_add, cellAt hgg]
  have hj2 : (bcells l)[j]? = some (.int .u8 (l[j].toNat : Int)) := by simp [bcells, hj]
  rw [← htake, List.getElem?_take] at hj2
  split at hj2
  ·simpa using hj2
  ·cases hj2
theorem bcells_oc (l : List UInt8) : ∀ v ∈ bcells l, v.oneCell' = true := by
 intro v hv
 obtain ⟨b, _, rfl⟩ := List.mem_map.1 hv
 rfl
theorem holding_at {A : Nat → Prop} {E : Env} {v : Value} {l : List UInt8} {w : World} (h : BytesAt A w v l) (hE : E.base ≤ w.heap.size) :
  Calls Tryz.prog 46 #[v] w fun e w' => ∃ MB B D, e = .returned (.pointer (some ⟨MB, 0, none⟩)) ∧ Mem E w' MB B D l ∧ Keep (fun _ => False) w w' ∧ w.heap.size ≤ MB ∧ w.heap.size ≤ B ∧ w.heap.size ≤ D ∧ MB < w'.heap.size ∧ B < w'.heap.size := by
 have hk0 : Keep (fun _ => False) w ((w.alloc (bufO 0)).alloc (memO w.heap.size)) := ((Keep.refl _ w).alloc _).alloc _
 have hm0 : ((w.alloc (bufO 0)).alloc (memO w.heap.size)).heap[w.heap.size + 1]? = some (memO w.heap.size) := heap_alloc_at (by simp) _
 have hb0 : ((w.alloc (bufO 0)).alloc (memO w.heap.size)).heap[w.heap.size]? = some (bufO 0) := (Below.heap_alloc _ _ _ (by simp)).trans (heap_alloc_new w _)
 have hs0 : ((w.alloc (bufO 0)).alloc (memO w.heap.size)).heap.size = w.heap.size + 2 := by simp
 rcases h with ⟨rfl, a, c, rfl⟩ | ⟨hne, D0, o, c, rfl, h1, h2, h3, h4⟩
 ·go_enter Tryz.func46, Tryz.ntmps46
  go_wp2_with fail
  refine (new_mem w).mono ?_
  rintro e w1 ⟨rfl, rfl⟩
  obtain ⟨n, hn⟩ : ∃ n, w.heap.size = n := ⟨_, rfl⟩
  rw [hn] at hk0 hm0 hb0 hs0 hE ⊢
  generalize (w.alloc (bufO 0)).alloc (memO n) = w1 at *
  have c0 := cellAt hm0 0
  simp at c0
  have HS := hdd hs0
  have HN := hdd hn
  have HM := hdd hm0
  have HB := hdd hb0
  clear hs0 hn hm0 hb0
  go_wp2_with fail
  refine (buf_write_none HB.out a c).mono ?_
  rintro e w2 ⟨rfl, ⟨lr, hb2⟩, hk2⟩
  have HB2 := hdd hb2
  clear hb2
  go_wp2_with fail
  go_ret
  have hb2 := HB2.out
  have hs0 := HS.out
  have hn := HN.out
  have hsz := hk2.size
  have hk : Keep (fun _ => False) w w2 := hk0.trans hk2 (fun i hi e => by have := HN.out; omega)
  refine ⟨n + 1, n, n + 1, rfl, ⟨?_, ⟨none, 0, 0, 0, lr, hb2, rfl, by omega, by omega, fun _ => rfl, fun h => absurd rfl h⟩, by omega, by omega, by omega, by omega, by omega⟩, hk, by omega, by omega, by omega, by omega, by omega⟩
  exact (hk2.cell (p := ⟨n + 1, 0, none⟩) (by simp; omega) (by simp)).trans c0
 ·have hD : D0 < w.heap.size := BytesAt.lt (A := A) hne h4
  obtain ⟨L, hL⟩ : ∃ L, l.length = L := ⟨_, rfl⟩
  rw [hL] at h1 h2 ⊢
  have HL := hdd hL
  have H4 := hdd h4
  clear hL h4
  go_enter Tryz.func46, Tryz.ntmps46
  go_wp2_with fail
  refine (new_mem w).mono ?_
  rintro e w1 ⟨rfl, rfl⟩
  obtain ⟨n, hn⟩ : ∃ n, w.heap.size = n := ⟨_, rfl⟩
  rw [hn] at hk0 hm0 hb0 hs0 hE hD ⊢
  generalize (w.alloc (bufO 0)).alloc (memO n) = w1 at *
  have c0 := cellAt hm0 0
  simp at c0
  have HS := hdd hs0
  have HN := hdd hn
  have HM := hdd hm0
  have HB := hdd hb0
  clear hs0 hn hm0 hb0
  go_wp2_with fail
  have hbuf : Lib.IsBuffer 208 5 n n [] w1 := ⟨Nat.le_refl _, nilB, 0, HB.out, World.ownsRow_nil _ _ _ _, by simp [Value.ownBlock]⟩
  refine (Tryz.Buffer_Write_any n n [] (bcells l) ⟨D0, o, none⟩ L c w1 hbuf (by have := HS.out; omega) (fun v hv => by cases hv) (by simp; exact HL.out) (by simp; omega) (fun j u hj => ?_) (bcells_oc l) (by simp; omega)).mono ?_
  ·simp [bcells] at hj
   obtain ⟨b, hb1, rfl⟩ := hj
   rw [Addr.add_lit]
   exact (hk0.cell (p := ⟨D0, o + j, none⟩) (by simp; have := HN.out; omega) id).trans (H4.out j b hb1)
  rintro e w2 ⟨rfl, hb2, hbel, hoth⟩
  have HB2 := hdd hb2
  have HO := hdd hoth
  clear hb2 hoth
  go_wp2_with fail
  go_ret
  have hb2 := HB2.out
  simp only [List.nil_append] at hb2
  have hs0 := HS.out
  have hn := HN.out
  have hsz := hbel.size
  have hk : Keep (fun _ => False) w w2 := hk0.trans (N := fun i => n ≤ i) ⟨hbel.os, hbel.tape, hbel.output, hbel.size, fun k hk hM => hbel.block k (by omega)⟩ (fun i hi e => by have := HN.out; omega)
  obtain ⟨D, hD1, hD2, hD3, hB3⟩ := Buf.of_written (E := { eb := 0, eo := 0, ub := 0, uo := 0, base := n }) hb2 (by rw [HL.out]; exact h2)
  have hm2 : w2.heap[n + 1]? = some (memO n) := HO.out _ _ HM.out (by simp) (by simp)
  refine ⟨n + 1, n, D, rfl, ⟨?_, hB3, by omega, by omega, by omega, hD2, hD3 hne⟩, hk, by omega, by omega, Nat.le_trans (Nat.le_of_eq hn) hD1, by omega, by omega⟩
  have := cellAt hm2 0
  simpa using this
end Go.Proofs.YtjekbomlpcdojaaGreatDoor
