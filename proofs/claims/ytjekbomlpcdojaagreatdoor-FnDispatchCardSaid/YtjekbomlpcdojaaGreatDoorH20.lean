/- Part 20 of the proof: Set1, Set2, Imp0, Wr1, Wr2, Wr3, Wr4. -/
import Derived.Test.YtjekbomlpcdojaaGreatDoorH19
import Derived.Test.YtjekbomlpcdojaaGreatDoorH12
import Derived.Deep.RegionWith
set_option linter.unusedVariables false
set_option linter.unusedSimpArgs false
set_option linter.unusedSectionVars false
set_option maxHeartbeats 16000000
namespace Go.Proofs.YtjekbomlpcdojaaGreatDoor
open Go Go.RowKit
set_option maxRecDepth 100000 in
theorem config_at (pr : Int) (c : Cfg) (w : World) : Calls Tryz.prog 70 #[confV pr c] w fun e w' => ∃ a, e = .returned (.pointer a) ∧ CfgAt (fun i => i < w.heap.size ∨ w'.heap.size ≤ i) w' a c ∧ Keep (fun _ => False) w w' := by
 by_cases hp : c.plain = true
 ·have HP := hdd hp
  go_enter Tryz.func70, Tryz.ntmps70
  go_wp2_with fail
  go_ret
  exact ⟨none, rfl, .inl ⟨HP.out, rfl⟩, (Keep.refl _ w).alloc _⟩
 ·have hp0 : c.plain = false := by simpa using hp
  have HP := hdd hp0
  clear hp
  go_enter Tryz.func70, Tryz.ntmps70
  go_wp2_with fail
  go_region
  all_goals (go_wp2_with fail)
  ·go_ret
   refine ⟨_, rfl, .inr ⟨HP.out, w.heap.size + 3, w.heap.size + 1, w.heap.size + 2, rfl, ?_, ?_, ?_, ?_, ?_, ?_⟩, (((((Keep.refl _ w).alloc _).alloc _).alloc _).alloc _).drew⟩
   ·simp <;> omega
   ·simp <;> omega
   ·simp <;> omega
   ·exact heap_alloc_at (by simp) _
   ·exact (cellAt ((Below.heap_alloc _ _ _ (by simp)).trans ((Below.heap_alloc _ _ _ (by simp)).trans (heap_alloc_at (by simp) _))) 0).trans rfl
   ·exact (cellAt ((Below.heap_alloc _ _ _ (by simp)).trans (heap_alloc_at (by simp) _)) 0).trans rfl
  ·go_ret
   refine ⟨_, rfl, .inr ⟨HP.out, w.heap.size + 3, w.heap.size + 2, w.heap.size + 1, rfl, ?_, ?_, ?_, ?_, ?_, ?_⟩, (((((Keep.refl _ w).alloc _).alloc _).alloc _).alloc _).drew⟩
   ·simp <;> omega
   ·simp <;> omega
   ·simp <;> omega
   ·exact heap_alloc_at (by simp) _
   ·exact (cellAt ((Below.heap_alloc _ _ _ (by simp)).trans (heap_alloc_at (by simp) _)) 0).trans rfl
   ·exact (cellAt ((Below.heap_alloc _ _ _ (by simp)).trans ((Below.heap_alloc _ _ _ (by simp)).trans (heap_alloc_at (by simp) _))) 0).trans rfl
theorem ta_mem_setter (v : Value) (w : World) : (Instr.typeAssert (.iface 80 v) 20 331 true).run Tryz.prog w = .ok (.tuple #[.nilIface, .bool false]) w := run_typeAssert_lacksB Tryz.underlying331 (by kernel_rfl) (by kernel_rfl) v _ w
theorem ta_mem_rich (v : Value) (w : World) : (Instr.typeAssert (.iface 80 v) 153 253 true).run Tryz.prog w = .ok (.tuple #[.iface 80 v, .bool true]) w := by kernel_rfl
theorem propagate_at {M : Nat → Prop} {w : World} {a : Option Addr} {c : Cfg} (h : CfgAt M w a c) (v : Value) :
  Calls Tryz.prog 99 #[.iface 80 v, .pointer a] w fun e w' => e = .returned (.tuple #[]) ∧ w = w' := by
 have hta := ta_mem_setter
 rcases h with ⟨_, rfl⟩ | ⟨_, b, r, s, rfl, _, _, _, hb, _, _⟩
 ·go_enter Tryz.func99, Tryz.ntmps99
  go_wp2_with fail
  first | go_ret | go_returns
  exact ⟨rfl, rfl⟩
 ·have c5 := cellAt hb 5
  simp at c5
  go_enter Tryz.func99, Tryz.ntmps99
  go_wp2_with fail
  go_end0
  exact ⟨rfl, rfl⟩
abbrev binO (MB : Nat) (a : Option Addr) : Obj := .cells (memV MB :: memV MB :: .pointer a :: bcells (List.replicate 64 0)).toArray 264 (0, 0)
set_option maxRecDepth 100000 in
theorem binConf_at {M : Nat → Prop} {w : World} {a : Option Addr} {c : Cfg} (h : CfgAt M w a c) (MB : Nat) :
  Calls Tryz.prog 71 #[memV MB, .pointer a] w fun e w' => e = .returned (.pointer (some ⟨w.heap.size, 0, none⟩)) ∧ w'.heap[w.heap.size]? = some (binO MB a) ∧ Keep (fun _ => False) w w' := by
 have hta := ta_mem_rich
 go_enter Tryz.func71, Tryz.ntmps71
 go_wp2_with fail
 refine (propagate_at h _).mono ?_
 rintro e w1 ⟨rfl, rfl⟩
 go_wp2_with fail
 go_ret
 refine ⟨rfl, ?_, ?_⟩
 ·exact (heap_alloc_new w _).trans rfl
 ·exact (Keep.refl _ w).alloc _
theorem CfgAt.weak {M N : Nat → Prop} {w : World} {a : Option Addr} {c : Cfg} (h : CfgAt M w a c) (hN : ∀ i, i < w.heap.size → N i → M i) : CfgAt N w a c := by
 rcases h with h | ⟨hp, b, r, s, ha, hb, hr, hs, h1, h2, h3⟩
 ·exact .inl h
 ·exact .inr ⟨hp, b, r, s, ha, fun x => hb (hN _ (lt_of_heap h1) x), fun x => hr (hN _ (lt_of_cell h2) x), fun x => hs (hN _ (lt_of_cell h3) x), h1, h2, h3⟩
set_option maxRecDepth 100000 in
theorem protocol_bin (pr : Int) (hpr : ¬ pr = 1) (c : Cfg) (MB : Nat) (w : World) :
  Calls Tryz.prog 35 #[confV pr c, memV MB] w fun e w' => ∃ P a, e = .returned (.iface 158 (.pointer (some ⟨P, 0, none⟩))) ∧ w.heap.size ≤ P ∧ w'.heap[P]? = some (binO MB a) ∧ CfgAt (fun i => i < w.heap.size ∨ P ≤ i) w' a c ∧ Keep (fun _ => False) w w' := by
 have hprb : (pr == 1) = false := by simpa using hpr
 go_enter Tryz.func35, Tryz.ntmps35
 go_wp2_with fail
 generalize hw1 : w.alloc (.cells _ 23) = w1
 have hk1 : Keep (fun _ => False) w w1 := hw1 ▸ (Keep.refl _ w).alloc _
 have hs1 : w.heap.size ≤ w1.heap.size := hk1.size
 clear hw1
 refine (config_at pr c w1).mono ?_
 rintro e w2 ⟨a, rfl, hc2, hk2⟩
 go_wp2_with fail
 refine (binConf_at hc2 MB).mono ?_
 rintro e w3 ⟨rfl, hP, hk3⟩
 have HP := hdd hP
 clear hP
 go_wp2_with fail
 go_ret
 refine ⟨_, a, rfl, Nat.le_trans hs1 hk2.size, HP.out, ?_, hk1.then (hk2.then hk3)⟩
 refine (CfgAt.weak (N := fun i => i < w.heap.size ∨ w2.heap.size ≤ i) hc2 (fun i hi h => ?_)).keep hk3 (fun _ x => x.elim)
 rcases h with h | h
 ·exact .inl (by omega)
 ·exact .inr h
theorem ctx_at (w : World) : Calls Tryz.prog 37 #[] w fun e w' => e = .returned ctxV ∧ w = w' := by
 go_enter Tryz.func37, Tryz.ntmps37
 go_wp2
 go_ret
 exact ⟨rfl, rfl⟩
def ty8 (t : Int) : Int := IntKind.u8.wrap t
theorem typ_at (t : Int) (w : World) : Calls Tryz.prog 67 #[.int .i64 t] w fun e w' => e = .returned (.int .u8 (ty8 t)) ∧ w = w' := by
 go_enter Tryz.func67, Tryz.ntmps67
 go_wp2
 go_ret
 exact ⟨rfl, rfl⟩
abbrev cmpO (MB : Nat) (a : Option Addr) : Obj := .cells (memV MB :: memV MB :: .pointer a :: .slice none 0 0 :: .int .i64 0 :: .string ⟨#[]⟩ :: .int .i16 0 :: .bool false :: .bool false :: .bool false :: bcells (List.replicate 64 0)).toArray 256 (0, 0)
set_option maxRecDepth 100000 in
theorem cmpConf_at {M : Nat → Prop} {w : World} {a : Option Addr} {c : Cfg} (h : CfgAt M w a c) (MB : Nat) :
  Calls Tryz.prog 69 #[memV MB, .pointer a] w fun e w' => e = .returned (.pointer (some ⟨w.heap.size, 0, none⟩)) ∧ w'.heap[w.heap.size]? = some (cmpO MB a) ∧ Keep (fun _ => False) w w' := by
 have hta := ta_mem_rich
 go_enter Tryz.func69, Tryz.ntmps69
 go_wp2_with fail
 refine (propagate_at h _).mono ?_
 rintro e w1 ⟨rfl, rfl⟩
 go_wp2_with fail
 go_ret
 refine ⟨rfl, ?_, ?_⟩
 ·exact (heap_alloc_new w _).trans rfl
 ·exact (Keep.refl _ w).alloc _
set_option maxRecDepth 100000 in
theorem protocol_cmp (c : Cfg) (MB : Nat) (w : World) :
  Calls Tryz.prog 35 #[confV 1 c, memV MB] w fun e w' => ∃ P a, e = .returned (.iface 154 (.pointer (some ⟨P, 0, none⟩))) ∧ w.heap.size ≤ P ∧ w'.heap[P]? = some (cmpO MB a) ∧ CfgAt (fun i => i < w.heap.size ∨ P ≤ i) w' a c ∧ Keep (fun _ => False) w w' := by
 go_enter Tryz.func35, Tryz.ntmps35
 go_wp2_with fail
 generalize hw1 : w.alloc (.cells _ 23) = w1
 have hk1 : Keep (fun _ => False) w w1 := hw1 ▸ (Keep.refl _ w).alloc _
 have hs1 : w.heap.size ≤ w1.heap.size := hk1.size
 clear hw1
 refine (config_at 1 c w1).mono ?_
 rintro e w2 ⟨a, rfl, hc2, hk2⟩
 go_wp2_with fail
 refine (cmpConf_at hc2 MB).mono ?_
 rintro e w3 ⟨rfl, hP, hk3⟩
 have HP := hdd hP
 clear hP
 go_wp2_with fail
 go_ret
 refine ⟨_, a, rfl, Nat.le_trans hs1 hk2.size, HP.out, ?_, hk1.then (hk2.then hk3)⟩
 refine (CfgAt.weak (N := fun i => i < w.heap.size ∨ w2.heap.size ≤ i) hc2 (fun i hi h => ?_)).keep hk3 (fun _ x => x.elim)
 rcases h with h | h
 ·exact .inl (by omega)
 ·exact .inr h
structure WMem (B0 : Nat) (w : World) (MB B : Nat) (bs : List UInt8) : Prop where
 mb : w.heap[MB]? = some (memO B)
 buf : Lib.IsBuffer 208 5 B0 B (bcells bs) w
 ne : MB ≠ B
 base : B0 ≤ w.heap.size
theorem mem_Write : (Array.find? (fun x => x.name == "Write") Tryz.t80.methods).map (fun m => (m.path.toList, m.func)) = some ([{ struct := 136, index := 0, deref := true }], some (73, true)) := by kernel_rfl
theorem wmem_write {B0 : Nat} {w : World} {MB B : Nat} {bs cs : List UInt8} (h : WMem B0 w MB B bs) (g o n c : Nat) (hg : g ≠ B) (hn : cs.length = n) (hc : ∀ j b, cs[j]? = some b → w.cell? ⟨g, o + j, none⟩ = some (.int .u8 (b.toNat : Int))) (hl : bs.length + n ≤ 140737488355328) :
  Calls Tryz.prog 73 #[.pointer (some ⟨B, 0, none⟩), .slice (some ⟨g, o, none⟩) n c] w fun e w' => e = .returned (.tuple #[.int .i64 n, .nilIface]) ∧ WMem B0 w' MB B (bs ++ cs) ∧ Below B0 w w' ∧ Lib.OthersKept 5 (some B) w w' := by
 refine (Tryz.Buffer_Write_any B0 B (bcells bs) (bcells cs) ⟨g, o, none⟩ n c w h.buf h.base (bcells_oc bs) (by simp; exact hn) hg (fun j u hj => ?_) (bcells_oc cs) (by simp; omega)).mono ?_
 ·simp [bcells] at hj
  obtain ⟨b, hb1, rfl⟩ := hj
  rw [Addr.add_lit]
  exact hc j b hb1
 ·rintro e w' ⟨rfl, h1, h2, h3⟩
  exact ⟨rfl, ⟨h3 _ _ h.mb (by simp; exact h.ne) (by simp), by simpa using h1, h.ne, Nat.le_trans h.base h2.size⟩, h2, h3⟩
theorem setCells_heap (g : Nat) (T : TypeId) : ∀ (vs : List Value) (o : Nat) (w : World) (cs : List Value), w.heap[g]? = some (.cells cs.toArray T (0, 0)) → o + vs.length ≤ cs.length → (w.setCells g o vs).heap[g]? = some (.cells (splice cs o vs).toArray T (0, 0))
 | [], o, w, cs, h, hl => by simpa [World.setCells, splice] using h
 | v :: r, o, w, cs, h, hl => by
  have h1 : (w.setCell ⟨g, o, none⟩ v).heap[g]? = some (.cells (cs.set o v).toArray T (0, 0)) := by
   have := heap_set_same (i := o) h v
   simpa using this
  have h2 := setCells_heap g T r (o + 1) (w.setCell ⟨g, o, none⟩ v) (cs.set o v) h1 (by simp at hl ⊢; omega)
  have hlt : o < cs.length := by simp at hl; omega
  have e : splice (cs.set o v) (o + 1) r = splice cs o (v :: r) := by
   have e0 : cs.set o v = cs.take o ++ v :: cs.drop (o + 1) := by rw [List.set_eq_take_append_cons_drop, if_pos hlt]
   have e1 : (cs.take o).length = o := by simp; omega
   simp only [splice, List.length_cons]
   rw [e0, List.take_append, List.drop_append, e1]
   have e2 : List.drop (o + 1 + r.length) (List.take o cs) = [] := List.drop_eq_nil_of_le (by rw [e1]; omega)
   rw [e2, List.take_of_length_le (by omega), show o + 1 - o = 1 by omega, show o + 1 + r.length - o = r.length + 1 by omega]
   simp
   congr 1
   omega
  rw [e] at h2
  exact h2
theorem keep_setCells {M : Nat → Prop} (g : Nat) (hg : M g) : ∀ (vs : List Value) (o : Nat) (a w : World), Keep M a w → Keep M a (w.setCells g o vs)
 | [], _, _, _, h => h
 | v :: r, o, a, w, h => keep_setCells g hg r (o + 1) a _ (h.set g o (fun _ => hg) v)
theorem isBuffer_other {B0 B : Nat} {bs : List Value} {w w' : World} (h : Lib.IsBuffer 208 5 B0 B bs w) {P : Nat} {cP : Array Value} {TP : TypeId} {fr : Nat × Nat} (hP : w.heap[P]? = some (.cells cP TP fr)) (hT : TP ≠ 5) (hPB : P ≠ B)
  (hk : ∀ k, k < w.heap.size → k ≠ P → w'.heap[k]? = w.heap[k]?) : Lib.IsBuffer 208 5 B0 B bs w' := by
 obtain ⟨hB, v, lr, hb, hrow, hne⟩ := h
 refine ⟨hB, v, lr, (hk B (lt_of_heap hb) (Ne.symm hPB)).trans hb, ⟨hrow.1, ?_⟩, hne⟩
 rcases hrow.2 with ⟨rfl, h0⟩ | ⟨g, cap, cur, rfl, hg, hgg, hr⟩
 ·exact .inl ⟨rfl, h0⟩
 ·refine .inr ⟨g, cap, cur, rfl, hg, (hk g (lt_of_heap hgg) (fun e => ?_)).trans hgg, hr⟩
  subst e
  rw [hP] at hgg
  exact hT (by injection hgg with e; injection e)
theorem WMem.other {B0 : Nat} {w w' : World} {MB B : Nat} {bs : List UInt8} (h : WMem B0 w MB B bs) {P : Nat} {cP : Array Value} {TP : TypeId} {fr : Nat × Nat} (hP : w.heap[P]? = some (.cells cP TP fr)) (hT : TP ≠ 5) (hPB : P ≠ B) (hPM : P ≠ MB)
  (hk : Keep (P = ·) w w') : WMem B0 w' MB B bs :=
 ⟨(hk.block MB (lt_of_heap h.mb) hPM).trans h.mb, isBuffer_other h.buf hP hT hPB (fun k h1 h2 => hk.block k h1 (fun e => h2 e.symm)), h.ne, Nat.le_trans h.base hk.size⟩
theorem Keep.belowP {P B0 : Nat} {w w' : World} (h : Keep (P = ·) w w') (hP : B0 ≤ P) (hb : B0 ≤ w.heap.size) : Below B0 w w' := h.below hb (fun k hk e => by omega)
abbrev binC (MB : Nat) (a : Option Addr) (sc : List UInt8) : List Value := memV MB :: memV MB :: .pointer a :: bcells sc
theorem splice_sc (MB : Nat) (a : Option Addr) (sc cs : List UInt8) : splice (binC MB a sc) 3 (bcells cs) = binC MB a (splice sc 0 cs) := by
 rw [splice_three, bcells_splice]
theorem hmtW {MB B : Nat} : ∀ (w : World), w.cell? ⟨MB, 0, none⟩ = some (.pointer (some ⟨B, 0, none⟩)) → (method 597 80 (.pointer (some ⟨MB, 0, none⟩)) "Write").run Tryz.prog w = .ok (73, .pointer (some ⟨B, 0, none⟩)) w := by
 intro w h
 have := method_mem h 596 "Write" 73 mem_Write
 simpa only [Nat.reduceAdd] using this
theorem hnaW (MB : Nat) : ∀ (w : World), (nilAhead 597 80 (.pointer (some ⟨MB, 0, none⟩)) "Write").run Tryz.prog w = .ok (some false) w := by
 intro w
 have := nilAhead_mem w MB 596 "Write" 73 mem_Write
 simpa only [Nat.reduceAdd] using this
set_option maxRecDepth 100000 in
theorem bin_writeI32 {B0 : Nat} {w : World} {P MB B : Nat} {a : Option Addr} {sc bs : List UInt8} (h : WMem B0 w MB B bs) (hP : w.heap[P]? = some (.cells (binC MB a sc).toArray 264 (0, 0))) (hsc : sc.length = 64) (hPB : P ≠ B) (hPM : P ≠ MB) (hB : B0 ≤ P) (x : Nat) (hx : x ≤ 2147483647) (hl : bs.length + 4 ≤ 140737488355328) :
  Calls Tryz.prog 328 #[.pointer (some ⟨P, 0, none⟩), ctxV, .int .i32 x] w fun e w' => e = .returned .nilIface ∧ WMem B0 w' MB B (bs ++ Lib.beBytes 4 x) ∧ Below B0 w w' := by
 have hmt := @hmtW MB B
 have hna := hnaW MB
 have hcell : ∀ i, i < 64 → ∃ v, w.cell? ⟨P, 3 + i, none⟩ = some v := fun i hi => by
  rw [cellAt hP]
  have : 3 + i < (binC MB a sc).toArray.size := by simp; omega
  exact ⟨_, Array.getElem?_eq_getElem this⟩
 obtain ⟨x0, h0⟩ := hcell 0 (by omega)
 obtain ⟨x1, h1⟩ := hcell 1 (by omega)
 obtain ⟨x2, h2⟩ := hcell 2 (by omega)
 obtain ⟨x3, h3⟩ := hcell 3 (by omega)
 have hbl : (Lib.byteCells (Lib.beBytes 4 x)).length = 4 := by simp [Lib.byteCells, Lib.beBytes, Lib.leBytes_length]
 have hb2 : (Lib.beBytes 4 x).length = 4 := by simp [Lib.beBytes, Lib.leBytes_length]
 have hf : ∀ i, w.frozen? ⟨P, i, none⟩ = false := fun i => freeAt hP i
 have hA := setCells_heap P 264 (Lib.byteCells (Lib.beBytes 4 x)) 3 (w.alloc (.cells #[] 448)) (binC MB a sc) ((Below.heap_alloc _ _ _ (lt_of_heap hP)).trans hP) (by rw [hbl]; simp; omega)
 have hk1 : Keep (P = ·) w ((w.alloc (.cells #[] 448)).setCells P 3 (Lib.byteCells (Lib.beBytes 4 x))) := keep_setCells P rfl _ _ _ _ ((Keep.refl _ w).alloc _)
 have hw1 := h.other hP (by decide) hPB hPM hk1
 have H1 := hdd (hk1.belowP hB h.base)
 have hA : ((w.alloc (.cells #[] 448)).setCells P 3 (Lib.byteCells (Lib.beBytes 4 x))).heap[P]? = some (.cells (binC MB a (splice sc 0 (Lib.beBytes 4 x))).toArray 264 (0, 0)) := by
  rw [← splice_sc]; exact hA
 have hs2 : (splice sc 0 (Lib.beBytes 4 x)).take 4 = Lib.beBytes 4 x := by simp [splice, hb2]
 have c0 : w.cell? ⟨P, 0, none⟩ = some (memV MB) := by simp [cellAt hP]
 have d0 : ((w.alloc (.cells #[] 448)).setCells P 3 (Lib.byteCells (Lib.beBytes 4 x))).cell? ⟨P, 0, none⟩ = some (memV MB) := by simp [cellAt hA]
 have HA := hdd hA
 have HS2 := hdd hs2
 have HB2 := hdd hb2
 have HF := hdd hf
 clear hA hs2 hb2 hbl hf hk1 hcell
 go_enter Tryz.func328, Tryz.ntmps328
 go_wp2_with fail
 refine (Tryz.binary_BE_PutUint32 P 3 4 64 x (by omega) x0 x1 x2 x3 w (by omega) h0 h1 h2 h3 (HF.out _) (HF.out _) (HF.out _) (HF.out _)).mono ?_
 rintro e w1 ⟨rfl, rfl⟩
 generalize (w.alloc (.cells #[] 448)).setCells P 3 (Lib.byteCells (Lib.beBytes 4 x)) = w1 at *
 have hmb : w1.cell? ⟨MB, 0, none⟩ = some (.pointer (some ⟨B, 0, none⟩)) := by simp [cellAt hw1.mb 0]
 clear h0 h1 h2 h3
 go_wp2_with fail
 refine (wmem_write (cs := Lib.beBytes 4 x) hw1 P 3 4 64 hPB HB2.out (fun j b hj => ?_) hl).mono ?_
 ·rw [cellAt HA.out]
  have hj2 : (splice sc 0 (Lib.beBytes 4 x))[j]? = some b := by
   rw [← HS2.out, List.getElem?_take] at hj
   split at hj
   ·exact hj
   ·cases hj
  simp [binC, bcells, List.getElem?_cons, Nat.add_comm 3 j, hj2]
 rintro e w2 ⟨rfl, hw2, hb2, _⟩
 go_wp2_with fail
 refine (newPExc_nil _).mono ?_
 rintro e w3 ⟨rfl, rfl⟩
 go_wp2_with fail
 go_ret
 exact ⟨rfl, hw2, H1.out.trans hb2⟩
theorem below_drew (B0 : Nat) (w : World) : Below B0 w w.drew := ⟨rfl, rfl, rfl, Nat.le_refl _, fun _ _ => rfl⟩
theorem WMem.drew {B0 : Nat} {w : World} {MB B : Nat} {bs : List UInt8} (h : WMem B0 w MB B bs) : WMem B0 w.drew MB B bs := ⟨h.mb, h.buf, h.ne, h.base⟩
theorem zigzag_m3 (p : Value) (w : World) : Calls Tryz.prog 265 #[p, .int .i32 (-3)] w fun e w' => e = .returned (.int .i32 5) ∧ w = w' := by
 have hx : bits BinOp.xor IntKind.i32 (-6) (-1) = 5 := by decide +kernel
 go_enter Tryz.func265, Tryz.ntmps265
 go_wp2
 go_ret
 exact ⟨rfl, rfl⟩
set_option maxRecDepth 100000 in
theorem cmp_varint5 {B0 : Nat} {w : World} {P MB B : Nat} {a : Option Addr} (h : WMem B0 w MB B []) (hP : w.heap[P]? = some (cmpO MB a)) (hPB : P ≠ B) (hPM : P ≠ MB) (hB : B0 ≤ P) :
  Calls Tryz.prog 283 #[.pointer (some ⟨P, 0, none⟩), .int .i32 5] w fun e w' => e = .returned (.tuple #[.int .i64 1, .nilIface]) ∧ WMem B0 w' MB B [5] ∧ Below B0 w w' := by
 have hmt := @hmtW MB B
 have hna := hnaW MB
 have ha : bits BinOp.and IntKind.i32 5 (-128) = 0 := by decide +kernel
 have c0 : w.cell? ⟨P, 0, none⟩ = some (memV MB) := by simp [cellAt hP]
 have c10 : w.cell? ⟨P, 10, none⟩ = some (.int .u8 0) := by simp [cellAt hP]
 have f10 := freeAt hP 10
 have hk1 : Keep (P = ·) w (w.setCell ⟨P, 10, none⟩ (.int .u8 5)) := (Keep.refl _ w).set P 10 (fun _ => rfl) _
 have hw1 := h.other hP (by decide) hPB hPM hk1
 have H1 := hdd (hk1.belowP hB h.base)
 have hA := heap_set_same (i := 10) hP (.int .u8 5)
 have hA10 : (w.setCell ⟨P, 10, none⟩ (.int .u8 5)).cell? ⟨P, 10, none⟩ = some (.int .u8 5) := by rw [cellAt hA]; rfl
 have hmb : w.cell? ⟨MB, 0, none⟩ = some (.pointer (some ⟨B, 0, none⟩)) := by simp [cellAt h.mb 0]
 have HA10 := hdd hA10
 have HA := hdd hA
 clear hA hk1 hA10
 go_enter Tryz.func283, Tryz.ntmps283
 go_wp2_with fail
 refine wp_loop_rounds 1 ?_
 rw [rounds_succ]
 go_wp2_with fail
 have d0 : (w.setCell ⟨P, 10, none⟩ (.int .u8 5)).cell? ⟨P, 0, none⟩ = some (memV MB) := by rw [cellAt HA.out]; rfl
 clear c0 c10 f10 hmb
 generalize w.setCell ⟨P, 10, none⟩ (.int .u8 5) = w1 at *
 have hmb : w1.cell? ⟨MB, 0, none⟩ = some (.pointer (some ⟨B, 0, none⟩)) := by simp [cellAt hw1.mb 0]
 go_region_with (go_at_call 73; refine (wmem_write (w := w1.drew) (cs := [5]) hw1.drew P 10 1 64 hPB rfl (fun j b hj => by cases j with | zero => (simp at hj; subst hj; exact HA10.out) | succ j => (simp at hj)) (by simp)).mono ?_; rintro e w2 ⟨rfl, hw2, hb2, _⟩)
 all_goals
  go_wp2_with fail
  go_ret2
  exact ⟨rfl, hw2, H1.out.trans (Below.trans (below_drew B0 w1) hb2)⟩
set_option maxRecDepth 100000 in
theorem cmp_writeI32 {B0 : Nat} {w : World} {P MB B : Nat} {a : Option Addr} (h : WMem B0 w MB B []) (hP : w.heap[P]? = some (cmpO MB a)) (hPB : P ≠ B) (hPM : P ≠ MB) (hB : B0 ≤ P) :
  Calls Tryz.prog 251 #[.pointer (some ⟨P, 0, none⟩), ctxV, .int .i32 (-3)] w fun e w' => e = .returned .nilIface ∧ WMem B0 w' MB B [5] ∧ Below B0 w w' := by
 go_enter Tryz.func251, Tryz.ntmps251
 go_wp2_with fail
 refine (zigzag_m3 _ _).mono ?_
 rintro e w1 ⟨rfl, rfl⟩
 go_wp2_with fail
 refine (cmp_varint5 h hP hPB hPM hB).mono ?_
 rintro e w2 ⟨rfl, hw2, hb2⟩
 go_wp2_with fail
 refine (newPExc_nil _).mono ?_
 rintro e w3 ⟨rfl, rfl⟩
 go_wp2_with fail
 go_ret
 exact ⟨rfl, hw2, hb2⟩
abbrev valC (T N : Int) (S : Value) (K E : Int) (IDs L : Value) : Array Value := #[.int .i64 T, .int .i64 N, S, .int .i64 K, .int .i64 E, IDs, L]
abbrev valI (N : Int) : Array Value := valC 8 N nilB 0 0 (.slice none 0 0) (.slice none 0 0)
theorem na_bin (P : Nat) (w : World) : (nilAhead 597 158 (.pointer (some ⟨P, 0, none⟩)) "WriteI32").run Tryz.prog w = .ok (some false) w := by kernel_rfl
theorem na_cmp (P : Nat) (w : World) : (nilAhead 597 154 (.pointer (some ⟨P, 0, none⟩)) "WriteI32").run Tryz.prog w = .ok (some false) w := by kernel_rfl
theorem be258 : [] ++ Lib.beBytes 4 258 = [0, 0, 1, 2] := by decide
theorem WMem.fresh {B0 : Nat} {w w' : World} {MB B : Nat} {bs : List UInt8} (h : WMem B0 w MB B bs) (k : Keep (fun _ => False) w w') : WMem B0 w' MB B bs := by
 obtain ⟨hm, ⟨hB, v, lr, hb, hrow, hne⟩, h2, h3⟩ := h
 refine ⟨(k.block MB (lt_of_heap hm) id).trans hm, ⟨hB, v, lr, (k.block B (lt_of_heap hb) id).trans hb, ⟨hrow.1, ?_⟩, hne⟩, h2, Nat.le_trans h3 k.size⟩
 rcases hrow.2 with ⟨rfl, h0⟩ | ⟨g, cap, cur, rfl, hg, hgg, hr⟩
 ·exact .inl ⟨rfl, h0⟩
 ·exact .inr ⟨g, cap, cur, rfl, hg, (k.block g (lt_of_heap hgg) id).trans hgg, hr⟩
set_option maxRecDepth 100000 in
theorem put_bin {B0 : Nat} {w : World} {P MB B : Nat} {a : Option Addr} {sc : List UInt8} (h : WMem B0 w MB B []) (hP : w.heap[P]? = some (.cells (binC MB a sc).toArray 264 (0, 0))) (hsc : sc.length = 64) (hPB : P ≠ B) (hPM : P ≠ MB) (hB : B0 ≤ P) :
  Calls Tryz.prog 65 #[.iface 158 (.pointer (some ⟨P, 0, none⟩)), .agg (valI 258)] w fun e w' => e = .returned .nilIface ∧ WMem B0 w' MB B [0, 0, 1, 2] ∧ Below B0 w w' := by
 have h8 : ty8 8 = 8 := by decide
 have hna := na_bin P
 have hk0 : Keep (fun _ => False) w (w.alloc (.cells (valI 258) 45 (0, 0))) := (Keep.refl _ w).alloc _
 go_enter Tryz.func65, Tryz.ntmps65
 go_wp2_with fail
 refine (typ_at 8 _).mono ?_
 rintro e w1 ⟨rfl, rfl⟩
 rw [h8]
 go_wp2_with fail
 have hc1 : (w.alloc (.cells (valI 258) 45 (0, 0))).cell? ⟨w.heap.size, 1, none⟩ = some (.int .i64 258) := (cellAt (heap_alloc_new w _) 1).trans rfl
 generalize hn : w.heap.size = n at *
 generalize w.alloc (.cells (valI 258) 45 (0, 0)) = wv at *
 have hwv := h.fresh hk0
 have hPv := (hk0.block P (lt_of_heap hP) id).trans hP
 have H0 := hdd (hk0.below (Nat.le_trans h.base (Nat.le_refl _)) (fun _ _ => id))
 have HN := hdd hn
 clear hn
 go_region_with (first | (go_at_call 37; refine (ctx_at _).mono ?_; rintro e w' ⟨rfl, rfl⟩) | (go_at_call 328; refine (bin_writeI32 (w := wv.drew) hwv.drew hPv hsc hPB hPM hB 258 (by omega) (by simp)).mono ?_; rintro e w2 ⟨rfl, hw2, hb2⟩))
 all_goals
  go_wp2_with fail
  go_ret
  exact ⟨rfl, by have h9 := hw2; rw [be258] at h9; exact h9, H0.out.trans ((below_drew B0 wv).trans hb2)⟩
set_option maxRecDepth 100000 in
theorem put_cmp {B0 : Nat} {w : World} {P MB B : Nat} {a : Option Addr} (h : WMem B0 w MB B []) (hP : w.heap[P]? = some (cmpO MB a)) (hPB : P ≠ B) (hPM : P ≠ MB) (hB : B0 ≤ P) :
  Calls Tryz.prog 65 #[.iface 154 (.pointer (some ⟨P, 0, none⟩)), .agg (valI (-3))] w fun e w' => e = .returned .nilIface ∧ WMem B0 w' MB B [5] ∧ Below B0 w w' := by
 have h8 : ty8 8 = 8 := by decide
 have hna := na_cmp P
 have hk0 : Keep (fun _ => False) w (w.alloc (.cells (valI (-3)) 45 (0, 0))) := (Keep.refl _ w).alloc _
 go_enter Tryz.func65, Tryz.ntmps65
 go_wp2_with fail
 refine (typ_at 8 _).mono ?_
 rintro e w1 ⟨rfl, rfl⟩
 rw [h8]
 go_wp2_with fail
 have hc1 : (w.alloc (.cells (valI (-3)) 45 (0, 0))).cell? ⟨w.heap.size, 1, none⟩ = some (.int .i64 (-3)) := (cellAt (heap_alloc_new w _) 1).trans rfl
 generalize hn : w.heap.size = n at *
 generalize w.alloc (.cells (valI (-3)) 45 (0, 0)) = wv at *
 have hwv := h.fresh hk0
 have hPv := (hk0.block P (lt_of_heap hP) id).trans hP
 have H0 := hdd (hk0.below (Nat.le_trans h.base (Nat.le_refl _)) (fun _ _ => id))
 have HN := hdd hn
 clear hn
 go_region_with (first | (go_at_call 37; refine (ctx_at _).mono ?_; rintro e w' ⟨rfl, rfl⟩) | (go_at_call 251; refine (cmp_writeI32 (w := wv.drew) hwv.drew hPv hPB hPM hB).mono ?_; rintro e w2 ⟨rfl, hw2, hb2⟩))
 all_goals
  go_wp2_with fail
  go_ret
  exact ⟨rfl, hw2, H0.out.trans ((below_drew B0 wv).trans hb2)⟩
theorem wmem_bytes {B0 : Nat} {w : World} {MB B : Nat} {bs : List UInt8} (h : WMem B0 w MB B bs) (hne : bs ≠ []) (hl : bs.length ≤ 140737488355328) :
  Calls Tryz.prog 56 #[.pointer (some ⟨B, 0, none⟩)] w fun e w' => ∃ v n, e = .returned v ∧ BytesAt (fun _ => True) w' v bs ∧ w.drewN n = w' := by
 obtain ⟨hm, ⟨hB, v, lr, hb, hrow, hvb⟩, h2, h3⟩ := h
 have hln : (bcells bs).length = bs.length := by simp
 rw [hln] at hrow
 have hb1 : BytesAt (fun _ => True) w v bs := (BytesAt.row hrow rfl hl).weak (fun _ _ _ => trivial)
 rcases hrow.2 with ⟨rfl, h0⟩ | ⟨g, cap, cur, rfl, hg, hgg, hnc, hcm, hr⟩
 ·exact absurd (List.eq_nil_of_length_eq_zero h0) hne
 ·obtain ⟨L, hL⟩ : ∃ L, bs.length = L := ⟨_, rfl⟩
  have hL0 : 0 < L := by have := List.length_pos_iff.2 hne; omega
  rw [hL] at hb hl hnc
  have c0 := cellAt hb 0
  have c1 := cellAt hb 1
  have hcap : ¬ cap = 0 := by omega
  simp at c0 c1
  have HL := hdd hL
  have HB := hdd hb1
  unfold maxLen at hcm
  clear hL hb1 hrow hr hne hln
  go_enter Tryz.func56, Tryz.ntmps56
  go_wp2_with fail
  go_quiet (fail)
  go_wp2
  go_ret
  exact ⟨_, _, rfl, by have h9 := HB.out; rw [HL.out] at h9; exact h9.keep ((Keep.refl (fun _ => False) w).drewN _) (fun _ _ => id), rfl⟩
abbrev plainC : Cfg := ⟨true, 0, 0, 0, false, false, 0⟩
abbrev confC (pr : Int) (c : Cfg) : Array Value := #[.int .i64 pr, .bool c.plain, .bool c.sr, .bool c.sw, .int .i32 c.msg, .int .i32 c.cont, .int .i32 c.frame]
theorem conf_cells7 {w : World} {g : Nat} {v0 v1 v2 v3 v4 v5 v6 : Value} {T : TypeId} (h : w.heap[g]? = some (.cells #[v0, v1, v2, v3, v4, v5, v6] T (0, 0))) : w.cell? ⟨g, 0, none⟩ = some v0 ∧ w.cell? ⟨g, 1, none⟩ = some v1 ∧ w.cell? ⟨g, 2, none⟩ = some v2 ∧ w.cell? ⟨g, 3, none⟩ = some v3 ∧ w.cell? ⟨g, 4, none⟩ = some v4 ∧ w.cell? ⟨g, 5, none⟩ = some v5 ∧ w.cell? ⟨g, 6, none⟩ = some v6 := by
 simp [cellAt h]
theorem below_drewN (B0 : Nat) (w : World) (k : Nat) : Below B0 w (w.drewN k) := ⟨rfl, rfl, rfl, Nat.le_refl _, fun _ _ => rfl⟩
theorem wmem_new (w : World) (B0 : Nat) (hB : B0 ≤ w.heap.size) : WMem B0 ((w.alloc (bufO 0)).alloc (memO w.heap.size)) (w.heap.size + 1) w.heap.size [] := by
 have hb0 : ((w.alloc (bufO 0)).alloc (memO w.heap.size)).heap[w.heap.size]? = some (bufO 0) := (Below.heap_alloc _ _ _ (by simp)).trans (heap_alloc_new w _)
 exact ⟨heap_alloc_at (by simp) _, ⟨hB, nilB, 0, hb0, World.ownsRow_nil _ _ _ _, by simp [Value.ownBlock]⟩, by omega, by simp; omega⟩
set_option maxRecDepth 100000 in
theorem impl_put_bin (w : World) :
  Calls Tryz.prog 32 #[.agg (confC 0 plainC), .agg (valI 258)] w fun e w' => ∃ v, e = .returned (.tuple #[v, .int .i64 0]) ∧ BytesAt (fun _ => True) w' v [0, 0, 1, 2] ∧ Below w.heap.size w w' := by
 have hk0 : Keep (fun _ => False) w ((w.alloc (.cells (confC 0 plainC) 23 (0, 0))).alloc (.cells (valI 258) 45 (0, 0))) := ((Keep.refl _ w).alloc _).alloc _
 have hc0 : ((w.alloc (.cells (confC 0 plainC) 23 (0, 0))).alloc (.cells (valI 258) 45 (0, 0))).heap[w.heap.size]? = some (.cells (confC 0 plainC) 23 (0, 0)) := (Below.heap_alloc _ _ _ (by simp)).trans (heap_alloc_new w _)
 have hv0 : ((w.alloc (.cells (confC 0 plainC) 23 (0, 0))).alloc (.cells (valI 258) 45 (0, 0))).heap[w.heap.size + 1]? = some (.cells (valI 258) 45 (0, 0)) := heap_alloc_at (by simp) _
 go_enter Tryz.func32, Tryz.ntmps32
 go_wp2_with fail
 obtain ⟨n, hn⟩ : ∃ n, w.heap.size = n := ⟨_, rfl⟩
 rw [hn] at hc0 hv0 ⊢
 generalize (w.alloc (.cells (confC 0 plainC) 23 (0, 0))).alloc (.cells (valI 258) 45 (0, 0)) = w1 at *
 have HN := hdd hn
 have HC0 := hdd hc0
 have HV0 := hdd hv0
 clear hn hc0 hv0
 refine (new_mem w1).mono ?_
 rintro e w2 ⟨rfl, rfl⟩
 have hw2 := wmem_new w1 n (by have := HN.out; have := hk0.size; omega)
 have hk2 : Keep (fun _ => False) w1 ((w1.alloc (bufO 0)).alloc (memO w1.heap.size)) := ((Keep.refl _ w1).alloc _).alloc _
 have hs2 : ((w1.alloc (bufO 0)).alloc (memO w1.heap.size)).heap.size = w1.heap.size + 2 := by simp
 obtain ⟨m, hm⟩ : ∃ m, w1.heap.size = m := ⟨_, rfl⟩
 rw [hm] at hw2 hk2 hs2 ⊢
 generalize (w1.alloc (bufO 0)).alloc (memO m) = w2 at *
 have HM := hdd hm
 have HS2 := hdd hs2
 have hc2 := (hk2.block n (lt_of_heap HC0.out) id).trans HC0.out
 have hv2 := (hk2.block (n + 1) (lt_of_heap HV0.out) id).trans HV0.out
 obtain ⟨c0, c1, c2, c3, c4, c5, c6⟩ := conf_cells7 hc2
 obtain ⟨v0, v1, v2, v3, v4, v5, v6⟩ := conf_cells7 hv2
 have HC2 := hdd hc2
 have HV2 := hdd hv2
 clear hm hs2 hc2 hv2
 go_wp2_with fail
 go_region_with (first | (go_at_call 35; refine (protocol_bin 0 (by decide) plainC (m + 1) w2.drew).mono ?_; rintro e w3 ⟨P, a, rfl, hP, hPb, hcfg, hk3⟩; have hv3 := (hk3.block (n + 1) (lt_of_heap HV2.out) id).trans HV2.out; obtain ⟨x0, x1, x2, x3, x4, x5, x6⟩ := conf_cells7 hv3; have HPB := hdd hPb; clear hv3 hPb hcfg) | (go_at_call 65; refine (put_bin (B0 := n) (w := w3) (hw2.drew.fresh hk3) HPB.out (by simp) (by have := HS2.out; simp at hP; omega) (by have := HS2.out; simp at hP; omega) (by have := HS2.out; have := HM.out; have := hk0.size; have := HN.out; simp at hP; omega)).mono ?_; rintro e w4 ⟨rfl, hw4, hb4⟩))
 all_goals
  have hmb : w4.cell? ⟨m + 1, 0, none⟩ = some (.pointer (some ⟨m, 0, none⟩)) := by simp [cellAt hw4.mb 0]
  clear v0 v1 v2 v3 v4 v5 v6 c0 c1 c2 c3 c4 c5 c6
  go_wp2_with fail
  refine (wmem_bytes hw4 (by simp) (by simp)).mono ?_
  rintro e w5 ⟨v, k, rfl, hv5, rfl⟩
  have HV5 := hdd hv5
  clear hv5
  go_wp2_with fail
  refine (kind_nil _).mono ?_
  rintro e w6 ⟨rfl, rfl⟩
  go_wp2_with fail
  go_ret2
  have hfin : Below n w w3 := ((hk0.then hk2).drew.then hk3).below (by have := HN.out; omega) (fun _ _ => id)
  exact ⟨v, rfl, HV5.out, by rw [HN.out]; exact (hfin.trans hb4).trans (below_drewN n w4 k)⟩
set_option maxRecDepth 100000 in
theorem impl_put_cmp (w : World) :
  Calls Tryz.prog 32 #[.agg (confC 1 plainC), .agg (valI (-3))] w fun e w' => ∃ v, e = .returned (.tuple #[v, .int .i64 0]) ∧ BytesAt (fun _ => True) w' v [5] ∧ Below w.heap.size w w' := by
 have hk0 : Keep (fun _ => False) w ((w.alloc (.cells (confC 1 plainC) 23 (0, 0))).alloc (.cells (valI (-3)) 45 (0, 0))) := ((Keep.refl _ w).alloc _).alloc _
 have hc0 : ((w.alloc (.cells (confC 1 plainC) 23 (0, 0))).alloc (.cells (valI (-3)) 45 (0, 0))).heap[w.heap.size]? = some (.cells (confC 1 plainC) 23 (0, 0)) := (Below.heap_alloc _ _ _ (by simp)).trans (heap_alloc_new w _)
 have hv0 : ((w.alloc (.cells (confC 1 plainC) 23 (0, 0))).alloc (.cells (valI (-3)) 45 (0, 0))).heap[w.heap.size + 1]? = some (.cells (valI (-3)) 45 (0, 0)) := heap_alloc_at (by simp) _
 go_enter Tryz.func32, Tryz.ntmps32
 go_wp2_with fail
 obtain ⟨n, hn⟩ : ∃ n, w.heap.size = n := ⟨_, rfl⟩
 rw [hn] at hc0 hv0 ⊢
 generalize (w.alloc (.cells (confC 1 plainC) 23 (0, 0))).alloc (.cells (valI (-3)) 45 (0, 0)) = w1 at *
 have HN := hdd hn
 have HC0 := hdd hc0
 have HV0 := hdd hv0
 clear hn hc0 hv0
 refine (new_mem w1).mono ?_
 rintro e w2 ⟨rfl, rfl⟩
 have hw2 := wmem_new w1 n (by have := HN.out; have := hk0.size; omega)
 have hk2 : Keep (fun _ => False) w1 ((w1.alloc (bufO 0)).alloc (memO w1.heap.size)) := ((Keep.refl _ w1).alloc _).alloc _
 have hs2 : ((w1.alloc (bufO 0)).alloc (memO w1.heap.size)).heap.size = w1.heap.size + 2 := by simp
 obtain ⟨m, hm⟩ : ∃ m, w1.heap.size = m := ⟨_, rfl⟩
 rw [hm] at hw2 hk2 hs2 ⊢
 generalize (w1.alloc (bufO 0)).alloc (memO m) = w2 at *
 have HM := hdd hm
 have HS2 := hdd hs2
 have hc2 := (hk2.block n (lt_of_heap HC0.out) id).trans HC0.out
 have hv2 := (hk2.block (n + 1) (lt_of_heap HV0.out) id).trans HV0.out
 obtain ⟨c0, c1, c2, c3, c4, c5, c6⟩ := conf_cells7 hc2
 obtain ⟨v0, v1, v2, v3, v4, v5, v6⟩ := conf_cells7 hv2
 have HC2 := hdd hc2
 have HV2 := hdd hv2
 clear hm hs2 hc2 hv2
 go_wp2_with fail
 go_region_with (first | (go_at_call 35; refine (protocol_cmp plainC (m + 1) w2.drew).mono ?_; rintro e w3 ⟨P, a, rfl, hP, hPb, hcfg, hk3⟩; have hv3 := (hk3.block (n + 1) (lt_of_heap HV2.out) id).trans HV2.out; obtain ⟨x0, x1, x2, x3, x4, x5, x6⟩ := conf_cells7 hv3; have HPB := hdd hPb; clear hv3 hPb hcfg) | (go_at_call 65; refine (put_cmp (B0 := n) (w := w3) (hw2.drew.fresh hk3) HPB.out (by have := HS2.out; simp at hP; omega) (by have := HS2.out; simp at hP; omega) (by have := HS2.out; have := HM.out; have := hk0.size; have := HN.out; simp at hP; omega)).mono ?_; rintro e w4 ⟨rfl, hw4, hb4⟩))
 all_goals
  have hmb : w4.cell? ⟨m + 1, 0, none⟩ = some (.pointer (some ⟨m, 0, none⟩)) := by simp [cellAt hw4.mb 0]
  clear v0 v1 v2 v3 v4 v5 v6 c0 c1 c2 c3 c4 c5 c6
  go_wp2_with fail
  refine (wmem_bytes hw4 (by simp) (by simp)).mono ?_
  rintro e w5 ⟨v, k, rfl, hv5, rfl⟩
  have HV5 := hdd hv5
  clear hv5
  go_wp2_with fail
  refine (kind_nil _).mono ?_
  rintro e w6 ⟨rfl, rfl⟩
  go_wp2_with fail
  go_ret2
  have hfin : Below n w w3 := ((hk0.then hk2).drew.then hk3).below (by have := HN.out; omega) (fun _ _ => id)
  exact ⟨v, rfl, HV5.out, by rw [HN.out]; exact (hfin.trans hb4).trans (below_drewN n w4 k)⟩
end Go.Proofs.YtjekbomlpcdojaaGreatDoor
