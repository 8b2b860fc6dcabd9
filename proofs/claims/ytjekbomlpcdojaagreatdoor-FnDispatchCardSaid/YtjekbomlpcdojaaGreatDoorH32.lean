/- Part 32 of the proof: SpC7, SpC8, SpC9. -/
import Derived.Test.YtjekbomlpcdojaaGreatDoorH31
import Derived.Test.YtjekbomlpcdojaaGreatDoorH15
import Derived.Test.YtjekbomlpcdojaaGreatDoorH25
set_option linter.unusedVariables false
set_option linter.unusedSimpArgs false
set_option linter.unusedSectionVars false
set_option maxHeartbeats 16000000
namespace Go.Proofs.YtjekbomlpcdojaaGreatDoor
open Go Go.RowKit
theorem i8_wrap_bd (n : Int) : -128 ≤ IntKind.i8.wrap n ∧ IntKind.i8.wrap n ≤ 127 := by
 have e : IntKind.i8.wrap n = if n % 256 ≥ 128 then n % 256 - 256 else n % 256 := by
  simp [IntKind.wrap, IntKind.bits, IntKind.signed]
 rw [e]
 split <;> omega
section
variable {R TB DT : Nat} {c : Cfg} {n : Int} {s s2 s' : Cmp.St} {fv : Value} {v v2 : Int} {w w1 w' : World}
theorem RdC.setP (h : RdC R TB DT c n s fv v w) : RdC R TB DT c n { s with pend := false } fv v (w.setCell ⟨R, 11, none⟩ (.bool false)) :=
 h.setR ((Keep.refl _ w).set R 11 (fun _ => rfl) _) rfl rfl (by have := heap_set_same (i := 11) h.p.blk (.bool false); simpa using this) (fun e => by cases e) h.last16 h.neD
theorem gc_ret_new {f : Func} {slot : Nat} {a : Act} {U : Nat} {k x t kt size id nn T KT SZ ID N : Int} {S' : Value} {S : List UInt8} (hf : f.results = #[.cell slot 75]) (hd : a.defers = []) (ha : a.tmps[slot]?.getD undef = .pointer (some ⟨U, 0, none⟩))
  (hU : w1.heap.size = U) (h0 : RdC R TB DT c n s fv v w) (h1 : RdC R TB DT c n s2 fv v2 w1) (hk : Keep (RT R TB) w w1) (hs : ∃ a m cc, S' = .slice a m cc)
  (hx : Sk k x) (hv : x = 0 → s2 = s' ∧ t = T ∧ kt = KT ∧ size = SZ ∧ id = ID ∧ nn = N ∧ ∀ w2, BytesAt (w.heap.size ≤ ·) w2 S' S) : bodyPost Tryz.prog f (GC R TB DT c n s fv w k s' T KT SZ ID N S) Exit.ret a (w1.alloc (.cells (gotA x t kt size id nn S') 75)) := by
 have hkU : Keep (fun _ => False) w1 (w1.alloc (.cells (gotA x t kt size id nn S') 75)) := (Keep.refl _ w1).alloc _
 refine ret_got (U := U) hf hd ha (by rw [← hU]; exact heap_alloc_new w1 _) ⟨_, _, _, _, _, _, _, rfl, hs, hx, ⟨s2, v2, h1.fresh hkU, fun hz => (hv hz).1⟩, hk.trans hkU (fun i hi e => e.elim), fun hz => ?_⟩
 obtain ⟨_, q1, q2, q3, q4, q5, q6⟩ := hv hz
 exact ⟨q1, q2, q3, q4, q5, q6 _⟩
set_option maxRecDepth 100000 in
theorem c_bool (h : RdC R TB DT c n s fv v w) :
  Calls Tryz.prog 144 #[.pointer (some ⟨R, 0, none⟩)] w (GC R TB DT c n s fv w (Cmp.scK c 2 s) (Cmp.scS 2 s) 0 0 0 0 (Cmp.scN 2 s) []) := by
 obtain ⟨rem, last, outer, pend, val⟩ := s
 obtain ⟨c9, c10, c11, c12⟩ := h.ccells
 cases pend with
 | true =>
  have hv0 := h.val rfl
  simp only [] at hv0
  have HV0 := hdd hv0
  clear hv0
  have hTU := h.ltT
  have hRU := h.ltR
  have HH := hdd h
  have f11 := cell_free h.p.blk 11
  go_enter Tryz.func144, Tryz.ntmps144
  go_wp2_with fail
  refine gc_ret_new (U := w.heap.size) Tryz.results144 rfl rfl (by simp) HH.out HH.out.setP ((Keep.refl (RT R TB) w).set R 11 (fun _ => .inl rfl) _) ⟨_, _, _, rfl⟩ (.inr (.inr ?_)) (fun _ => ⟨?_, rfl, rfl, rfl, rfl, ?_, fun w' => BytesAt.nil _ w'⟩)
  ·simp [Cmp.scK]
  ·simp [Cmp.scS, Cmp.scR]
  ·rw [HV0.out]; simp [Cmp.scN]
 | false =>
  have hk0 : Keep (fun _ => False) w (w.alloc (.cells zGot 75)) := (Keep.refl _ w).alloc _
  have hU0 := heap_alloc_new w (.cells zGot 75)
  have hTU := h.ltT
  have hRU := h.ltR
  have HH := hdd h
  go_enter Tryz.func144, Tryz.ntmps144
  go_wp2_with fail
  have hsA : (w.alloc (.cells zGot 75)).heap.size = w.heap.size + 1 := by simp
  generalize w.alloc (.cells zGot 75) = wA at *
  obtain ⟨U, hU⟩ : ∃ U, w.heap.size = U := ⟨_, rfl⟩
  rw [hU] at hU0 hTU hRU hsA ⊢
  have HUS := hdd hU
  clear hU
  have hA := h.fresh hk0
  obtain ⟨c9, c10, c11, c12⟩ := hA.ccells
  go_wp2_with fail
  refine (rd_byte hA.p).mono ?_
  rintro e w1 ⟨b0, x, rfl, hx, hp1, hk1, hb⟩
  have h1 := hA.took hp1 hk1
  have hk01 : Keep (RT R TB) w w1 := (hk0.weak (fun _ _ x => x.elim)).then (hk1.weak (fun _ _ x => .inr x))
  have HU := hdd ((hk1.block U (lt_of_heap hU0) (by omega)).trans hU0)
  have HK := hdd hk01
  have H1 := hdd h1
  obtain ⟨u0, u1, u2, u3, u4, u5, u6⟩ := got_cells HU.out
  obtain ⟨f0, f1, f2, f3, f4, f5, f6⟩ := got_free HU.out
  clear hk01 h1 hU0 hp1
  cases rem with
  | nil =>
   have hx1 : x = -1 := by rcases hx with ⟨hx, _⟩ | ⟨_, hx⟩; exact hx; exact absurd rfl hx
   subst hx1
   clear hx hb
   go_wp2_with fail
   exact gc_ret (U := U) Tryz.results144 rfl rfl (Nat.le_of_eq HUS.out) HH.out H1.out HK.out HU.out ⟨_, _, _, rfl⟩ (.inr (.inl ⟨rfl, by simp [Cmp.scK, endK], Cmp.scK_lt _ _ _⟩)) (fun hz => by cases hz)
  | cons b r =>
   have hx1 : x = 0 := by rcases hx with ⟨_, hx⟩ | ⟨hx, _⟩; cases hx; exact hx
   subst hx1
   have hb0 := hb b r rfl
   subst hb0
   have hb8 := b.toNat_lt
   clear hx hb
   by_cases h1 : b.toNat = 1
   ·have h1i : (b.toNat : Int) = 1 := by omega
    have HB := hdd (show b = 1 from UInt8.toNat_inj.1 (by simpa using h1))
    clear h1
    go_wp2_with fail
    exact gc_ret (U := U) Tryz.results144 rfl rfl (Nat.le_of_eq HUS.out) HH.out H1.out HK.out HU.out ⟨_, _, _, rfl⟩ (.inr (.inr (by simp [Cmp.scK, endK]))) (fun _ => ⟨by simp [Cmp.scS, Cmp.scR], rfl, rfl, rfl, rfl, by simp [Cmp.scN, HB.out], BytesAt.nil _ _⟩)
   ·have h1i : ((b.toNat : Int) == 1) = false := by simpa using (show ¬ (b.toNat : Int) = 1 by omega)
    by_cases h2 : b.toNat = 2
    ·have h2i : (b.toNat : Int) = 2 := by omega
     have HB := hdd (show b = 2 from UInt8.toNat_inj.1 (by simpa using h2))
     clear h1 h2 h1i
     go_wp2_with fail
     exact gc_ret (U := U) Tryz.results144 rfl rfl (Nat.le_of_eq HUS.out) HH.out H1.out HK.out HU.out ⟨_, _, _, rfl⟩ (.inr (.inr (by simp [Cmp.scK, endK]))) (fun _ => ⟨by simp [Cmp.scS, Cmp.scR], rfl, rfl, rfl, rfl, by simp [Cmp.scN, HB.out], BytesAt.nil _ _⟩)
    ·have h2i : ((b.toNat : Int) == 2) = false := by simpa using (show ¬ (b.toNat : Int) = 2 by omega)
     clear h1 h2
     go_wp2_with fail
     exact gc_ret (U := U) Tryz.results144 rfl rfl (Nat.le_of_eq HUS.out) HH.out H1.out HK.out HU.out ⟨_, _, _, rfl⟩ (.inl rfl) (fun hz => by cases hz)
set_option maxRecDepth 100000 in
theorem c_op13 (h : RdC R TB DT c n s fv v w) :
  Calls Tryz.prog 115 #[.pointer (some ⟨R, 0, none⟩), .int .i64 13] w (GC R TB DT c n s fv w (Cmp.scK c 2 s) (Cmp.scS 2 s) 0 0 0 0 (Cmp.scN 2 s) (Cmp.scB 2 s)) := by
 have hk0 : Keep (fun _ => False) w (w.alloc (.cells zGot 75)) := (Keep.refl _ w).alloc _
 have hU0 := heap_alloc_new w (.cells zGot 75)
 have hTU := h.ltT
 have hRU := h.ltR
 have HH := hdd h
 go_enter Tryz.func115, Tryz.ntmps115
 go_wp2_with fail
 have hsA : (w.alloc (.cells zGot 75)).heap.size = w.heap.size + 1 := by simp
 generalize w.alloc (.cells zGot 75) = wA at *
 obtain ⟨U, hU⟩ : ∃ U, w.heap.size = U := ⟨_, rfl⟩
 rw [hU] at hU0 hTU hRU hsA ⊢
 have HUS := hdd hU
 clear hU
 have hA := h.fresh hk0
 refine (c_bool hA).mono ?_
 rintro e w1 ⟨x, t, kt, size, id, N', S', rfl, ⟨Sa, Sm, Sc, rfl⟩, hx, ⟨s2, v2, h1, hs2⟩, hk1, hv⟩
 have HU := hdd ((hk1.block U (lt_of_heap hU0) (by rintro (e | e) <;> omega)).trans hU0)
 have HK := hdd ((hk0.weak (fun _ _ x => x.elim)).then hk1 : Keep (RT R TB) w w1)
 have H1 := hdd h1
 have HX := hdd hx
 have HS := hdd hs2
 have HV := hdd hv
 obtain ⟨u0, u1, u2, u3, u4, u5, u6⟩ := got_cells HU.out
 obtain ⟨f0, f1, f2, f3, f4, f5, f6⟩ := got_free HU.out
 clear hx hs2 hv hU0 h1
 go_wp2_with fail
 refine gc_ret (U := U) Tryz.results115 rfl rfl (Nat.le_of_eq HUS.out) HH.out H1.out HK.out HU.out ⟨_, _, _, rfl⟩ HX.out (fun hz => ?_)
 obtain ⟨q1, q2, q3, q4, q5, q6⟩ := HV.out hz
 exact ⟨HS.out hz, q1, q2, q3, q4, q5, by rw [hsA] at q6; simpa [Cmp.scB] using q6⟩
set_option maxRecDepth 100000 in
theorem c_op14 (h : RdC R TB DT c n s fv v w) :
  Calls Tryz.prog 115 #[.pointer (some ⟨R, 0, none⟩), .int .i64 14] w (GC R TB DT c n s fv w (Cmp.scK c 3 s) (Cmp.scS 3 s) 0 0 0 0 (Cmp.scN 3 s) (Cmp.scB 3 s)) := by
 obtain ⟨rem, last, outer, pend, val⟩ := s
 have hk0 : Keep (fun _ => False) w (w.alloc (.cells zGot 75)) := (Keep.refl _ w).alloc _
 have hU0 := heap_alloc_new w (.cells zGot 75)
 have hTU := h.ltT
 have hRU := h.ltR
 have HH := hdd h
 go_enter Tryz.func115, Tryz.ntmps115
 go_wp2_with fail
 have hsA : (w.alloc (.cells zGot 75)).heap.size = w.heap.size + 1 := by simp
 generalize w.alloc (.cells zGot 75) = wA at *
 obtain ⟨U, hU⟩ : ∃ U, w.heap.size = U := ⟨_, rfl⟩
 rw [hU] at hU0 hTU hRU hsA ⊢
 have HUS := hdd hU
 clear hU
 have hA := h.fresh hk0
 refine (rd_byte hA.p).mono ?_
 rintro e w1 ⟨b0, x, rfl, hx, hp1, hk1, hb⟩
 have h1 := hA.took hp1 hk1
 have hk01 : Keep (RT R TB) w w1 := (hk0.weak (fun _ _ x => x.elim)).then (hk1.weak (fun _ _ x => .inr x))
 have HU := hdd ((hk1.block U (lt_of_heap hU0) (by omega)).trans hU0)
 have HK := hdd hk01
 have H1 := hdd h1
 obtain ⟨u0, u1, u2, u3, u4, u5, u6⟩ := got_cells HU.out
 obtain ⟨f0, f1, f2, f3, f4, f5, f6⟩ := got_free HU.out
 clear hk01 h1 hU0 hp1
 cases rem with
 | nil =>
  have hx1 : x = -1 := by rcases hx with ⟨hx, _⟩ | ⟨_, hx⟩; exact hx; exact absurd rfl hx
  subst hx1
  clear hx hb
  go_wp2_with fail
  exact gc_ret (U := U) Tryz.results115 rfl rfl (Nat.le_of_eq HUS.out) HH.out H1.out HK.out HU.out ⟨_, _, _, rfl⟩ (.inr (.inl ⟨rfl, by simp [Cmp.scK, fullK], Cmp.scK_lt _ _ _⟩)) (fun hz => by cases hz)
 | cons b r =>
  have hx1 : x = 0 := by rcases hx with ⟨_, hx⟩ | ⟨hx, _⟩; cases hx; exact hx
  subst hx1
  have hb0 := hb b r rfl
  subst hb0
  have hb8 := b.toNat_lt
  clear hx hb
  have hw8 : IntKind.i64.wrap (IntKind.i8.wrap (b.toNat : Nat)) = IntKind.i8.wrap (b.toNat : Nat) := IntWalk.i64_in _ (by have := i8_wrap_bd (b.toNat : Nat); omega)
  go_wp2_with fail
  exact gc_ret (U := U) Tryz.results115 rfl rfl (Nat.le_of_eq HUS.out) HH.out H1.out HK.out HU.out ⟨_, _, _, rfl⟩ (.inr (.inr (by simp [Cmp.scK, fullK]))) (fun _ => ⟨by simp [Cmp.scS, Cmp.scR], rfl, rfl, rfl, rfl, by simp [Cmp.scN], BytesAt.nil _ _⟩)
set_option maxRecDepth 100000 in
theorem c_op15 (h : RdC R TB DT c n s fv v w) :
  Calls Tryz.prog 115 #[.pointer (some ⟨R, 0, none⟩), .int .i64 15] w (GC R TB DT c n s fv w (Cmp.scK c 6 s) (Cmp.scS 6 s) 0 0 0 0 (Cmp.scN 6 s) (Cmp.scB 6 s)) := by
 obtain ⟨rem, last, outer, pend, val⟩ := s
 have hk0 : Keep (fun _ => False) w (w.alloc (.cells zGot 75)) := (Keep.refl _ w).alloc _
 have hU0 := heap_alloc_new w (.cells zGot 75)
 have hTU := h.ltT
 have hRU := h.ltR
 have HH := hdd h
 go_enter Tryz.func115, Tryz.ntmps115
 go_wp2_with fail
 have hsA : (w.alloc (.cells zGot 75)).heap.size = w.heap.size + 1 := by simp
 generalize w.alloc (.cells zGot 75) = wA at *
 obtain ⟨U, hU⟩ : ∃ U, w.heap.size = U := ⟨_, rfl⟩
 rw [hU] at hU0 hTU hRU hsA ⊢
 have HUS := hdd hU
 clear hU
 have hA := h.fresh hk0
 refine (rd_varint hA.p 32 (.inl rfl)).mono ?_
 rintro e w1 ⟨N, x, r', rfl, hp1, hl1, hk1, hx, hN⟩
 have h1 := hA.took hp1 hk1
 have hk01 : Keep (RT R TB) w w1 := (hk0.weak (fun _ _ x => x.elim)).then (hk1.weak (fun _ _ x => .inr x))
 have HU := hdd ((hk1.block U (lt_of_heap hU0) (by omega)).trans hU0)
 have HK := hdd hk01
 have H1 := hdd h1
 obtain ⟨u0, u1, u2, u3, u4, u5, u6⟩ := got_cells HU.out
 obtain ⟨f0, f1, f2, f3, f4, f5, f6⟩ := got_free HU.out
 clear hk01 h1 hU0 hp1
 have hN : N < 4294967296 := hN
 have hnw : IntKind.u32.wrap (N : Nat) = (N : Nat) := by rw [u32_wr]; omega
 obtain ⟨id, hidd⟩ : ∃ id, zz N = id := ⟨_, rfl⟩
 have hidb := zz_bd N 2147483648 (by omega)
 rw [hidd] at hidb
 have hidw : IntKind.i64.wrap id = id := IntWalk.i64_in _ (by omega)
 have hw2 : IntKind.i64.wrap (IntKind.i16.wrap id) = IntKind.i16.wrap id := IntWalk.i64_in _ (by have := i16_wrap_bdC id; omega)
 have HIDD := hdd hidd
 rcases hx with ⟨rfl, h0⟩ | ⟨rfl, h0, hv⟩ | ⟨rfl, hv, hn, hr⟩
 ·clear h0 hidd
  go_wp2_with fail
  refine (uzig32_at N hN _).mono ?_
  rintro e w2' ⟨rfl, rfl⟩
  rw [HIDD.out]
  go_wp2_with fail
  exact gc_ret (U := U) Tryz.results115 rfl rfl (Nat.le_of_eq HUS.out) HH.out H1.out HK.out HU.out ⟨_, _, _, rfl⟩ (.inl rfl) (fun hz => by cases hz)
 ·have HV := hdd (show vK rem ≠ 0 from hv)
  clear hv h0 hidd
  go_wp2_with fail
  refine (uzig32_at N hN _).mono ?_
  rintro e w2' ⟨rfl, rfl⟩
  rw [HIDD.out]
  go_wp2_with fail
  exact gc_ret (U := U) Tryz.results115 rfl rfl (Nat.le_of_eq HUS.out) HH.out H1.out HK.out HU.out ⟨_, _, _, rfl⟩ (.inr (.inl ⟨rfl, by simp only [Cmp.scK]; exact pk_ne HV.out, Cmp.scK_lt _ _ _⟩)) (fun hz => by cases hz)
 ·have HV := hdd (show vK rem = 0 from hv)
  have HN := hdd (show N = vN rem from hn)
  have HR := hdd (show r' = vR rem from hr)
  have HZ : Hid (z32 rem = id) := hdd (by rw [z32, ← HN.out, Nat.mod_eq_of_lt hN, HIDD.out])
  clear hv hn hr hidd
  by_cases hid : IntKind.i16.wrap id = id
  ·have HID := hdd hid
   go_wp2_with fail
   refine (uzig32_at N hN _).mono ?_
   rintro e w2' ⟨rfl, rfl⟩
   rw [HIDD.out]
   go_wp2_with fail
   exact gc_ret (U := U) Tryz.results115 rfl rfl (Nat.le_of_eq HUS.out) HH.out H1.out HK.out HU.out ⟨_, _, _, rfl⟩ (.inr (.inr (by simp [Cmp.scK, HV.out, pk]))) (fun _ => ⟨by simp [Cmp.scS, Cmp.scR, HR.out], rfl, rfl, rfl, rfl, by simp [Cmp.scN, HZ.out]; exact HID.out.symm, BytesAt.nil _ _⟩)
  ·have hidb : (id != IntKind.i16.wrap id) = true := by simpa using (fun e : id = IntKind.i16.wrap id => hid e.symm)
   go_wp2_with fail
   refine (uzig32_at N hN _).mono ?_
   rintro e w2' ⟨rfl, rfl⟩
   rw [HIDD.out]
   go_wp2_with fail
   exact gc_ret (U := U) Tryz.results115 rfl rfl (Nat.le_of_eq HUS.out) HH.out H1.out HK.out HU.out ⟨_, _, _, rfl⟩ (.inl rfl) (fun hz => by cases hz)
set_option maxRecDepth 100000 in
theorem c_op16 (h : RdC R TB DT c n s fv v w) :
  Calls Tryz.prog 115 #[.pointer (some ⟨R, 0, none⟩), .int .i64 16] w (GC R TB DT c n s fv w (Cmp.scK c 8 s) (Cmp.scS 8 s) 0 0 0 0 (Cmp.scN 8 s) (Cmp.scB 8 s)) := by
 obtain ⟨rem, last, outer, pend, val⟩ := s
 have hk0 : Keep (fun _ => False) w (w.alloc (.cells zGot 75)) := (Keep.refl _ w).alloc _
 have hU0 := heap_alloc_new w (.cells zGot 75)
 have hTU := h.ltT
 have hRU := h.ltR
 have HH := hdd h
 go_enter Tryz.func115, Tryz.ntmps115
 go_wp2_with fail
 have hsA : (w.alloc (.cells zGot 75)).heap.size = w.heap.size + 1 := by simp
 generalize w.alloc (.cells zGot 75) = wA at *
 obtain ⟨U, hU⟩ : ∃ U, w.heap.size = U := ⟨_, rfl⟩
 rw [hU] at hU0 hTU hRU hsA ⊢
 have HUS := hdd hU
 clear hU
 have hA := h.fresh hk0
 refine (rd_varint hA.p 32 (.inl rfl)).mono ?_
 rintro e w1 ⟨N, x, r', rfl, hp1, hl1, hk1, hx, hN⟩
 have h1 := hA.took hp1 hk1
 have hk01 : Keep (RT R TB) w w1 := (hk0.weak (fun _ _ x => x.elim)).then (hk1.weak (fun _ _ x => .inr x))
 have HU := hdd ((hk1.block U (lt_of_heap hU0) (by omega)).trans hU0)
 have HK := hdd hk01
 have H1 := hdd h1
 obtain ⟨u0, u1, u2, u3, u4, u5, u6⟩ := got_cells HU.out
 obtain ⟨f0, f1, f2, f3, f4, f5, f6⟩ := got_free HU.out
 clear hk01 h1 hU0 hp1
 have hN : N < 4294967296 := hN
 have hnw : IntKind.u32.wrap (N : Nat) = (N : Nat) := by rw [u32_wr]; omega
 obtain ⟨id, hidd⟩ : ∃ id, zz N = id := ⟨_, rfl⟩
 have hidb := zz_bd N 2147483648 (by omega)
 rw [hidd] at hidb
 have hidw : IntKind.i64.wrap id = id := IntWalk.i64_in _ (by omega)
 have hw2 : IntKind.i64.wrap (IntKind.i16.wrap id) = IntKind.i16.wrap id := IntWalk.i64_in _ (by have := i16_wrap_bdC id; omega)
 have HIDD := hdd hidd
 rcases hx with ⟨rfl, h0⟩ | ⟨rfl, h0, hv⟩ | ⟨rfl, hv, hn, hr⟩
 ·clear h0 hidd
  go_wp2_with fail
  refine (uzig32_at N hN _).mono ?_
  rintro e w2' ⟨rfl, rfl⟩
  rw [HIDD.out]
  go_wp2_with fail
  exact gc_ret (U := U) Tryz.results115 rfl rfl (Nat.le_of_eq HUS.out) HH.out H1.out HK.out HU.out ⟨_, _, _, rfl⟩ (.inl rfl) (fun hz => by cases hz)
 ·have HV := hdd (show vK rem ≠ 0 from hv)
  clear hv h0 hidd
  go_wp2_with fail
  refine (uzig32_at N hN _).mono ?_
  rintro e w2' ⟨rfl, rfl⟩
  rw [HIDD.out]
  go_wp2_with fail
  exact gc_ret (U := U) Tryz.results115 rfl rfl (Nat.le_of_eq HUS.out) HH.out H1.out HK.out HU.out ⟨_, _, _, rfl⟩ (.inr (.inl ⟨rfl, by simp only [Cmp.scK]; exact pk_ne HV.out, Cmp.scK_lt _ _ _⟩)) (fun hz => by cases hz)
 ·have HV := hdd (show vK rem = 0 from hv)
  have HN := hdd (show N = vN rem from hn)
  have HR := hdd (show r' = vR rem from hr)
  have HZ : Hid (z32 rem = id) := hdd (by rw [z32, ← HN.out, Nat.mod_eq_of_lt hN, HIDD.out])
  clear hv hn hr hidd
  go_wp2_with fail
  refine (uzig32_at N hN _).mono ?_
  rintro e w2' ⟨rfl, rfl⟩
  rw [HIDD.out]
  go_wp2_with fail
  exact gc_ret (U := U) Tryz.results115 rfl rfl (Nat.le_of_eq HUS.out) HH.out H1.out HK.out HU.out ⟨_, _, _, rfl⟩ (.inr (.inr (by simp [Cmp.scK, HV.out, pk]))) (fun _ => ⟨by simp [Cmp.scS, Cmp.scR, HR.out], rfl, rfl, rfl, rfl, by simp [Cmp.scN, HZ.out], BytesAt.nil _ _⟩)
set_option maxRecDepth 100000 in
theorem c_op17 (h : RdC R TB DT c n s fv v w) :
  Calls Tryz.prog 115 #[.pointer (some ⟨R, 0, none⟩), .int .i64 17] w (GC R TB DT c n s fv w (Cmp.scK c 10 s) (Cmp.scS 10 s) 0 0 0 0 (Cmp.scN 10 s) (Cmp.scB 10 s)) := by
 obtain ⟨rem, last, outer, pend, val⟩ := s
 have hk0 : Keep (fun _ => False) w (w.alloc (.cells zGot 75)) := (Keep.refl _ w).alloc _
 have hU0 := heap_alloc_new w (.cells zGot 75)
 have hTU := h.ltT
 have hRU := h.ltR
 have HH := hdd h
 go_enter Tryz.func115, Tryz.ntmps115
 go_wp2_with fail
 have hsA : (w.alloc (.cells zGot 75)).heap.size = w.heap.size + 1 := by simp
 generalize w.alloc (.cells zGot 75) = wA at *
 obtain ⟨U, hU⟩ : ∃ U, w.heap.size = U := ⟨_, rfl⟩
 rw [hU] at hU0 hTU hRU hsA ⊢
 have HUS := hdd hU
 clear hU
 have hA := h.fresh hk0
 refine (rd_varint hA.p 64 (.inr rfl)).mono ?_
 rintro e w1 ⟨N, x, r', rfl, hp1, hl1, hk1, hx, hN⟩
 have h1 := hA.took hp1 hk1
 have hk01 : Keep (RT R TB) w w1 := (hk0.weak (fun _ _ x => x.elim)).then (hk1.weak (fun _ _ x => .inr x))
 have HU := hdd ((hk1.block U (lt_of_heap hU0) (by omega)).trans hU0)
 have HK := hdd hk01
 have H1 := hdd h1
 obtain ⟨u0, u1, u2, u3, u4, u5, u6⟩ := got_cells HU.out
 obtain ⟨f0, f1, f2, f3, f4, f5, f6⟩ := got_free HU.out
 clear hk01 h1 hU0 hp1
 have hN : N < 18446744073709551616 := hN
 rcases hx with ⟨rfl, h0⟩ | ⟨rfl, h0, hv⟩ | ⟨rfl, hv, hn, hr⟩
 ·clear h0
  go_wp2_with fail
  exact gc_ret (U := U) Tryz.results115 rfl rfl (Nat.le_of_eq HUS.out) HH.out H1.out HK.out HU.out ⟨_, _, _, rfl⟩ (.inl rfl) (fun hz => by cases hz)
 ·have HV := hdd (show vK rem ≠ 0 from hv)
  clear hv h0
  go_wp2_with fail
  exact gc_ret (U := U) Tryz.results115 rfl rfl (Nat.le_of_eq HUS.out) HH.out H1.out HK.out HU.out ⟨_, _, _, rfl⟩ (.inr (.inl ⟨rfl, by simp only [Cmp.scK]; exact pk_ne HV.out, Cmp.scK_lt _ _ _⟩)) (fun hz => by cases hz)
 ·have HV := hdd (show vK rem = 0 from hv)
  have HN := hdd (show N = vN rem from hn)
  have HR := hdd (show r' = vR rem from hr)
  obtain ⟨id, hidd⟩ : ∃ id, zz N = id := ⟨_, rfl⟩
  have HIDD := hdd hidd
  have HZ : Hid (z64 rem = id) := hdd (by rw [z64, ← HN.out, Nat.mod_eq_of_lt hN, HIDD.out])
  clear hv hn hr hidd
  go_wp2_with fail
  refine (uzig64_at N hN _).mono ?_
  rintro e w2' ⟨rfl, rfl⟩
  rw [HIDD.out]
  go_wp2_with fail
  exact gc_ret (U := U) Tryz.results115 rfl rfl (Nat.le_of_eq HUS.out) HH.out H1.out HK.out HU.out ⟨_, _, _, rfl⟩ (.inr (.inr (by simp [Cmp.scK, HV.out, pk]))) (fun _ => ⟨by simp [Cmp.scS, Cmp.scR, HR.out], rfl, rfl, rfl, rfl, by simp only [Cmp.scN]; exact HZ.out.symm, BytesAt.nil _ _⟩)
set_option maxRecDepth 100000 in
theorem c_op19 (h : RdC R TB DT c n s fv v w) :
  Calls Tryz.prog 115 #[.pointer (some ⟨R, 0, none⟩), .int .i64 19] w (GC R TB DT c n s fv w (Cmp.scK c 11 s) (Cmp.scS 11 s) 0 0 0 0 (Cmp.scN 11 s) (Cmp.scB 11 s)) := by
 obtain ⟨rem, last, outer, pend, val⟩ := s
 have hk0 : Keep (fun _ => False) w (w.alloc (.cells zGot 75)) := (Keep.refl _ w).alloc _
 have hU0 := heap_alloc_new w (.cells zGot 75)
 have hTU := h.ltT
 have hRU := h.ltR
 have HH := hdd h
 go_enter Tryz.func115, Tryz.ntmps115
 go_wp2_with fail
 have hsA : (w.alloc (.cells zGot 75)).heap.size = w.heap.size + 1 := by simp
 generalize w.alloc (.cells zGot 75) = wA at *
 obtain ⟨U, hU⟩ : ∃ U, w.heap.size = U := ⟨_, rfl⟩
 rw [hU] at hU0 hTU hRU hsA ⊢
 have HUS := hdd hU
 clear hU
 have hA := h.fresh hk0
 refine (rd_text hA.p).mono ?_
 rintro e w1 ⟨S, x, r', rfl, hx, hp1, hl1, hr, hk1, hb, Sa, Sm, Sc, rfl⟩
 have h1 := hA.took hp1 hk1
 have hk01 : Keep (RT R TB) w w1 := (hk0.weak (fun _ _ x => x.elim)).then (hk1.weak (fun _ _ x => .inr x))
 have HU := hdd ((hk1.block U (lt_of_heap hU0) (by omega)).trans hU0)
 have HK := hdd hk01
 have H1 := hdd h1
 obtain ⟨u0, u1, u2, u3, u4, u5, u6⟩ := got_cells HU.out
 obtain ⟨f0, f1, f2, f3, f4, f5, f6⟩ := got_free HU.out
 clear hk01 h1 hU0 hp1
 have HX := hdd hx
 have HR := hdd hr
 have HB := hdd hb
 clear hx hr hb
 go_wp2_with fail
 refine gc_ret (U := U) Tryz.results115 rfl rfl (Nat.le_of_eq HUS.out) HH.out H1.out HK.out HU.out ⟨_, _, _, rfl⟩ (by simpa [Cmp.scK] using HX.out) (fun hz => ⟨?_, rfl, rfl, rfl, rfl, by simp [Cmp.scN], ?_⟩)
 ·rw [HR.out hz]; simp [Cmp.scS, Cmp.scR]
 ·have := HB.out hz
  rw [hsA] at this
  simpa [Cmp.scB] using this
set_option maxRecDepth 100000 in
theorem c_op21 (h : RdC R TB DT c n s fv v w) :
  Calls Tryz.prog 115 #[.pointer (some ⟨R, 0, none⟩), .int .i64 21] w (GC R TB DT c n s fv w (Cmp.scK c 16 s) (Cmp.scS 16 s) 0 0 0 0 (Cmp.scN 16 s) (Cmp.scB 16 s)) := by
 obtain ⟨rem, last, outer, pend, val⟩ := s
 have hk0 : Keep (fun _ => False) w (w.alloc (.cells zGot 75)) := (Keep.refl _ w).alloc _
 have hU0 := heap_alloc_new w (.cells zGot 75)
 have hTU := h.ltT
 have hRU := h.ltR
 have HH := hdd h
 go_enter Tryz.func115, Tryz.ntmps115
 go_wp2_with fail
 have hsA : (w.alloc (.cells zGot 75)).heap.size = w.heap.size + 1 := by simp
 generalize w.alloc (.cells zGot 75) = wA at *
 obtain ⟨U, hU⟩ : ∃ U, w.heap.size = U := ⟨_, rfl⟩
 rw [hU] at hU0 hTU hRU hsA ⊢
 have HUS := hdd hU
 clear hU
 have hA := h.fresh hk0
 refine (rd_some hA.p 16 (by omega)).mono ?_
 rintro e w1 ⟨S, x, rfl, hx, hp1, hk1, hb⟩
 have h1 := hA.took hp1 hk1
 have hk01 : Keep (RT R TB) w w1 := (hk0.weak (fun _ _ x => x.elim)).then (hk1.weak (fun _ _ x => .inr x))
 have HU := hdd ((hk1.block U (lt_of_heap hU0) (by omega)).trans hU0)
 have HK := hdd hk01
 have H1 := hdd h1
 obtain ⟨u0, u1, u2, u3, u4, u5, u6⟩ := got_cells HU.out
 obtain ⟨f0, f1, f2, f3, f4, f5, f6⟩ := got_free HU.out
 clear hk01 h1 hU0 hp1
 rcases hx with ⟨rfl, hl⟩ | ⟨rfl, hl⟩
 ·have HL := hdd (show ¬ 16 ≤ rem.length from hl)
  clear hl hb
  go_wp2_with fail
  exact gc_ret (U := U) Tryz.results115 rfl rfl (Nat.le_of_eq HUS.out) HH.out H1.out HK.out HU.out ⟨_, _, _, rfl⟩ (.inr (.inl ⟨rfl, by simp [Cmp.scK, fullK, HL.out], Cmp.scK_lt _ _ _⟩)) (fun hz => by cases hz)
 ·have HL := hdd (show 16 ≤ rem.length from hl)
  have hb1 := hb rfl
  obtain ⟨Sa, Sm, Sc, rfl⟩ := hb1.shape
  have HB := hdd hb1
  clear hl hb hb1
  go_wp2_with fail
  refine gc_ret (U := U) Tryz.results115 rfl rfl (Nat.le_of_eq HUS.out) HH.out H1.out HK.out HU.out ⟨_, _, _, rfl⟩ (.inr (.inr (by simp [Cmp.scK, fullK, HL.out]))) (fun hz => ⟨by simp [Cmp.scS, Cmp.scR], rfl, rfl, rfl, rfl, by simp [Cmp.scN], ?_⟩)
  have := HB.out
  rw [hsA] at this
  simpa [Cmp.scB] using this
end
theorem leNat_snoc : ∀ (l : List UInt8) (b : UInt8), Lib.leNat (l ++ [b]) = Lib.leNat l + b.toNat * 2 ^ (8 * l.length)
 | [], b => by simp [Lib.leNat]
 | x :: r, b => by
  have ih := leNat_snoc r b
  simp only [List.cons_append, Lib.leNat, List.length_cons]
  rw [ih, Nat.mul_add, show 8 * (r.length + 1) = 8 * r.length + 8 by omega, Nat.pow_add, show (2 : Nat) ^ 8 = 256 by decide]
  generalize 2 ^ (8 * r.length) = p
  have e : 256 * (b.toNat * p) = b.toNat * (p * 256) := by rw [Nat.mul_comm p 256, Nat.mul_left_comm]
  omega
theorem leNat_take (l : List UInt8) (i : Nat) (b : UInt8) (h : l[i]? = some b) : Lib.leNat (l.take (i + 1)) = Lib.leNat (l.take i) + b.toNat * 2 ^ (8 * i) := by
 have hi : i < l.length := (List.getElem?_eq_some_iff.1 h).1
 rw [List.take_add_one, h]
 show Lib.leNat (l.take i ++ [b]) = _
 rw [leNat_snoc, List.length_take, Nat.min_eq_left (by omega)]
section
variable {R TB DT : Nat} {c : Cfg} {n : Int} {s s2 s' : Cmp.St} {fv : Value} {v v2 : Int} {w w1 w' : World}
set_option maxRecDepth 100000 in
theorem c_op18 (h : RdC R TB DT c n s fv v w) :
  Calls Tryz.prog 115 #[.pointer (some ⟨R, 0, none⟩), .int .i64 18] w (GC R TB DT c n s fv w (Cmp.scK c 4 s) (Cmp.scS 4 s) 0 0 0 0 (Cmp.scN 4 s) (Cmp.scB 4 s)) := by
 obtain ⟨rem, last, outer, pend, val⟩ := s
 have hk0 : Keep (fun _ => False) w (w.alloc (.cells zGot 75)) := (Keep.refl _ w).alloc _
 have hU0 := heap_alloc_new w (.cells zGot 75)
 have hTU := h.ltT
 have hRU := h.ltR
 have HH := hdd h
 go_enter Tryz.func115, Tryz.ntmps115
 go_wp2_with fail
 have hsA : (w.alloc (.cells zGot 75)).heap.size = w.heap.size + 1 := by simp
 generalize w.alloc (.cells zGot 75) = wA at *
 obtain ⟨U, hU⟩ : ∃ U, w.heap.size = U := ⟨_, rfl⟩
 rw [hU] at hU0 hTU hRU hsA ⊢
 have HUS := hdd hU
 clear hU
 have hA := h.fresh hk0
 refine (rd_some hA.p 8 (by omega)).mono ?_
 rintro e w1 ⟨S, x, rfl, hx, hp1, hk1, hb⟩
 have h1 := hA.took hp1 hk1
 have hk01 : Keep (RT R TB) w w1 := (hk0.weak (fun _ _ x => x.elim)).then (hk1.weak (fun _ _ x => .inr x))
 have HU := hdd ((hk1.block U (lt_of_heap hU0) (by omega)).trans hU0)
 have HK := hdd hk01
 have H1 := hdd h1
 obtain ⟨u0, u1, u2, u3, u4, u5, u6⟩ := got_cells HU.out
 obtain ⟨f0, f1, f2, f3, f4, f5, f6⟩ := got_free HU.out
 clear hk01 h1 hU0 hp1
 rcases hx with ⟨rfl, hl⟩ | ⟨rfl, hl⟩
 ·have HL := hdd (show ¬ 8 ≤ rem.length from hl)
  clear hl hb
  go_wp2_with fail
  exact gc_ret (U := U) Tryz.results115 rfl rfl (Nat.le_of_eq HUS.out) HH.out H1.out HK.out HU.out ⟨_, _, _, rfl⟩ (.inr (.inl ⟨rfl, by simp [Cmp.scK, fullK, HL.out], Cmp.scK_lt _ _ _⟩)) (fun hz => by cases hz)
 ·have HL := hdd (show 8 ≤ rem.length from hl)
  have hb1 : BytesAt (wA.heap.size ≤ ·) w1 S (rem.take 8) := hb rfl
  obtain ⟨l, hl8⟩ : ∃ l, rem.take 8 = l := ⟨_, rfl⟩
  rw [hl8] at hb1
  have hlen : l.length = 8 := by rw [← hl8, List.length_take]; exact Nat.min_eq_left HL.out
  have HL8 := hdd hl8
  have HLEN := hdd hlen
  rcases hb1 with ⟨hv0, _⟩ | ⟨hv0, D, oo, cc, rfl, e1, e2, e3, e4⟩
  ·rw [hv0] at hlen; simp at hlen
  rw [hlen] at e1 e2 ⊢
  have HE := hdd e4
  clear hl hb hl8 hlen e4 hv0
  go_wp2_with fail
  go_loopg [14, 15] 8 (fun k v3 v4 wr => ∃ i : Nat, v4 = .int .i64 i ∧ k + i = 8 ∧ v3 = .int .u64 (Lib.leNat (l.take i) : Nat) ∧ wr = w1)
  case atStart => exact ⟨0, rfl, rfl, by simp [Lib.leNat], rfl⟩
  case round =>
   obtain ⟨i, rfl, hk, rfl, rfl⟩ := hrel
   by_cases hi : i < 8
   ·obtain ⟨b, hb⟩ : ∃ b, l[i]? = some b := ⟨_, List.getElem?_eq_getElem (by have := HLEN.out; omega)⟩
    have hc := HE.out i b hb
    have HB := hdd hb
    have hb8 := b.toNat_lt
    have HA : Hid (Lib.leNat (l.take i) < 2 ^ (8 * i)) := hdd (by
     have := leNat_lt (l.take i)
     rw [List.length_take, Nat.min_eq_left (by have := HLEN.out; omega), show (256 : Nat) = 2 ^ 8 by decide, ← Nat.pow_mul] at this
     exact this)
    have HSUM : Hid (Lib.leNat (l.take (i + 1)) < 18446744073709551616) := hdd (by
     have := leNat_lt (l.take (i + 1))
     rw [List.length_take, Nat.min_eq_left (by have := HLEN.out; omega)] at this
     exact Nat.lt_of_lt_of_le this (Nat.le_trans (Nat.pow_le_pow_right (by decide) (show i + 1 ≤ 8 by omega)) (by decide)))
    have HT := hdd (leNat_take l i b HB.out)
    have hw8 : IntKind.i64.wrap (8 * (i : Int)) = 8 * (i : Int) := IntWalk.i64_in _ (by omega)
    clear hb
    obtain ⟨acc, hacc⟩ : ∃ acc, Lib.leNat (l.take i) = acc := ⟨_, rfl⟩
    rw [hacc]
    have HACC := hdd hacc
    clear hacc
    have hor : bits .or .u64 ((acc : Nat) : Int) (IntKind.u64.wrap ((b.toNat : Int) * 2 ^ (8 * i))) = ((acc + b.toNat * 2 ^ (8 * i) : Nat) : Int) := or_u64 (8 * i) acc b.toNat (by rw [← HACC.out]; exact HA.out) (by have h1 := HT.out; have h2 := HSUM.out; rw [HACC.out] at h1; omega) (by have h1 := HT.out; have h2 := HSUM.out; rw [HACC.out] at h1; omega)
    have HOR := hdd hor
    clear hor
    go_wp2_with fail
    go_roundg (gk - 1)
    case measure => omega
    case rel =>
     refine ⟨i + 1, by simp, by omega, ?_, rfl⟩
     rw [HOR.out, HT.out, HACC.out]
   ·have hin : i = 8 := by omega
    subst hin
    have HTK := hdd (show l.take 8 = l from List.take_of_length_le (by have := HLEN.out; omega))
    obtain ⟨N, hN⟩ : ∃ N, Lib.leNat (l.take 8) = N := ⟨_, rfl⟩
    rw [hN]
    have HN := hdd hN
    clear hN
    go_wp2_with fail
    refine gc_ret (U := U) Tryz.results115 rfl rfl (Nat.le_of_eq HUS.out) HH.out H1.out HK.out HU.out ⟨_, _, _, rfl⟩ (.inr (.inr (by simp [Cmp.scK, fullK, HL.out]))) (fun hz => ⟨by simp [Cmp.scS, Cmp.scR], rfl, rfl, rfl, rfl, ?_, BytesAt.nil _ _⟩)
    have e0 : Cmp.scN 4 ⟨rem, last, outer, pend, val⟩ = wrap64 (Lib.leNat (rem.take 8)) := by simp [Cmp.scN]
    rw [e0, HL8.out, ← HTK.out, HN.out]
    try exact IntKind.wrap_i64 _
end
section
variable {R TB DT : Nat} {c : Cfg} {n : Int} {s s2 s' : Cmp.St} {fv : Value} {v v2 : Int} {w wA w1 w' : World} {k T KT SZ ID N : Int} {S : List UInt8}
variable {a1 a2 a3 a4 a5 : Int} {sv : Value}
theorem gc_thru {f : Func} {slot : Nat} {a : Act} {U : Nat} {x t kt size id nn : Int} {S' : Value} (hf : f.results = #[.cell slot 75]) (hd : a.defers = []) (ha : a.tmps[slot]?.getD undef = .pointer (some ⟨U, 0, none⟩))
  (hU : w.heap.size ≤ U) (hUA : wA.heap.size = U + 1) (h0 : RdC R TB DT c n s fv v w) (hkA : Keep (fun _ => False) w wA) {v0 v1 v2' v3 v4 v5 v6 : Value} (HU : w1.heap[U]? = some (.cells #[v0, v1, v2', v3, v4, v5, v6] 75 (0, 0))) (hs : ∃ a m cc, S' = .slice a m cc)
  (hx : Sk k x) (h1 : ∃ s2 v2, RdC R TB DT c n s2 fv v2 w1 ∧ (x = 0 → s2 = s')) (hk1 : Keep (RT R TB) wA w1) (hv : x = 0 → t = T ∧ kt = KT ∧ size = SZ ∧ id = ID ∧ nn = N ∧ BytesAt (wA.heap.size ≤ ·) w1 S' S) :
  bodyPost Tryz.prog f (GC R TB DT c n s fv w k s' T KT SZ ID N S) Exit.ret a (gotW w1 U x t kt size id nn S') := by
 obtain ⟨s2, v2, h1, hs2⟩ := h1
 refine gc_ret (U := U) hf hd ha hU h0 h1 ((hkA.weak (fun _ _ x => x.elim)).then hk1) HU hs hx (fun hz => ?_)
 obtain ⟨q1, q2, q3, q4, q5, q6⟩ := hv hz
 exact ⟨hs2 hz, q1, q2, q3, q4, q5, by rw [hUA] at q6; exact q6⟩
set_option maxRecDepth 100000 in
theorem c_plain_d (op : Int) (h13 : 13 ≤ op ∧ op ≤ 21) (hp : s.pend = false) (h : RdC R TB DT c n s fv v w)
  (hpl : ∀ w, RdC R TB DT c n s fv v w → Calls Tryz.prog 115 #[.pointer (some ⟨R, 0, none⟩), .int .i64 op] w (GC R TB DT c n s fv w k s' T KT SZ ID N S)) :
  Calls Tryz.prog 82 #[.pointer (some ⟨R, 0, none⟩), .agg (stepG op a1 a2 a3 a4 a5 sv)] w (GC R TB DT c n s fv w k s' T KT SZ ID N S) := by
 have n0 : (op == 0) = false := by simpa using (show ¬ op = 0 by omega)
 have n2 : (op == 2) = false := by simpa using (show ¬ op = 2 by omega)
 have n3 : (op == 3) = false := by simpa using (show ¬ op = 3 by omega)
 have n4 : (op == 4) = false := by simpa using (show ¬ op = 4 by omega)
 have n7 : (op == 7) = false := by simpa using (show ¬ op = 7 by omega)
 have n9 : (op == 9) = false := by simpa using (show ¬ op = 9 by omega)
 have n11 : (op == 11) = false := by simpa using (show ¬ op = 11 by omega)
 have n1 : (op == 1) = false := by simpa using (show ¬ op = 1 by omega)
 have n5 : (op == 5) = false := by simpa using (show ¬ op = 5 by omega)
 have n6 : (op == 6) = false := by simpa using (show ¬ op = 6 by omega)
 have n8 : (op == 8) = false := by simpa using (show ¬ op = 8 by omega)
 have n10 : (op == 10) = false := by simpa using (show ¬ op = 10 by omega)
 have n12 : (op == 12) = false := by simpa using (show ¬ op = 12 by omega)
 have hTU := h.ltT
 have hRU := h.ltR
 have HH := hdd h
 obtain ⟨c9, c10, c11, c12⟩ := h.ccells
 rw [hp] at c11
 have hk0 : Keep (fun _ => False) w ((w.alloc (.cells (stepG op a1 a2 a3 a4 a5 sv) 119)).alloc (.cells zGot 75)) := ((Keep.refl _ w).alloc _).alloc _
 have hU0 := heap_alloc_new (w.alloc (.cells (stepG op a1 a2 a3 a4 a5 sv) 119)) (.cells zGot 75)
 go_enter Tryz.func82, Tryz.ntmps82
 go_wp2_with fail
 obtain ⟨U, hU⟩ : ∃ U, w.heap.size + 1 = U := ⟨_, rfl⟩
 have hsA : ((w.alloc (.cells (stepG op a1 a2 a3 a4 a5 sv) 119)).alloc (.cells zGot 75)).heap.size = U + 1 := by simp [← hU]
 rw [show (w.alloc (.cells (stepG op a1 a2 a3 a4 a5 sv) 119)).heap.size = U by simp [← hU]] at hU0
 generalize (w.alloc (.cells (stepG op a1 a2 a3 a4 a5 sv) 119)).alloc (.cells zGot 75) = wA at *
 rw [hU]
 have HUS := hdd hU
 clear hU
 have hA := h.fresh hk0
 refine (hpl wA hA).mono ?_
 rintro e w1 ⟨x, t, kt, size, id, N', S', rfl, ⟨Sa, Sm, Sc, rfl⟩, hx, h1, hk1, hv⟩
 have HU := hdd ((hk1.block U (lt_of_heap hU0) (by have := HUS.out; rintro (e | e) <;> omega)).trans hU0)
 have HK := hdd hk1
 have H1 := hdd h1
 have HX := hdd hx
 have HV := hdd hv
 have HK0 := hdd hk0
 obtain ⟨u0, u1, u2, u3, u4, u5, u6⟩ := got_cells HU.out
 obtain ⟨f0, f1, f2, f3, f4, f5, f6⟩ := got_free HU.out
 clear hx hv hU0 h1 hk1 hk0
 go_wp2_with fail
 exact gc_thru (U := U) Tryz.results82 rfl rfl (by have := HUS.out; omega) hsA HH.out HK0.out HU.out ⟨_, _, _, rfl⟩ HX.out H1.out HK.out HV.out
set_option maxRecDepth 100000 in
theorem c_d13_true (hp : s.pend = true) (h : RdC R TB DT c n s fv v w)
  (hpl : ∀ w, RdC R TB DT c n s fv v w → Calls Tryz.prog 115 #[.pointer (some ⟨R, 0, none⟩), .int .i64 13] w (GC R TB DT c n s fv w k s' T KT SZ ID N S)) :
  Calls Tryz.prog 82 #[.pointer (some ⟨R, 0, none⟩), .agg (stepG 13 a1 a2 a3 a4 a5 sv)] w (GC R TB DT c n s fv w k s' T KT SZ ID N S) := by
 have hTU := h.ltT
 have hRU := h.ltR
 have HH := hdd h
 obtain ⟨c9, c10, c11, c12⟩ := h.ccells
 rw [hp] at c11
 have hk0 : Keep (fun _ => False) w ((w.alloc (.cells (stepG 13 a1 a2 a3 a4 a5 sv) 119)).alloc (.cells zGot 75)) := ((Keep.refl _ w).alloc _).alloc _
 have hU0 := heap_alloc_new (w.alloc (.cells (stepG 13 a1 a2 a3 a4 a5 sv) 119)) (.cells zGot 75)
 go_enter Tryz.func82, Tryz.ntmps82
 go_wp2_with fail
 obtain ⟨U, hU⟩ : ∃ U, w.heap.size + 1 = U := ⟨_, rfl⟩
 have hsA : ((w.alloc (.cells (stepG 13 a1 a2 a3 a4 a5 sv) 119)).alloc (.cells zGot 75)).heap.size = U + 1 := by simp [← hU]
 rw [show (w.alloc (.cells (stepG 13 a1 a2 a3 a4 a5 sv) 119)).heap.size = U by simp [← hU]] at hU0
 generalize (w.alloc (.cells (stepG 13 a1 a2 a3 a4 a5 sv) 119)).alloc (.cells zGot 75) = wA at *
 rw [hU]
 have HUS := hdd hU
 clear hU
 have hA := h.fresh hk0
 refine (hpl wA hA).mono ?_
 rintro e w1 ⟨x, t, kt, size, id, N', S', rfl, ⟨Sa, Sm, Sc, rfl⟩, hx, h1, hk1, hv⟩
 have HU := hdd ((hk1.block U (lt_of_heap hU0) (by have := HUS.out; rintro (e | e) <;> omega)).trans hU0)
 have HK := hdd hk1
 have H1 := hdd h1
 have HX := hdd hx
 have HV := hdd hv
 have HK0 := hdd hk0
 obtain ⟨u0, u1, u2, u3, u4, u5, u6⟩ := got_cells HU.out
 obtain ⟨f0, f1, f2, f3, f4, f5, f6⟩ := got_free HU.out
 clear hx hv hU0 h1 hk1 hk0
 go_wp2_with fail
 exact gc_thru (U := U) Tryz.results82 rfl rfl (by have := HUS.out; omega) hsA HH.out HK0.out HU.out ⟨_, _, _, rfl⟩ HX.out H1.out HK.out HV.out
set_option maxRecDepth 100000 in
theorem c_d4_false (hp : s.pend = false) (h : RdC R TB DT c n s fv v w) :
  Calls Tryz.prog 82 #[.pointer (some ⟨R, 0, none⟩), .agg (stepG 4 a1 a2 a3 a4 a5 sv)] w (GC R TB DT c n s fv w (Cmp.fK s) (Cmp.fS s) (Cmp.fT s) 0 0 (Cmp.fI s) 0 []) := by
 have hTU := h.ltT
 have hRU := h.ltR
 have HH := hdd h
 obtain ⟨c9, c10, c11, c12⟩ := h.ccells
 rw [hp] at c11
 have hk0 : Keep (fun _ => False) w ((w.alloc (.cells (stepG 4 a1 a2 a3 a4 a5 sv) 119)).alloc (.cells zGot 75)) := ((Keep.refl _ w).alloc _).alloc _
 have hU0 := heap_alloc_new (w.alloc (.cells (stepG 4 a1 a2 a3 a4 a5 sv) 119)) (.cells zGot 75)
 go_enter Tryz.func82, Tryz.ntmps82
 go_wp2_with fail
 obtain ⟨U, hU⟩ : ∃ U, w.heap.size + 1 = U := ⟨_, rfl⟩
 have hsA : ((w.alloc (.cells (stepG 4 a1 a2 a3 a4 a5 sv) 119)).alloc (.cells zGot 75)).heap.size = U + 1 := by simp [← hU]
 rw [show (w.alloc (.cells (stepG 4 a1 a2 a3 a4 a5 sv) 119)).heap.size = U by simp [← hU]] at hU0
 generalize (w.alloc (.cells (stepG 4 a1 a2 a3 a4 a5 sv) 119)).alloc (.cells zGot 75) = wA at *
 rw [hU]
 have HUS := hdd hU
 clear hU
 have hA := h.fresh hk0
 refine (c_field hA).mono ?_
 rintro e w1 ⟨x, t, kt, size, id, N', S', rfl, ⟨Sa, Sm, Sc, rfl⟩, hx, h1, hk1, hv⟩
 have HU := hdd ((hk1.block U (lt_of_heap hU0) (by have := HUS.out; rintro (e | e) <;> omega)).trans hU0)
 have HK := hdd hk1
 have H1 := hdd h1
 have HX := hdd hx
 have HV := hdd hv
 have HK0 := hdd hk0
 obtain ⟨u0, u1, u2, u3, u4, u5, u6⟩ := got_cells HU.out
 obtain ⟨f0, f1, f2, f3, f4, f5, f6⟩ := got_free HU.out
 clear hx hv hU0 h1 hk1 hk0
 go_wp2_with fail
 exact gc_thru (U := U) Tryz.results82 rfl rfl (by have := HUS.out; omega) hsA HH.out HK0.out HU.out ⟨_, _, _, rfl⟩ HX.out H1.out HK.out HV.out
set_option maxRecDepth 100000 in
theorem c_d7_false (hp : s.pend = false) (h : RdC R TB DT c n s fv v w) :
  Calls Tryz.prog 82 #[.pointer (some ⟨R, 0, none⟩), .agg (stepG 7 a1 a2 a3 a4 a5 sv)] w (GC R TB DT c n s fv w (Cmp.mK c s) (Cmp.mS s) (Cmp.mT s) (Cmp.mKT s) (v32 s.rem) 0 0 []) := by
 have hTU := h.ltT
 have hRU := h.ltR
 have HH := hdd h
 obtain ⟨c9, c10, c11, c12⟩ := h.ccells
 rw [hp] at c11
 have hk0 : Keep (fun _ => False) w ((w.alloc (.cells (stepG 7 a1 a2 a3 a4 a5 sv) 119)).alloc (.cells zGot 75)) := ((Keep.refl _ w).alloc _).alloc _
 have hU0 := heap_alloc_new (w.alloc (.cells (stepG 7 a1 a2 a3 a4 a5 sv) 119)) (.cells zGot 75)
 go_enter Tryz.func82, Tryz.ntmps82
 go_wp2_with fail
 obtain ⟨U, hU⟩ : ∃ U, w.heap.size + 1 = U := ⟨_, rfl⟩
 have hsA : ((w.alloc (.cells (stepG 7 a1 a2 a3 a4 a5 sv) 119)).alloc (.cells zGot 75)).heap.size = U + 1 := by simp [← hU]
 rw [show (w.alloc (.cells (stepG 7 a1 a2 a3 a4 a5 sv) 119)).heap.size = U by simp [← hU]] at hU0
 generalize (w.alloc (.cells (stepG 7 a1 a2 a3 a4 a5 sv) 119)).alloc (.cells zGot 75) = wA at *
 rw [hU]
 have HUS := hdd hU
 clear hU
 have hA := h.fresh hk0
 refine (c_map hA).mono ?_
 rintro e w1 ⟨x, t, kt, size, id, N', S', rfl, ⟨Sa, Sm, Sc, rfl⟩, hx, h1, hk1, hv⟩
 have HU := hdd ((hk1.block U (lt_of_heap hU0) (by have := HUS.out; rintro (e | e) <;> omega)).trans hU0)
 have HK := hdd hk1
 have H1 := hdd h1
 have HX := hdd hx
 have HV := hdd hv
 have HK0 := hdd hk0
 obtain ⟨u0, u1, u2, u3, u4, u5, u6⟩ := got_cells HU.out
 obtain ⟨f0, f1, f2, f3, f4, f5, f6⟩ := got_free HU.out
 clear hx hv hU0 h1 hk1 hk0
 go_wp2_with fail
 exact gc_thru (U := U) Tryz.results82 rfl rfl (by have := HUS.out; omega) hsA HH.out HK0.out HU.out ⟨_, _, _, rfl⟩ HX.out H1.out HK.out HV.out
set_option maxRecDepth 100000 in
theorem c_d9_false (hp : s.pend = false) (h : RdC R TB DT c n s fv v w) :
  Calls Tryz.prog 82 #[.pointer (some ⟨R, 0, none⟩), .agg (stepG 9 a1 a2 a3 a4 a5 sv)] w (GC R TB DT c n s fv w (Cmp.lK c s) (Cmp.lS s) (Cmp.lT s) 0 (Cmp.lN s) 0 0 []) := by
 have hTU := h.ltT
 have hRU := h.ltR
 have HH := hdd h
 obtain ⟨c9, c10, c11, c12⟩ := h.ccells
 rw [hp] at c11
 have hk0 : Keep (fun _ => False) w ((w.alloc (.cells (stepG 9 a1 a2 a3 a4 a5 sv) 119)).alloc (.cells zGot 75)) := ((Keep.refl _ w).alloc _).alloc _
 have hU0 := heap_alloc_new (w.alloc (.cells (stepG 9 a1 a2 a3 a4 a5 sv) 119)) (.cells zGot 75)
 go_enter Tryz.func82, Tryz.ntmps82
 go_wp2_with fail
 obtain ⟨U, hU⟩ : ∃ U, w.heap.size + 1 = U := ⟨_, rfl⟩
 have hsA : ((w.alloc (.cells (stepG 9 a1 a2 a3 a4 a5 sv) 119)).alloc (.cells zGot 75)).heap.size = U + 1 := by simp [← hU]
 rw [show (w.alloc (.cells (stepG 9 a1 a2 a3 a4 a5 sv) 119)).heap.size = U by simp [← hU]] at hU0
 generalize (w.alloc (.cells (stepG 9 a1 a2 a3 a4 a5 sv) 119)).alloc (.cells zGot 75) = wA at *
 rw [hU]
 have HUS := hdd hU
 clear hU
 have hA := h.fresh hk0
 refine (c_list hA).mono ?_
 rintro e w1 ⟨x, t, kt, size, id, N', S', rfl, ⟨Sa, Sm, Sc, rfl⟩, hx, h1, hk1, hv⟩
 have HU := hdd ((hk1.block U (lt_of_heap hU0) (by have := HUS.out; rintro (e | e) <;> omega)).trans hU0)
 have HK := hdd hk1
 have H1 := hdd h1
 have HX := hdd hx
 have HV := hdd hv
 have HK0 := hdd hk0
 obtain ⟨u0, u1, u2, u3, u4, u5, u6⟩ := got_cells HU.out
 obtain ⟨f0, f1, f2, f3, f4, f5, f6⟩ := got_free HU.out
 clear hx hv hU0 h1 hk1 hk0
 go_wp2_with fail
 exact gc_thru (U := U) Tryz.results82 rfl rfl (by have := HUS.out; omega) hsA HH.out HK0.out HU.out ⟨_, _, _, rfl⟩ HX.out H1.out HK.out HV.out
set_option maxRecDepth 100000 in
theorem c_d11_false (hp : s.pend = false) (h : RdC R TB DT c n s fv v w) :
  Calls Tryz.prog 82 #[.pointer (some ⟨R, 0, none⟩), .agg (stepG 11 a1 a2 a3 a4 a5 sv)] w (GC R TB DT c n s fv w (Cmp.lK c s) (Cmp.lS s) (Cmp.lT s) 0 (Cmp.lN s) 0 0 []) := by
 have hTU := h.ltT
 have hRU := h.ltR
 have HH := hdd h
 obtain ⟨c9, c10, c11, c12⟩ := h.ccells
 rw [hp] at c11
 have hk0 : Keep (fun _ => False) w ((w.alloc (.cells (stepG 11 a1 a2 a3 a4 a5 sv) 119)).alloc (.cells zGot 75)) := ((Keep.refl _ w).alloc _).alloc _
 have hU0 := heap_alloc_new (w.alloc (.cells (stepG 11 a1 a2 a3 a4 a5 sv) 119)) (.cells zGot 75)
 go_enter Tryz.func82, Tryz.ntmps82
 go_wp2_with fail
 obtain ⟨U, hU⟩ : ∃ U, w.heap.size + 1 = U := ⟨_, rfl⟩
 have hsA : ((w.alloc (.cells (stepG 11 a1 a2 a3 a4 a5 sv) 119)).alloc (.cells zGot 75)).heap.size = U + 1 := by simp [← hU]
 rw [show (w.alloc (.cells (stepG 11 a1 a2 a3 a4 a5 sv) 119)).heap.size = U by simp [← hU]] at hU0
 generalize (w.alloc (.cells (stepG 11 a1 a2 a3 a4 a5 sv) 119)).alloc (.cells zGot 75) = wA at *
 rw [hU]
 have HUS := hdd hU
 clear hU
 have hA := h.fresh hk0
 refine (c_list hA).mono ?_
 rintro e w1 ⟨x, t, kt, size, id, N', S', rfl, ⟨Sa, Sm, Sc, rfl⟩, hx, h1, hk1, hv⟩
 have HU := hdd ((hk1.block U (lt_of_heap hU0) (by have := HUS.out; rintro (e | e) <;> omega)).trans hU0)
 have HK := hdd hk1
 have H1 := hdd h1
 have HX := hdd hx
 have HV := hdd hv
 have HK0 := hdd hk0
 obtain ⟨u0, u1, u2, u3, u4, u5, u6⟩ := got_cells HU.out
 obtain ⟨f0, f1, f2, f3, f4, f5, f6⟩ := got_free HU.out
 clear hx hv hU0 h1 hk1 hk0
 go_wp2_with fail
 exact gc_thru (U := U) Tryz.results82 rfl rfl (by have := HUS.out; omega) hsA HH.out HK0.out HU.out ⟨_, _, _, rfl⟩ HX.out H1.out HK.out HV.out
set_option maxRecDepth 100000 in
theorem c_open (op : Int) (h5 : ¬ op = 5) (h13 : ¬ op = 13) (hp : s.pend = true) (h : RdC R TB DT c n s fv v w) :
  Calls Tryz.prog 82 #[.pointer (some ⟨R, 0, none⟩), .agg (stepG op a1 a2 a3 a4 a5 sv)] w (GC R TB DT c n s fv w k s' T KT SZ ID N S) := by
 have n5 : (op != 5) = true := by simpa using h5
 have n13 : (op != 13) = true := by simpa using h13
 have hTU := h.ltT
 have hRU := h.ltR
 have HH := hdd h
 obtain ⟨c9, c10, c11, c12⟩ := h.ccells
 rw [hp] at c11
 go_enter Tryz.func82, Tryz.ntmps82
 go_wp2_with fail
 exact gc_ret_new (U := w.heap.size + 1) Tryz.results82 rfl rfl (by simp) HH.out (HH.out.fresh ((Keep.refl _ w).alloc _)) ((Keep.refl _ w).alloc _) ⟨_, _, _, rfl⟩ (.inl rfl) (fun hz => by cases hz)
set_option maxRecDepth 100000 in
theorem c_d8_false (hp : s.pend = false) (h : RdC R TB DT c n s fv v w) :
  Calls Tryz.prog 82 #[.pointer (some ⟨R, 0, none⟩), .agg (stepG 8 a1 a2 a3 a4 a5 sv)] w (GC R TB DT c n s fv w 0 s 0 0 0 0 0 []) := by
 have hTU := h.ltT
 have hRU := h.ltR
 have HH := hdd h
 obtain ⟨c9, c10, c11, c12⟩ := h.ccells
 rw [hp] at c11
 go_enter Tryz.func82, Tryz.ntmps82
 go_wp2_with fail
 exact gc_ret_new (U := w.heap.size + 1) Tryz.results82 rfl rfl (by simp) HH.out (HH.out.fresh ((Keep.refl _ w).alloc _)) ((Keep.refl _ w).alloc _) ⟨_, _, _, rfl⟩ (.inr (.inr rfl)) (fun _ => ⟨rfl, rfl, rfl, rfl, rfl, rfl, fun w2 => BytesAt.nil _ w2⟩)
set_option maxRecDepth 100000 in
theorem c_d10_false (hp : s.pend = false) (h : RdC R TB DT c n s fv v w) :
  Calls Tryz.prog 82 #[.pointer (some ⟨R, 0, none⟩), .agg (stepG 10 a1 a2 a3 a4 a5 sv)] w (GC R TB DT c n s fv w 0 s 0 0 0 0 0 []) := by
 have hTU := h.ltT
 have hRU := h.ltR
 have HH := hdd h
 obtain ⟨c9, c10, c11, c12⟩ := h.ccells
 rw [hp] at c11
 go_enter Tryz.func82, Tryz.ntmps82
 go_wp2_with fail
 exact gc_ret_new (U := w.heap.size + 1) Tryz.results82 rfl rfl (by simp) HH.out (HH.out.fresh ((Keep.refl _ w).alloc _)) ((Keep.refl _ w).alloc _) ⟨_, _, _, rfl⟩ (.inr (.inr rfl)) (fun _ => ⟨rfl, rfl, rfl, rfl, rfl, rfl, fun w2 => BytesAt.nil _ w2⟩)
set_option maxRecDepth 100000 in
theorem c_d12_false (hp : s.pend = false) (h : RdC R TB DT c n s fv v w) :
  Calls Tryz.prog 82 #[.pointer (some ⟨R, 0, none⟩), .agg (stepG 12 a1 a2 a3 a4 a5 sv)] w (GC R TB DT c n s fv w 0 s 0 0 0 0 0 []) := by
 have hTU := h.ltT
 have hRU := h.ltR
 have HH := hdd h
 obtain ⟨c9, c10, c11, c12⟩ := h.ccells
 rw [hp] at c11
 go_enter Tryz.func82, Tryz.ntmps82
 go_wp2_with fail
 exact gc_ret_new (U := w.heap.size + 1) Tryz.results82 rfl rfl (by simp) HH.out (HH.out.fresh ((Keep.refl _ w).alloc _)) ((Keep.refl _ w).alloc _) ⟨_, _, _, rfl⟩ (.inr (.inr rfl)) (fun _ => ⟨rfl, rfl, rfl, rfl, rfl, rfl, fun w2 => BytesAt.nil _ w2⟩)
set_option maxRecDepth 100000 in
theorem c_d5_false (hp : s.pend = false) (h : RdC R TB DT c n s fv v w) :
  Calls Tryz.prog 82 #[.pointer (some ⟨R, 0, none⟩), .agg (stepG 5 a1 a2 a3 a4 a5 sv)] w (GC R TB DT c n s fv w 0 s 0 0 0 0 0 []) := by
 have hTU := h.ltT
 have hRU := h.ltR
 have HH := hdd h
 obtain ⟨c9, c10, c11, c12⟩ := h.ccells
 rw [hp] at c11
 go_enter Tryz.func82, Tryz.ntmps82
 go_wp2_with fail
 exact gc_ret_new (U := w.heap.size + 1) Tryz.results82 rfl rfl (by simp) HH.out (HH.out.fresh ((Keep.refl _ w).alloc _)) ((Keep.refl _ w).alloc _) ⟨_, _, _, rfl⟩ (.inr (.inr rfl)) (fun _ => ⟨rfl, rfl, rfl, rfl, rfl, rfl, fun w2 => BytesAt.nil _ w2⟩)
set_option maxRecDepth 100000 in
theorem c_d5_true (hp : s.pend = true) (h : RdC R TB DT c n s fv v w) :
  Calls Tryz.prog 82 #[.pointer (some ⟨R, 0, none⟩), .agg (stepG 5 a1 a2 a3 a4 a5 sv)] w (GC R TB DT c n s fv w 0 s 0 0 0 0 0 []) := by
 have hTU := h.ltT
 have hRU := h.ltR
 have HH := hdd h
 obtain ⟨c9, c10, c11, c12⟩ := h.ccells
 rw [hp] at c11
 go_enter Tryz.func82, Tryz.ntmps82
 go_wp2_with fail
 exact gc_ret_new (U := w.heap.size + 1) Tryz.results82 rfl rfl (by simp) HH.out (HH.out.fresh ((Keep.refl _ w).alloc _)) ((Keep.refl _ w).alloc _) ⟨_, _, _, rfl⟩ (.inr (.inr rfl)) (fun _ => ⟨rfl, rfl, rfl, rfl, rfl, rfl, fun w2 => BytesAt.nil _ w2⟩)
end
end Go.Proofs.YtjekbomlpcdojaaGreatDoor
