/- Part 11 of the proof: Bin1, Bin2, Chk1, Bin3, Bin4, Gg0. -/
import Derived.Test.YtjekbomlpcdojaaGreatDoorH4
import Derived.Test.YtjekbomlpcdojaaGreatDoorH5
import Derived.Test.YtjekbomlpcdojaaGreatDoorH6
import Derived.Test.YtjekbomlpcdojaaGreatDoorH10
set_option linter.unusedVariables false
set_option linter.unusedSimpArgs false
set_option linter.unusedSectionVars false
set_option maxHeartbeats 16000000
namespace Go.Proofs.YtjekbomlpcdojaaGreatDoor
open Go Go.RowKit
abbrev ctxV : Value := .iface 270 (.agg #[])
structure Cfg where
 plain : Bool
 msg : Int
 frame : Int
 cont : Int
 sr : Bool
 sw : Bool
 p : Int
def Cfg.b (c : Cfg) : Int := if c.p = 1 then 0 else c.p
theorem Cfg.b_ne' (c : Cfg) : ¬ c.b = 1 := by unfold Cfg.b; split <;> omega
theorem Cfg.b_ne (c : Cfg) : (c.b == 1) = false := by simpa using c.b_ne'
theorem Cfg.b_eq {c : Cfg} (h : ¬ c.p = 1) : c.b = c.p := by unfold Cfg.b; rw [if_neg h]
def Cfg.ok (c : Cfg) : Prop := -2147483648 ≤ c.msg ∧ c.msg ≤ 2147483647 ∧ -2147483648 ≤ c.frame ∧ c.frame ≤ 2147483647 ∧ -2147483648 ≤ c.cont ∧ c.cont ≤ 2147483647
def Cfg.maxMsg (c : Cfg) : Int := if c.plain = true then 104857600 else if c.msg ≤ 0 then 104857600 else c.msg
def Cfg.maxCont (c : Cfg) : Int := if c.plain = true then 2147483647 else if c.cont ≤ 0 then 2147483647 else c.cont
def CfgAt (M : Nat → Prop) (w : World) (a : Option Addr) (c : Cfg) : Prop :=
 (c.plain = true ∧ a = none) ∨ (c.plain = false ∧ ∃ b r s, a = some ⟨b, 0, none⟩ ∧ ¬ M b ∧ ¬ M r ∧ ¬ M s ∧
  w.heap[b]? = some (.cells #[.int .i32 c.msg, .int .i32 c.frame, .int .i32 c.cont, .pointer (some ⟨r, 0, none⟩), .pointer (some ⟨s, 0, none⟩), .bool false] 262 (0, 0)) ∧
  w.cell? ⟨r, 0, none⟩ = some (.bool c.sr) ∧ w.cell? ⟨s, 0, none⟩ = some (.bool c.sw))
theorem CfgAt.keep {M N : Nat → Prop} {w w' : World} {a : Option Addr} {c : Cfg} (h : CfgAt M w a c) (k : Keep N w w') (hN : ∀ i, N i → M i) : CfgAt M w' a c := by
 rcases h with h | ⟨hp, b, r, s, ha, hb, hr, hs, h1, h2, h3⟩
 ·exact .inl h
 ·exact .inr ⟨hp, b, r, s, ha, hb, hr, hs, (k.block b (lt_of_heap h1) (fun x => hb (hN _ x))).trans h1,
   (k.cell (p := ⟨r, 0, none⟩) (lt_of_cell h2) (fun x => hr (hN _ x))).trans h2, (k.cell (p := ⟨s, 0, none⟩) (lt_of_cell h3) (fun x => hs (hN _ x))).trans h3⟩
abbrev MB2 (P B : Nat) : Nat → Prop := fun i => B = i ∨ P = i
structure BinP (E : Env) (P MB B D : Nat) (a : Option Addr) (c : Cfg) (rem : List UInt8) (w : World) : Prop where
 blk : ∃ sc : List UInt8, sc.length = 64 ∧ w.heap[P]? = some (.cells (memV MB :: memV MB :: .pointer a :: bcells sc).toArray 264 (0, 0))
 mem : Mem E w MB B D rem
 glob : Glob E w
 cfg : CfgAt (MB2 P B) w a c
 cok : c.ok
 base : E.base ≤ P
 neM : P ≠ MB
 neB : P ≠ B
 neD : P ≠ D
theorem MB2_base {E : Env} {P MB B D : Nat} {a : Option Addr} {c : Cfg} {rem : List UInt8} {w : World} (h : BinP E P MB B D a c rem w) : ∀ i, MB2 P B i → E.base ≤ i := by
 have := h.base
 have := h.mem.baseB
 rintro i (e | e) <;> omega
theorem splice_three {α : Type} (a b c : α) (l : List α) (cs : List α) : splice (a :: b :: c :: l) 3 cs = a :: b :: c :: splice l 0 cs := by
 simp [splice, Nat.add_comm 3]
theorem bcells_splice (l cs : List UInt8) (o : Nat) : splice (bcells l) o (bcells cs) = bcells (splice l o cs) := by
 simp [splice, bcells]
theorem BinP.step {E : Env} {P MB B D : Nat} {a : Option Addr} {c : Cfg} {rem rem' : List UInt8} {w w' : World} (h : BinP E P MB B D a c rem w) (hm : Mem E w' MB B D rem') (k : Keep (MB2 P B) w w')
  (hb : ∃ sc : List UInt8, sc.length = 64 ∧ w'.heap[P]? = some (.cells (memV MB :: memV MB :: .pointer a :: bcells sc).toArray 264 (0, 0))) : BinP E P MB B D a c rem' w' :=
 ⟨hb, hm, h.glob.keep k (MB2_base h), h.cfg.keep k (fun _ x => x), h.cok, h.base, h.neM, h.neB, h.neD⟩
theorem BinP.keep {E : Env} {P MB B D : Nat} {a : Option Addr} {c : Cfg} {rem : List UInt8} {w w' : World} {M : Nat → Prop} (h : BinP E P MB B D a c rem w) (k : Keep M w w')
  (hP : ¬ M P) (hM : ¬ M MB) (hB : ¬ M B) (hD : ¬ M D) (hE : ∀ i, M i → E.base ≤ i) (hC : CfgAt (MB2 P B) w' a c) : BinP E P MB B D a c rem w' := by
 obtain ⟨sc, h1, h2⟩ := h.blk
 exact ⟨⟨sc, h1, (k.block P (lt_of_heap h2) hP).trans h2⟩, h.mem.keep k hM hB hD, h.glob.keep k hE, hC, h.cok, h.base, h.neM, h.neB, h.neD⟩
theorem BinP.eqv {E : Env} {P MB B D : Nat} {a : Option Addr} {c : Cfg} {rem : List UInt8} {w w' : World} (h : BinP E P MB B D a c rem w) (he : Eqv w w') : BinP E P MB B D a c rem w' :=
 h.keep (he.keep (fun _ => False)) id id id id (fun _ x => x.elim) (h.cfg.keep (he.keep (fun _ => False)) (fun _ x => x.elim))
theorem BinP.fresh {E : Env} {P MB B D : Nat} {a : Option Addr} {c : Cfg} {rem : List UInt8} {w w' : World} (h : BinP E P MB B D a c rem w) (k : Keep (fun _ => False) w w') : BinP E P MB B D a c rem w' :=
 h.keep k id id id id (fun _ x => x.elim) (h.cfg.keep k (fun _ x => x.elim))
theorem bin_block {w' : World} {P : Nat} {v1 v2 v3 : Value} {T : TypeId} {sc cs : List UInt8} (h : w'.heap[P]? = some (.cells (splice (v1 :: v2 :: v3 :: bcells sc) 3 (bcells cs)).toArray T (0, 0))) (hsc : sc.length = 64) (hcs : cs.length ≤ 64) :
  ∃ sc' : List UInt8, sc'.length = 64 ∧ w'.heap[P]? = some (.cells (v1 :: v2 :: v3 :: bcells sc').toArray T (0, 0)) ∧ sc'.take cs.length = cs := by
 refine ⟨splice sc 0 cs, by rw [length_splice _ _ _ (by omega)]; exact hsc, ?_, by simp [splice]⟩
 rw [h, splice_three, bcells_splice]
theorem bin_readFull {E : Env} {P MB B D : Nat} {a : Option Addr} {c : Cfg} {rem : List UInt8} {w : World} (h : BinP E P MB B D a c rem w) (n k : Nat) (hn : 0 < n) (hnk : n ≤ k) (hk : n ≤ 64) :
  Calls Tryz.prog 270 #[memV MB, .slice (some ⟨P, 3, none⟩) n k] w fun e w' => ∃ ev, e = .returned (.tuple #[.int .i64 (min n rem.length : Nat), ev]) ∧ ErrAt E w.heap.size w' ev (endK n rem) ∧
   BinP E P MB B D a c (rem.drop n) w' ∧ Keep (MB2 P B) w w' ∧
   (∃ sc : List UInt8, sc.length = 64 ∧ w'.heap[P]? = some (.cells (memV MB :: memV MB :: .pointer a :: bcells sc).toArray 264 (0, 0)) ∧ sc.take (min n rem.length) = rem.take n) := by
 obtain ⟨sc, h1, h2⟩ := h.blk
 have hnB := h.neB
 have hnM := h.neM
 have hnD := h.neD
 go_enter Tryz.func270, Tryz.ntmps270
 go_wp2_with fail
 by_cases hl : n ≤ rem.length
 ·refine (readAtLeast_all (T := 264) h.mem hl hn (by omega) h2 hnB hnD hnM (by simp; omega)).mono ?_
  rintro e w1 ⟨rfl, hm1, hb1, hk1⟩
  have hk2 : Keep (MB2 P B) w w1 := hk1
  obtain ⟨sc', e1, e2, e3⟩ := bin_block hb1 h1 (by simp; omega)
  go_wp2_with fail
  go_ret2
  have hmin : min n rem.length = n := by omega
  rw [hmin]
  refine ⟨_, rfl, ?_, h.step hm1 hk2 ⟨sc', e1, e2⟩, hk2, sc', e1, e2, ?_⟩
  ·rw [endK, if_pos hl]; exact ErrAt.nil _ _ _
  ·simpa [hmin] using e3
 ·by_cases hz : rem = []
  ·subst hz
   refine (readAtLeast_end h.glob h.mem hn hnk (by omega)).mono ?_
   rintro e w1 ⟨rfl, hm1, hk1⟩
   have hk2 : Keep (MB2 P B) w w1 := hk1.weak (fun _ _ x => .inl x)
   have hb1 := (hk1.block P (lt_of_heap h2) (fun e => hnB e.symm)).trans h2
   go_wp2_with fail
   go_ret2
   refine ⟨eofV E, by simp, ?_, h.step (by simpa using hm1) hk2 ⟨sc, h1, hb1⟩, hk2, sc, h1, hb1, by simp⟩
   simp only [endK, if_neg hl]
   exact .inr (.inl ⟨rfl, rfl⟩)
  ·refine (readAtLeast_some (T := 264) h.glob h.mem (by omega) hz hnk (by omega) h2 hnB hnD hnM h.base (by simp; omega)).mono ?_
   rintro e w1 ⟨rfl, hm1, hb1, hk1⟩
   have hk2 : Keep (MB2 P B) w w1 := hk1
   obtain ⟨sc', e1, e2, e3⟩ := bin_block hb1 h1 (by omega)
   go_wp2_with fail
   go_ret2
   have hmin : min n rem.length = rem.length := by omega
   rw [hmin]
   refine ⟨_, rfl, ?_, h.step (by rw [List.drop_of_length_le (by omega)]; exact hm1) hk2 ⟨sc', e1, e2⟩, hk2, sc', e1, e2, ?_⟩
   ·rw [endK, if_neg hl, if_neg (by simpa using hz)]
    exact .inr (.inr (.inl ⟨rfl, rfl⟩))
   ·rw [e3, List.take_of_length_le (by omega)]
theorem ctx_deadline (w : World) : Calls Tryz.prog 368 #[.agg #[]] w fun e w' => e = .returned (.tuple #[.agg #[], .bool false]) ∧ Keep (fun _ => False) w w' := by
 go_enter Tryz.func368, Tryz.ntmps368
 go_wp2_with fail
 refine bodyPost_ret (v := .tuple #[.agg #[], .bool false]) (by simp [results, Tryz.results368, go_sem]) rfl ⟨rfl, ?_⟩
 exact (((Keep.refl _ w).alloc _).alloc _)
def fullK (n : Nat) (rem : List UInt8) : Int := if n ≤ rem.length then 0 else 10
theorem pk_endK (n : Nat) (rem : List UInt8) : pk (endK n rem) = fullK n rem := by
 unfold endK fullK pk
 by_cases h : n ≤ rem.length
 ·simp [h]
 ·rw [if_neg h, if_neg h]
  by_cases h0 : rem.length = 0
  ·rw [if_pos h0]; decide
  ·rw [if_neg h0]; decide
theorem bin_readAll {E : Env} {P MB B D : Nat} {a : Option Addr} {c : Cfg} {rem : List UInt8} {w : World} (h : BinP E P MB B D a c rem w) (n k : Nat) (hn : 0 < n) (hnk : n ≤ k) (hk : n ≤ 64) :
  Calls Tryz.prog 342 #[.pointer (some ⟨P, 0, none⟩), ctxV, .slice (some ⟨P, 3, none⟩) n k] w fun e w' => ∃ ev, e = .returned ev ∧ ErrAt E w.heap.size w' ev (fullK n rem) ∧
   BinP E P MB B D a c (rem.drop n) w' ∧ Keep (MB2 P B) w w' ∧
   (∃ sc : List UInt8, sc.length = 64 ∧ w'.heap[P]? = some (.cells (memV MB :: memV MB :: .pointer a :: bcells sc).toArray 264 (0, 0)) ∧ sc.take (min n rem.length) = rem.take n) := by
 go_enter Tryz.func342, Tryz.ntmps342
 go_wp2_with fail
 refine (ctx_deadline _).mono ?_
 rintro e w1 ⟨rfl, hk1⟩
 go_wp2_with fail
 generalize hw2 : w1.alloc (.cells #[] 419) = w2
 have hk2 : Keep (fun _ => False) w w2 := hw2 ▸ hk1.alloc _
 clear hw2 hk1
 have h2 := h.fresh hk2
 obtain ⟨sc, e1, e2⟩ := h2.blk
 have c0 : w2.cell? ⟨P, 0, none⟩ = some (memV MB) := by simp [cellAt e2 0]
 refine wp_loop_rounds 1 ?_
 rw [rounds_succ]
 go_wp2_with fail
 refine (bin_readFull h2 n k hn hnk hk).mono ?_
 rintro e w3 ⟨ev, rfl, he3, h3, hk3, hsc3⟩
 go_wp2_with fail
 refine (newPExc h3.glob (n0 := w.heap.size) (by have := hk2.size; have := hk3.size; omega) (he3.mono hk2.size) (by unfold endK; split; omega; split <;> omega)).mono ?_
 rintro e w4 ⟨ev', rfl, he4, hk4⟩
 go_wp2_with fail
 go_ret
 have hk5 : Keep (MB2 P B) w w4 := (hk2.weak (fun _ _ x => x.elim)).then (hk3.then (hk4.weak (fun _ _ x => x.elim)))
 refine ⟨_, rfl, by rw [← pk_endK]; exact he4, h3.fresh hk4, hk5, ?_⟩
 obtain ⟨sc', f1, f2, f3⟩ := hsc3
 exact ⟨sc', f1, (hk4.block P (lt_of_heap f2) id).trans f2, f3⟩
theorem cell_sc {w : World} {P : Nat} {v1 v2 v3 : Value} {T : TypeId} {sc : List UInt8} (h : w.heap[P]? = some (.cells (v1 :: v2 :: v3 :: bcells sc).toArray T (0, 0))) (j : Nat) (hj : j < sc.length) :
  w.cell? ⟨P, 3 + j, none⟩ = some (.int .u8 (sc[j].toNat : Int)) := by
 rw [cellAt h, show 3 + j = j + 1 + 1 + 1 by omega]
 simp [hj]
theorem take_four {sc l : List UInt8} {n : Nat} (hs : sc.length = 64) (h : sc.take (min n l.length) = l.take n) (hn : n ≤ l.length) : sc.take n = l.take n := by
 rwa [Nat.min_eq_left hn] at h
theorem take2 {sc : List UInt8} (hs : sc.length = 64) : sc.take 2 = [sc[0], sc[1]] := by
 rw [show (2 : Nat) = 0 + 1 + 1 by rfl, List.take_add_one, List.take_add_one]; simp [hs]
theorem take4 {sc : List UInt8} (hs : sc.length = 64) : sc.take 4 = [sc[0], sc[1], sc[2], sc[3]] := by
 rw [show (4 : Nat) = 0 + 1 + 1 + 1 + 1 by rfl]; simp only [List.take_add_one]; simp [hs]
theorem take8 {sc : List UInt8} (hs : sc.length = 64) : sc.take 8 = [sc[0], sc[1], sc[2], sc[3], sc[4], sc[5], sc[6], sc[7]] := by
 rw [show (8 : Nat) = 0 + 1 + 1 + 1 + 1 + 1 + 1 + 1 + 1 by rfl]; simp only [List.take_add_one]; simp [hs]
theorem i16_bd (n : Int) : -32768 ≤ IntKind.i16.wrap n ∧ IntKind.i16.wrap n ≤ 32767 := by simp [IntKind.wrap, IntKind.bits, IntKind.signed]; split <;> omega
theorem bin_readI32 {E : Env} {P MB B D : Nat} {a : Option Addr} {c : Cfg} {rem : List UInt8} {w : World} (h : BinP E P MB B D a c rem w) :
  Calls Tryz.prog 303 #[.pointer (some ⟨P, 0, none⟩), ctxV] w fun e w' => ∃ n ev, e = .returned (.tuple #[.int .i32 n, ev]) ∧ ErrAt E w.heap.size w' ev (fullK 4 rem) ∧
   BinP E P MB B D a c (rem.drop 4) w' ∧ Keep (MB2 P B) w w' ∧ (-2147483648 ≤ n ∧ n ≤ 2147483647) ∧ (4 ≤ rem.length → n = wrap32 (Lib.beNat (rem.take 4))) := by
 go_enter Tryz.func303, Tryz.ntmps303
 go_wp2_with fail
 refine (bin_readAll h 4 64 (by omega) (by omega) (by omega)).mono ?_
 rintro e w1 ⟨ev, rfl, he1, h1, hk1, sc, hs, hb, ht⟩
 go_wp2_with fail
 refine (Tryz.binary_BE_Uint32 P 3 4 64 sc[0] sc[1] sc[2] sc[3] _ (by omega) (cell_sc hb 0 (by omega)) (cell_sc hb 1 (by omega)) (cell_sc hb 2 (by omega)) (cell_sc hb 3 (by omega))).mono ?_
 rintro e w2 ⟨rfl, hb2⟩
 have hk2 := Keep.of_below hb2 (fun _ => False)
 go_wp2_with fail
 go_ret2
 refine ⟨_, _, rfl, he1.keep hk2 (fun _ _ => id), h1.fresh hk2, hk1.then (hk2.weak (fun _ _ x => x.elim)), ?_, fun hl => ?_⟩
 ·simp only [wrap32]; omega
 ·rw [← take_four hs ht hl, take4 hs]
theorem bin_readI16 {E : Env} {P MB B D : Nat} {a : Option Addr} {c : Cfg} {rem : List UInt8} {w : World} (h : BinP E P MB B D a c rem w) :
  Calls Tryz.prog 302 #[.pointer (some ⟨P, 0, none⟩), ctxV] w fun e w' => ∃ n ev, e = .returned (.tuple #[.int .i16 n, ev]) ∧ ErrAt E w.heap.size w' ev (fullK 2 rem) ∧
   BinP E P MB B D a c (rem.drop 2) w' ∧ Keep (MB2 P B) w w' ∧ (-32768 ≤ n ∧ n ≤ 32767) ∧ (2 ≤ rem.length → n = IntKind.i16.wrap (Lib.beNat (rem.take 2))) := by
 go_enter Tryz.func302, Tryz.ntmps302
 go_wp2_with fail
 refine (bin_readAll h 2 64 (by omega) (by omega) (by omega)).mono ?_
 rintro e w1 ⟨ev, rfl, he1, h1, hk1, sc, hs, hb, ht⟩
 go_wp2_with fail
 refine (Tryz.binary_BE_Uint16 P 3 2 64 sc[0] sc[1] _ (by omega) (cell_sc hb 0 (by omega)) (cell_sc hb 1 (by omega))).mono ?_
 rintro e w2 ⟨rfl, hb2⟩
 have hk2 := Keep.of_below hb2 (fun _ => False)
 go_wp2_with fail
 go_ret2
 refine ⟨_, _, rfl, he1.keep hk2 (fun _ _ => id), h1.fresh hk2, hk1.then (hk2.weak (fun _ _ x => x.elim)), ?_, fun hl => ?_⟩
 ·exact i16_bd _
 ·rw [← take_four hs ht hl, take2 hs]
theorem bin_readI64 {E : Env} {P MB B D : Nat} {a : Option Addr} {c : Cfg} {rem : List UInt8} {w : World} (h : BinP E P MB B D a c rem w) :
  Calls Tryz.prog 304 #[.pointer (some ⟨P, 0, none⟩), ctxV] w fun e w' => ∃ n ev, e = .returned (.tuple #[.int .i64 n, ev]) ∧ ErrAt E w.heap.size w' ev (fullK 8 rem) ∧
   BinP E P MB B D a c (rem.drop 8) w' ∧ Keep (MB2 P B) w w' ∧ (-9223372036854775808 ≤ n ∧ n ≤ 9223372036854775807) ∧ (8 ≤ rem.length → n = wrap64 (Lib.beNat (rem.take 8))) := by
 go_enter Tryz.func304, Tryz.ntmps304
 go_wp2_with fail
 refine (bin_readAll h 8 64 (by omega) (by omega) (by omega)).mono ?_
 rintro e w1 ⟨ev, rfl, he1, h1, hk1, sc, hs, hb, ht⟩
 go_wp2_with fail
 refine (Tryz.binary_BE_Uint64 P 3 8 64 sc[0] sc[1] sc[2] sc[3] sc[4] sc[5] sc[6] sc[7] _ (by omega) (cell_sc hb 0 (by omega)) (cell_sc hb 1 (by omega)) (cell_sc hb 2 (by omega)) (cell_sc hb 3 (by omega)) (cell_sc hb 4 (by omega)) (cell_sc hb 5 (by omega)) (cell_sc hb 6 (by omega)) (cell_sc hb 7 (by omega))).mono ?_
 rintro e w2 ⟨rfl, hb2⟩
 have hk2 := Keep.of_below hb2 (fun _ => False)
 go_wp2_with fail
 go_ret2
 refine ⟨_, _, rfl, he1.keep hk2 (fun _ _ => id), h1.fresh hk2, hk1.then (hk2.weak (fun _ _ x => x.elim)), ?_, fun hl => ?_⟩
 ·simp only [wrap64]; omega
 ·rw [← take_four hs ht hl, take8 hs]
theorem bin_readByte {E : Env} {P MB B D : Nat} {a : Option Addr} {c : Cfg} {rem : List UInt8} {w : World} (h : BinP E P MB B D a c rem w) :
  Calls Tryz.prog 298 #[.pointer (some ⟨P, 0, none⟩), ctxV] w fun e w' => ∃ n ev, e = .returned (.tuple #[.int .i8 n, ev]) ∧ ErrAt E w.heap.size w' ev (endK 1 rem) ∧
   BinP E P MB B D a c (rem.drop 1) w' ∧ Keep (MB2 P B) w w' ∧ (-128 ≤ n ∧ n ≤ 127) ∧ (∀ b r, rem = b :: r → n = IntKind.i8.wrap b.toNat) := by
 obtain ⟨sc, e1, e2⟩ := h.blk
 have c0 : w.cell? ⟨P, 0, none⟩ = some (memV MB) := by simp [cellAt e2 0]
 have hmt := method_mem h.mem.mb 596 "ReadByte" 202 mem_ReadByte
 simp only [Nat.reduceAdd] at hmt
 have i8_bd : ∀ n, -128 ≤ IntKind.i8.wrap n ∧ IntKind.i8.wrap n ≤ 127 := fun n => by simp [IntKind.wrap, IntKind.bits, IntKind.signed]; split <;> omega
 have Hi8 := hdd i8_bd
 clear i8_bd
 cases rem with
 | nil =>
  go_enter Tryz.func298, Tryz.ntmps298
  go_wp2_with fail
  refine (buf_readByte_end h.glob h.mem.baseB h.mem.buf).mono ?_
  rintro e w1 ⟨rfl, hb1, hk1⟩
  have hk2 : Keep (MB2 P B) w w1 := hk1.weak (fun _ _ x => .inl x)
  go_wp2_with fail
  go_ret2
  exact ⟨0, _, rfl, .inr (.inl ⟨rfl, rfl⟩), h.step (h.mem.of hb1 hk1 (fun e => h.mem.ne e.symm)) hk2 ⟨sc, e1, (hk1.block P (lt_of_heap e2) (fun e => h.neB e.symm)).trans e2⟩, hk2, by omega, by simp⟩
 | cons b r =>
  go_enter Tryz.func298, Tryz.ntmps298
  go_wp2_with fail
  refine (buf_readByte h.mem.buf).mono ?_
  rintro e w1 ⟨rfl, hb1, hk1⟩
  have hk2 : Keep (MB2 P B) w w1 := hk1.weak (fun _ _ x => .inl x)
  go_wp2_with fail
  go_ret2
  refine ⟨_, _, rfl, ?_, h.step (h.mem.of hb1 hk1 (fun e => h.mem.ne e.symm)) hk2 ⟨sc, e1, (hk1.block P (lt_of_heap e2) (fun e => h.neB e.symm)).trans e2⟩, hk2, Hi8.out _, ?_⟩
  ·rw [endK, if_pos (by simp)]; exact ErrAt.nil _ _ _
  ·rintro b' r' hb; cases hb; rfl
theorem bool_byte (b : UInt8) (h : (1 : Int) = IntKind.i8.wrap b.toNat) : true = (b == 1) := by
 simp [IntKind.wrap, IntKind.bits, IntKind.signed] at h
 have hb := b.toNat_lt
 have h1 : b.toNat = 1 := by split at h <;> omega
 have : b = 1 := UInt8.toNat_inj.1 (by simpa using h1)
 simp [this]
theorem bool_byte' (b : UInt8) (h : ¬ IntKind.i8.wrap b.toNat = 1) : false = (b == 1) := by
 have h2 : b ≠ 1 := fun e => by subst e; exact h (by decide)
 simp [h2]
theorem bin_readBool {E : Env} {P MB B D : Nat} {a : Option Addr} {c : Cfg} {rem : List UInt8} {w : World} (h : BinP E P MB B D a c rem w) :
  Calls Tryz.prog 297 #[.pointer (some ⟨P, 0, none⟩), ctxV] w fun e w' => ∃ v ev, e = .returned (.tuple #[.bool v, ev]) ∧ ErrAt E w.heap.size w' ev (endK 1 rem) ∧
   BinP E P MB B D a c (rem.drop 1) w' ∧ Keep (MB2 P B) w w' ∧ (∀ b r, rem = b :: r → v = (b == 1)) := by
 go_enter Tryz.func297, Tryz.ntmps297
 go_wp2_with fail
 refine (bin_readByte h).mono ?_
 rintro e w1 ⟨n, ev, rfl, he1, h1, hk1, hn, hv⟩
 by_cases hn1 : n = 1
 ·subst hn1
  go_wp2_with fail
  go_ret2
  refine ⟨_, _, rfl, he1, h1, hk1, fun b r hb => ?_⟩
  have h2 := hv b r hb
  revert h2
  exact bool_byte b
 ·have hd : (n != 1) = true := by simpa using hn1
  go_wp2_with fail
  go_ret2
  refine ⟨_, _, rfl, he1, h1, hk1, fun b r hb => ?_⟩
  have h2 := hv b r hb
  subst h2
  revert hn1
  exact bool_byte' b
theorem frombits (n : Nat) (w : World) : (callFunc 92 #[.int .u64 (n : Int)]).run Tryz.prog w = .ok (.value (.float .f64 n)) w := by
 rw [run_callFunc_extern Tryz.func92 (by kernel_rfl) (by kernel_rfl) (by kernel_rfl) (e := Extern.MathFloatBits.float64frombits) (by kernel_rfl)]
 rfl
theorem beFrom_lt : ∀ (l : List UInt8) (acc : Nat), Lib.beFrom acc l < (acc + 1) * 256 ^ l.length
 | [], acc => by simp [Lib.beFrom]
 | b :: r, acc => by
  have h := beFrom_lt r (acc * 256 + b.toNat)
  have hb := b.toNat_lt
  simp only [Lib.beFrom, List.length_cons, Nat.pow_succ]
  have h2 : (acc * 256 + b.toNat + 1) * 256 ^ r.length ≤ ((acc + 1) * 256) * 256 ^ r.length := Nat.mul_le_mul_right _ (by omega)
  rw [Nat.mul_comm (256 ^ r.length) 256, ← Nat.mul_assoc]
  omega
theorem bin_readDouble {E : Env} {P MB B D : Nat} {a : Option Addr} {c : Cfg} {rem : List UInt8} {w : World} (h : BinP E P MB B D a c rem w) :
  Calls Tryz.prog 299 #[.pointer (some ⟨P, 0, none⟩), ctxV] w fun e w' => ∃ n ev, e = .returned (.tuple #[.float .f64 n, ev]) ∧ ErrAt E w.heap.size w' ev (fullK 8 rem) ∧
   BinP E P MB B D a c (rem.drop 8) w' ∧ Keep (MB2 P B) w w' ∧ n < 18446744073709551616 ∧ (8 ≤ rem.length → n = Lib.beNat (rem.take 8)) := by
 go_enter Tryz.func299, Tryz.ntmps299
 go_wp2_with fail
 refine (bin_readAll h 8 64 (by omega) (by omega) (by omega)).mono ?_
 rintro e w1 ⟨ev, rfl, he1, h1, hk1, sc, hs, hb, ht⟩
 go_wp2_with fail
 refine (Tryz.binary_BE_Uint64 P 3 8 64 sc[0] sc[1] sc[2] sc[3] sc[4] sc[5] sc[6] sc[7] _ (by omega) (cell_sc hb 0 (by omega)) (cell_sc hb 1 (by omega)) (cell_sc hb 2 (by omega)) (cell_sc hb 3 (by omega)) (cell_sc hb 4 (by omega)) (cell_sc hb 5 (by omega)) (cell_sc hb 6 (by omega)) (cell_sc hb 7 (by omega))).mono ?_
 rintro e w2 ⟨rfl, hb2⟩
 have hk2 := Keep.of_below hb2 (fun _ => False)
 have hfb := frombits
 generalize hn : Lib.beNat [sc[0], sc[1], sc[2], sc[3], sc[4], sc[5], sc[6], sc[7]] = n
 have hlt : n < 18446744073709551616 := by rw [← hn]; exact Nat.lt_of_lt_of_le (beFrom_lt _ 0) (by simp)
 have Hn := hdd hn
 have Hlt := hdd hlt
 clear hn hlt
 go_wp2_with fail
 go_ret2
 refine ⟨_, _, rfl, he1.keep hk2 (fun _ _ => id), h1.fresh hk2, hk1.then (hk2.weak (fun _ _ x => x.elim)), Hlt.out, fun hl => ?_⟩
 rw [← take_four hs ht hl, take8 hs, Hn.out]
theorem errNew (s : ByteArray) (w : World) : Calls Tryz.prog 77 #[.string s] w fun e w' =>
  ∃ b, e = .returned (.iface 273 (.pointer (some ⟨b, 0, none⟩))) ∧ w'.cell? ⟨b, 0, none⟩ = some (.string s) ∧ w.heap.size ≤ b ∧ Keep (fun _ => False) w w' := by
 go_enter Tryz.func77, Tryz.ntmps77
 go_wp2_with fail
 go_ret
 exact ⟨_, rfl, by simp, Nat.le_refl _, (Keep.refl _ w).alloc _⟩
theorem newPExcT' {E : Env} {n0 : Nat} (id : Int) (hid : 0 ≤ id ∧ id ≤ 6) (b o : Nat) (s : ByteArray) (w : World) (hb : w.cell? ⟨b, o, none⟩ = some (.string s)) (hn : n0 ≤ w.heap.size) :
  Calls Tryz.prog 106 #[.int .i64 id, .iface 273 (.pointer (some ⟨b, o, none⟩))] w fun e w' =>
   ∃ v, e = .returned v ∧ ErrAt E n0 w' v (10 + id) ∧ Keep (fun _ => False) w w' := by
 refine (newPExcT id b o s w hb).mono ?_
 rintro e w' ⟨rfl, rfl⟩
 refine ⟨_, rfl, .inr (.inr (.inr (.inl ⟨by omega, by omega, ?_⟩))), (Keep.refl _ w).alloc _⟩
 rw [show (10 : Int) + id - 10 = id by omega]
 exact PExc.new n0 w id _ s hn
theorem maxMsg_any {M : Nat → Prop} {w : World} {a : Option Addr} {c : Cfg} (h : CfgAt M w a c) (hc : c.ok) : Calls Tryz.prog 288 #[.pointer a] w fun e w' => e = .returned (.int .i32 c.maxMsg) ∧ Keep (fun _ => False) w w' := by
 rcases h with ⟨hp, rfl⟩ | ⟨hp, b, r, s, rfl, _, _, _, hb, _, _⟩
 ·have hm : c.maxMsg = 104857600 := by simp [Cfg.maxMsg, hp]
  rw [hm]
  go_enter Tryz.func288, Tryz.ntmps288
  go_wp2_with fail
  go_ret
  exact ⟨rfl, Keep.refl _ _⟩
 ·have c0 := cellAt hb 0
  simp at c0
  by_cases hm : c.msg ≤ 0
  ·have hq : c.maxMsg = 104857600 := by simp [Cfg.maxMsg, hp, hm]
   rw [hq]
   go_enter Tryz.func288, Tryz.ntmps288
   go_wp2_with fail
   go_ret
   exact ⟨rfl, Keep.refl _ _⟩
  ·have hq : c.maxMsg = c.msg := by simp [Cfg.maxMsg, hp, hm]
   rw [hq]
   go_enter Tryz.func288, Tryz.ntmps288
   go_wp2_with fail
   go_ret
   exact ⟨rfl, Keep.refl _ _⟩
theorem maxCont_any {M : Nat → Prop} {w : World} {a : Option Addr} {c : Cfg} (h : CfgAt M w a c) (hc : c.ok) : Calls Tryz.prog 291 #[.pointer a] w fun e w' => e = .returned (.int .i32 c.maxCont) ∧ Keep (fun _ => False) w w' := by
 rcases h with ⟨hp, rfl⟩ | ⟨hp, b, r, s, rfl, _, _, _, hb, _, _⟩
 ·have hm : c.maxCont = 2147483647 := by simp [Cfg.maxCont, hp]
  rw [hm]
  go_enter Tryz.func291, Tryz.ntmps291
  go_wp2_with fail
  go_ret
  exact ⟨rfl, Keep.refl _ _⟩
 ·have c0 := cellAt hb 2
  simp at c0
  by_cases hm : c.cont ≤ 0
  ·have hq : c.maxCont = 2147483647 := by simp [Cfg.maxCont, hp, hm]
   rw [hq]
   go_enter Tryz.func291, Tryz.ntmps291
   go_wp2_with fail
   go_ret
   exact ⟨rfl, Keep.refl _ _⟩
  ·have hq : c.maxCont = c.cont := by simp [Cfg.maxCont, hp, hm]
   rw [hq]
   go_enter Tryz.func291, Tryz.ntmps291
   go_wp2_with fail
   go_ret
   exact ⟨rfl, Keep.refl _ _⟩
theorem Cfg.msg_bd {c : Cfg} (h : c.ok) : 0 < c.maxMsg ∧ c.maxMsg ≤ 2147483647 := by
 obtain ⟨h1, h2, _⟩ := h
 unfold Cfg.maxMsg; split; omega; split <;> omega
theorem Cfg.cont_bd {c : Cfg} (h : c.ok) : 0 < c.maxCont ∧ c.maxCont ≤ 2147483647 := by
 obtain ⟨h1, h2, h3, h4, h5, h6⟩ := h
 unfold Cfg.maxCont; split; omega; split <;> omega
def sizeK (size : Int) (c : Cfg) : Int := if size < 0 then 12 else if c.maxMsg < size then 13 else 0
theorem checkSize {E : Env} {n0 : Nat} {M : Nat → Prop} {w : World} {a : Option Addr} {c : Cfg} (size : Int) (hs : size ≤ 2147483647) (h : CfgAt M w a c) (hc : c.ok) (hn : n0 ≤ w.heap.size) :
  Calls Tryz.prog 267 #[.int .i32 size, .pointer a] w fun e w' => ∃ v, e = .returned v ∧ ErrAt E n0 w' v (sizeK size c) ∧ Keep (fun _ => False) w w' := by
 have hm := Cfg.msg_bd hc
 by_cases h1 : size < 0
 ·rw [sizeK, if_pos h1]
  go_enter Tryz.func267, Tryz.ntmps267
  go_wp2_with fail
  refine (errNew _ _).mono ?_
  rintro e w8 ⟨b, rfl, hb, _, hk8⟩
  go_wp2_with fail
  refine (newPExcT' (E := E) (n0 := n0) 2 (by omega) b 0 _ _ hb (hk8.lt hn)).mono ?_
  rintro e w9 ⟨v, rfl, hv, hk9⟩
  go_wp2_with fail
  go_ret
  exact ⟨_, rfl, hv, hk8.then hk9⟩
 ·rw [sizeK, if_neg h1]
  by_cases h2 : c.maxMsg < size
  ·rw [if_pos h2]
   go_enter Tryz.func267, Tryz.ntmps267
   go_wp2_with fail
   refine (maxMsg_any h hc).mono ?_
   rintro e w1 ⟨rfl, hk1⟩
   go_wp2_with fail
   refine (errNew _ _).mono ?_
   rintro e w8 ⟨b, rfl, hb, _, hk8⟩
   go_wp2_with fail
   refine (newPExcT' (E := E) (n0 := n0) 3 (by omega) b 0 _ _ hb (hk8.lt (hk1.lt hn))).mono ?_
   rintro e w9 ⟨v, rfl, hv, hk9⟩
   go_wp2_with fail
   go_ret
   exact ⟨_, rfl, hv, hk1.then (hk8.then hk9)⟩
  ·rw [if_neg h2]
   go_enter Tryz.func267, Tryz.ntmps267
   go_wp2_with fail
   refine (maxMsg_any h hc).mono ?_
   rintro e w1 ⟨rfl, hk1⟩
   go_wp2_with fail
   go_ret
   exact ⟨_, rfl, ErrAt.nil _ _ _, hk1⟩
def contK (size min rem : Int) (c : Cfg) : Int :=
 if size < 0 then 12 else if c.maxCont < size then 13 else if 2147483647 < size * min then 13 else if rem < size * min then 13 else if c.maxMsg < size * min then 13 else 0
theorem checkCont {E : Env} {n0 : Nat} {M : Nat → Prop} {w : World} {a : Option Addr} {c : Cfg} (size min rem : Int) (hs0 : -2147483648 ≤ size) (hs : size ≤ 2147483647) (hmin : 0 ≤ min ∧ min ≤ 32) (hrem : 0 ≤ rem ∧ rem ≤ 140737488355328) (h : CfgAt M w a c) (hc : c.ok) (hn : n0 ≤ w.heap.size) :
  Calls Tryz.prog 278 #[.int .i64 size, .int .i32 min, .int .u64 rem, .pointer a] w fun e w' => ∃ v, e = .returned v ∧ ErrAt E n0 w' v (contK size min rem c) ∧ Keep (fun _ => False) w w' := by
 obtain ⟨hm0, hm1⟩ := hmin
 obtain ⟨hr0, hr1⟩ := hrem
 by_cases h1 : size < 0
 ·rw [contK, if_pos h1]
  go_enter Tryz.func278, Tryz.ntmps278
  go_wp2_with fail
  refine (errNew _ _).mono ?_
  rintro e w8 ⟨b, rfl, hb, _, hk8⟩
  go_wp2_with fail
  refine (newPExcT' (E := E) (n0 := n0) 2 (by omega) b 0 _ _ hb (hk8.lt hn)).mono ?_
  rintro e w9 ⟨v, rfl, hv, hk9⟩
  go_wp2_with fail
  go_ret
  exact ⟨_, rfl, hv, hk8.then hk9⟩
 ·rw [contK, if_neg h1]
  have hm := Cfg.cont_bd hc
  have hp0 : 0 ≤ size * min := Int.mul_nonneg (by omega) hm0
  have hp1 : size * min ≤ 68719476736 := by
   have := Int.mul_le_mul hs hm1 hm0 (by omega); omega
  have hne : ((rem : Int) != 18446744073709551615) = true := by simp; omega
  by_cases h2 : c.maxCont < size
  ·rw [if_pos h2]
   go_enter Tryz.func278, Tryz.ntmps278
   go_wp2_with fail
   refine (maxCont_any h hc).mono ?_
   rintro e w1 ⟨rfl, hk1⟩
   go_wp2_with fail
   refine (errNew _ _).mono ?_
   rintro e w8 ⟨b, rfl, hb, _, hk8⟩
   go_wp2_with fail
   refine (newPExcT' (E := E) (n0 := n0) 3 (by omega) b 0 _ _ hb (hk8.lt (hk1.lt hn))).mono ?_
   rintro e w9 ⟨v, rfl, hv, hk9⟩
   go_wp2_with fail
   go_ret
   exact ⟨_, rfl, hv, hk1.then (hk8.then hk9)⟩
  ·rw [if_neg h2]
   by_cases h3 : 2147483647 < size * min
   ·rw [if_pos h3]
    go_enter Tryz.func278, Tryz.ntmps278
    go_wp2_with fail
    refine (maxCont_any h hc).mono ?_
    rintro e w1 ⟨rfl, hk1⟩
    go_wp2_with fail
    refine (errNew _ _).mono ?_
    rintro e w8 ⟨b, rfl, hb, _, hk8⟩
    go_wp2_with fail
    refine (newPExcT' (E := E) (n0 := n0) 3 (by omega) b 0 _ _ hb (hk8.lt (hk1.lt hn))).mono ?_
    rintro e w9 ⟨v, rfl, hv, hk9⟩
    go_wp2_with fail
    go_ret
    exact ⟨_, rfl, hv, hk1.then (hk8.then hk9)⟩
   ·rw [if_neg h3]
    by_cases h4 : rem < size * min
    ·rw [if_pos h4]
     go_enter Tryz.func278, Tryz.ntmps278
     go_wp2_with fail
     refine (maxCont_any h hc).mono ?_
     rintro e w1 ⟨rfl, hk1⟩
     go_wp2_with fail
     refine (errNew _ _).mono ?_
     rintro e w8 ⟨b, rfl, hb, _, hk8⟩
     go_wp2_with fail
     refine (newPExcT' (E := E) (n0 := n0) 3 (by omega) b 0 _ _ hb (hk8.lt (hk1.lt hn))).mono ?_
     rintro e w9 ⟨v, rfl, hv, hk9⟩
     go_wp2_with fail
     go_ret
     exact ⟨_, rfl, hv, hk1.then (hk8.then hk9)⟩
    ·rw [if_neg h4]
     have hz : (if c.maxMsg < size * min then 13 else 0 : Int) = sizeK (size * min) c := by unfold sizeK; rw [if_neg (show ¬ size * min < 0 by omega)]
     rw [hz]
     go_enter Tryz.func278, Tryz.ntmps278
     go_wp2_with fail
     refine (maxCont_any h hc).mono ?_
     rintro e w1 ⟨rfl, hk1⟩
     go_wp2_with fail
     refine (checkSize (E := E) (n0 := n0) (size * min) (by omega) (h.keep hk1 (fun _ x => x.elim)) hc (hk1.lt hn)).mono ?_
     rintro e w2 ⟨v, rfl, hv, hk2⟩
     go_wp2_with fail
     go_ret
     exact ⟨_, rfl, hv, hk1.then hk2⟩
def minBin (t : Int) : Int := if t = 4 ∨ t = 10 then 8 else if t = 6 then 2 else if t = 8 ∨ t = 11 ∨ t = 13 ∨ t = 14 ∨ t = 15 then 4 else if t = 16 then 16 else 1
theorem minBin_bd (t : Int) : 1 ≤ minBin t ∧ minBin t ≤ 16 := by unfold minBin; repeat (first | omega | split)
theorem minBin_any (p : Value) (t : Int) (w : World) : Calls Tryz.prog 346 #[p, .int .u8 t] w fun e w' => e = .returned (.int .i32 (minBin t)) ∧ w = w' := by
 go_enter Tryz.func346, Tryz.ntmps346
 go_wp2_with fail
 all_goals
  go_ret
  refine ⟨?_, rfl⟩
  simp_all [minBin]
theorem i8u8 (b : UInt8) : IntKind.u8.wrap (IntKind.i8.wrap b.toNat) = b.toNat := by
 have := b.toNat_lt
 simp [IntKind.wrap, IntKind.bits, IntKind.signed]
 split <;> omega
def fieldK (rem : List UInt8) : Int := match rem with | [] => 1 | b :: r => if b = 0 then 0 else fullK 2 r
def fieldRem (rem : List UInt8) : List UInt8 := match rem with | [] => [] | b :: r => if b = 0 then r else r.drop 2
def fieldT (rem : List UInt8) : Int := match rem with | [] => 0 | b :: _ => b.toNat
def fieldI (rem : List UInt8) : Int := match rem with | [] => 0 | b :: r => if b = 0 then 0 else IntKind.i16.wrap (Lib.beNat (r.take 2))
theorem bin_readFieldBegin {E : Env} {P MB B D : Nat} {a : Option Addr} {c : Cfg} {rem : List UInt8} {w : World} (h : BinP E P MB B D a c rem w) :
  Calls Tryz.prog 300 #[.pointer (some ⟨P, 0, none⟩), ctxV] w fun e w' => ∃ t id ev, e = .returned (.tuple #[.string ⟨#[]⟩, .int .u8 t, .int .i16 id, ev]) ∧ ErrAt E w.heap.size w' ev (fieldK rem) ∧
   BinP E P MB B D a c (fieldRem rem) w' ∧ Keep (MB2 P B) w w' ∧ (fieldK rem = 0 → t = fieldT rem ∧ id = fieldI rem) := by
 go_enter Tryz.func300, Tryz.ntmps300
 go_wp2_with fail
 refine (bin_readByte h).mono ?_
 rintro e w1 ⟨n, ev, rfl, he1, h1, hk1, hn, hv⟩
 cases rem with
 | nil =>
  obtain ⟨t, x, rfl⟩ := he1.held (by decide)
  go_wp2_with fail
  go_returns
  exact ⟨_, _, _, rfl, he1, h1, hk1, fun hh => by simp [fieldK] at hh⟩
 | cons b r =>
  have hev : ev = .nilIface := by
   rw [endK, if_pos (by simp)] at he1; exact he1.isNil
  subst hev
  have hn2 := hv b r rfl
  have hb8 := i8u8 b
  rw [← hn2] at hb8
  by_cases hb0 : b = 0
  ·have hn0 : n = 0 := by rw [hn2, hb0]; decide
   subst hn0
   have HB := hdd hb8
   clear hb8 hn2
   go_wp2_with fail
   go_returns
   refine ⟨_, _, _, rfl, ?_, by simpa [fieldRem, hb0] using h1, hk1, fun _ => ⟨?_, ?_⟩⟩
   ·simp only [fieldK, if_pos hb0]; exact ErrAt.nil _ _ _
   ·simp [fieldT, hb0]
   ·simp [fieldI, hb0]
  ·have hn0 : (n != 0) = true := by
    simp only [bne_iff_ne, ne_eq]
    intro e
    rw [e] at hb8
    have h3 : b.toNat = 0 := by have h4 : IntKind.u8.wrap 0 = 0 := by decide
                                rw [h4] at hb8; omega
    exact hb0 (UInt8.toNat_inj.1 (by simpa using h3))
   have HB := hdd hb8
   clear hb8 hn2
   go_wp2_with fail
   refine (bin_readI16 h1).mono ?_
   rintro e w2 ⟨id, ev, rfl, he2, h2, hk2, hid, hiv⟩
   go_wp2_with fail
   go_returns
   refine ⟨_, _, _, rfl, ?_, by simpa [fieldRem, hb0] using h2, hk1.then hk2, fun hh => ⟨?_, ?_⟩⟩
   ·simp only [fieldK, if_neg hb0]; exact he2.mono hk1.size
   ·exact (show n % 256 = (b.toNat : Int) from by have := HB.out; simpa [IntKind.wrap, IntKind.bits, IntKind.signed] using this)
   ·simp only [fieldK, if_neg hb0, fullK] at hh
    simp only [fieldI, if_neg hb0]
    exact hiv (by simp; split at hh <;> simp_all)
theorem buf_len {w : World} {B D : Nat} {rem : List UInt8} (h : Buf w B D rem) :
  Calls Tryz.prog 62 #[.pointer (some ⟨B, 0, none⟩)] w fun e w' => e = .returned (.int .i64 (rem.length : Nat)) ∧ ∃ n, w.drewN n = w' := by
 obtain ⟨a, L, C, off, lr, hB, h2, h3, h4, h5, h6⟩ := h
 have c0 := cellAt hB 0
 have c1 := cellAt hB 1
 simp at c0 c1
 have hle : off ≤ L := by omega
 have hfin : (L : Int) - off = (rem.length : Nat) := by omega
 have Hf := hdd hfin
 clear h6 hfin h2
 go_enter Tryz.func62, Tryz.ntmps62
 go_wp2_with fail
 go_quiet (fail)
 go_wp2_with fail
 go_ret
 exact ⟨by rw [← Hf.out]; rfl, _, rfl⟩
theorem mem_remaining {E : Env} {w : World} {MB B D : Nat} {rem : List UInt8} (h : Mem E w MB B D rem) (hr : rem.length ≤ 140737488355328) :
  Calls Tryz.prog 410 #[.pointer (some ⟨MB, 0, none⟩)] w fun e w' => e = .returned (.int .u64 (rem.length : Nat)) ∧ ∃ n, w.drewN n = w' := by
 have c0 := h.mb
 go_enter Tryz.func410, Tryz.ntmps410
 go_wp2_with fail
 refine (buf_len h.buf).mono ?_
 rintro e w1 ⟨rfl, n, rfl⟩
 go_wp2_with fail
 go_ret
 exact ⟨rfl, _, rfl⟩
def listK (rem : List UInt8) (c : Cfg) : Int := match rem with | [] => 10 | t :: r => if r.length < 4 then 10 else contK (wrap32 (Lib.beNat (r.take 4))) (minBin t.toNat) (r.drop 4).length c
def listRem (rem : List UInt8) : List UInt8 := rem.drop 5
def listT (rem : List UInt8) : Int := match rem with | [] => 0 | t :: _ => t.toNat
def listN (rem : List UInt8) : Int := match rem with | [] => 0 | _ :: r => wrap32 (Lib.beNat (r.take 4))
theorem bin_readListBegin {E : Env} {P MB B D : Nat} {a : Option Addr} {c : Cfg} {rem : List UInt8} {w : World} (h : BinP E P MB B D a c rem w) (hr : rem.length ≤ 140737488355328) :
  Calls Tryz.prog 305 #[.pointer (some ⟨P, 0, none⟩), ctxV] w fun e w' => ∃ t n ev, e = .returned (.tuple #[.int .u8 t, .int .i64 n, ev]) ∧ ErrAt E w.heap.size w' ev (listK rem c) ∧
   BinP E P MB B D a c (listRem rem) w' ∧ Keep (MB2 P B) w w' ∧ (listK rem c = 0 → t = listT rem ∧ n = listN rem) := by
 go_enter Tryz.func305, Tryz.ntmps305
 go_wp2_with fail
 refine (bin_readByte h).mono ?_
 rintro e w1 ⟨n, ev, rfl, he1, h1, hk1, hn, hv⟩
 cases rem with
 | nil =>
  obtain ⟨t, x, rfl⟩ := he1.held (by decide)
  go_wp2_with fail
  refine (newPExc h1.glob (n0 := w.heap.size) hk1.size he1 (by decide)).mono ?_
  rintro e w2 ⟨v, rfl, hv2, hk2⟩
  go_wp2_with fail
  go_returns
  exact ⟨_, _, _, rfl, hv2, h1.fresh hk2, hk1.then (hk2.weak (fun _ _ x => x.elim)), fun hh => by simp [listK] at hh⟩
 | cons b r =>
  have hev : ev = .nilIface := by
   rw [endK, if_pos (by simp)] at he1; exact he1.isNil
  subst hev
  have hn2 := hv b r rfl
  have hb8 := i8u8 b
  rw [← hn2] at hb8
  have HB := hdd hb8
  clear hb8 hn2 hv
  go_wp2_with fail
  refine (bin_readI32 h1).mono ?_
  rintro e w2 ⟨n2, ev, rfl, he2, h2, hk2, ⟨hlo, hhi⟩, hv2⟩
  simp only [List.drop_succ_cons, List.drop_zero] at he2 h2 hv2
  by_cases hl : r.length < 4
  ·have hk10 : fullK 4 r = 10 := by simp [fullK]; omega
   rw [hk10] at he2
   obtain ⟨t, x, rfl⟩ := he2.held (by decide)
   go_wp2_with fail
   refine (newPExc h2.glob (n0 := w.heap.size) (hk2.lt hk1.size) (he2.mono hk1.size) (by decide)).mono ?_
   rintro e w3 ⟨v, rfl, hv3, hk3⟩
   go_wp2_with fail
   go_returns
   refine ⟨_, _, _, rfl, ?_, h2.fresh hk3, hk1.then (hk2.then (hk3.weak (fun _ _ x => x.elim))), fun hh => by simp [listK, hl] at hh⟩
   simp only [listK, if_pos hl]; exact hv3
  ·have hk0 : fullK 4 r = 0 := by simp [fullK]; omega
   rw [hk0] at he2
   have hev := he2.isNil
   subst hev
   have HV := hdd (hv2 (by omega))
   clear hv2
   obtain ⟨sc, e1, e2⟩ := h2.blk
   have c0 : w2.cell? ⟨P, 0, none⟩ = some (memV MB) := by simp [cellAt e2 0]
   have c2 : w2.cell? ⟨P, 2, none⟩ = some (.pointer a) := by simp [cellAt e2 2]
   have HB3 : Hid (n % 256 = (b.toNat : Int)) := by have := HB.out; simpa [IntKind.wrap, IntKind.bits, IntKind.signed, Hid] using this
   go_wp2_with fail
   rw [HB3.out]
   refine (minBin_any _ _ _).mono ?_
   rintro e w3 ⟨rfl, rfl⟩
   have hmin := minBin_bd (b.toNat)
   go_wp2_with fail
   have hk0 : Keep (fun _ => False) w2 w2.drew := (Keep.refl _ _).drew
   have hw64 : IntKind.i64.wrap n2 = n2 := IntWalk.i64_in _ (by omega)
   generalize hr4 : r.drop 4 = r4 at h2
   have HR4 := hdd hr4
   clear hr4
   have HM := hdd (h2.mem.keep hk0 id id id)
   have hrem : r4.length ≤ 140737488355328 := by rw [← HR4.out]; simp at hr ⊢; omega
   have HC := hdd (fun n => h2.cfg.keep ((Keep.refl (fun _ => False) w2).drewN n) (fun _ x => x.elim))
   have HS := hdd (hk2.lt hk1.size)
   have HL : Hid (listK (b :: r) c = contK n2 (minBin b.toNat) (r4.length : Nat) c) := by
    show listK (b :: r) c = _
    simp only [listK, if_neg hl]
    rw [HV.out, HR4.out]
   go_region_with (first | (go_at_call 410; refine (mem_remaining HM.out hrem).mono ?_; rintro e w4 ⟨rfl, nd, rfl⟩) | (go_at_call 278; refine (checkCont (E := E) (n0 := w.heap.size) n2 (minBin b.toNat) (r4.length : Nat) hlo hhi (by omega) (by omega) (HC.out _) h.cok HS.out).mono ?_; rintro e w5 ⟨v, rfl, hv5, hk5⟩))
   all_goals
    have hk6 : Keep (MB2 P B) w w5 := hk1.then (hk2.then (((Keep.refl (MB2 P B) w2).drewN _).then (hk5.weak (fun _ _ x => x.elim))))
    have h5 : BinP E P MB B D a c (listRem (b :: r)) w5 := by
     have : listRem (b :: r) = r4 := HR4.out ▸ rfl
     rw [this]; exact (h2.eqv (Eqv.drewN w2 _)).fresh hk5
    by_cases hz : contK n2 (minBin b.toNat) (r4.length : Nat) c = 0
    ·rw [hz] at hv5
     have hv6 := hv5.isNil
     subst hv6
     go_wp2_with fail
     go_returns
     refine ⟨_, _, _, rfl, ?_, h5, hk6, fun _ => ⟨rfl, ?_⟩⟩
     ·rw [HL.out, hz]; exact ErrAt.nil _ _ _
     ·exact HV.out
    ·obtain ⟨t, x, rfl⟩ := hv5.held hz
     go_wp2_with fail
     go_returns
     exact ⟨_, _, _, rfl, by rw [HL.out]; exact hv5, h5, hk6, fun hh => absurd (HL.out ▸ hh) hz⟩
theorem bin_readSetBegin {E : Env} {P MB B D : Nat} {a : Option Addr} {c : Cfg} {rem : List UInt8} {w : World} (h : BinP E P MB B D a c rem w) (hr : rem.length ≤ 140737488355328) :
  Calls Tryz.prog 311 #[.pointer (some ⟨P, 0, none⟩), ctxV] w fun e w' => ∃ t n ev, e = .returned (.tuple #[.int .u8 t, .int .i64 n, ev]) ∧ ErrAt E w.heap.size w' ev (listK rem c) ∧
   BinP E P MB B D a c (listRem rem) w' ∧ Keep (MB2 P B) w w' ∧ (listK rem c = 0 → t = listT rem ∧ n = listN rem) := by
 go_enter Tryz.func311, Tryz.ntmps311
 go_wp2_with fail
 refine (bin_readByte h).mono ?_
 rintro e w1 ⟨n, ev, rfl, he1, h1, hk1, hn, hv⟩
 cases rem with
 | nil =>
  obtain ⟨t, x, rfl⟩ := he1.held (by decide)
  go_wp2_with fail
  refine (newPExc h1.glob (n0 := w.heap.size) hk1.size he1 (by decide)).mono ?_
  rintro e w2 ⟨v, rfl, hv2, hk2⟩
  go_wp2_with fail
  go_returns
  exact ⟨_, _, _, rfl, hv2, h1.fresh hk2, hk1.then (hk2.weak (fun _ _ x => x.elim)), fun hh => by simp [listK] at hh⟩
 | cons b r =>
  have hev : ev = .nilIface := by
   rw [endK, if_pos (by simp)] at he1; exact he1.isNil
  subst hev
  have hn2 := hv b r rfl
  have hb8 := i8u8 b
  rw [← hn2] at hb8
  have HB := hdd hb8
  clear hb8 hn2 hv
  go_wp2_with fail
  refine (bin_readI32 h1).mono ?_
  rintro e w2 ⟨n2, ev, rfl, he2, h2, hk2, ⟨hlo, hhi⟩, hv2⟩
  simp only [List.drop_succ_cons, List.drop_zero] at he2 h2 hv2
  by_cases hl : r.length < 4
  ·have hk10 : fullK 4 r = 10 := by simp [fullK]; omega
   rw [hk10] at he2
   obtain ⟨t, x, rfl⟩ := he2.held (by decide)
   go_wp2_with fail
   refine (newPExc h2.glob (n0 := w.heap.size) (hk2.lt hk1.size) (he2.mono hk1.size) (by decide)).mono ?_
   rintro e w3 ⟨v, rfl, hv3, hk3⟩
   go_wp2_with fail
   go_returns
   refine ⟨_, _, _, rfl, ?_, h2.fresh hk3, hk1.then (hk2.then (hk3.weak (fun _ _ x => x.elim))), fun hh => by simp [listK, hl] at hh⟩
   simp only [listK, if_pos hl]; exact hv3
  ·have hk0 : fullK 4 r = 0 := by simp [fullK]; omega
   rw [hk0] at he2
   have hev := he2.isNil
   subst hev
   have HV := hdd (hv2 (by omega))
   clear hv2
   obtain ⟨sc, e1, e2⟩ := h2.blk
   have c0 : w2.cell? ⟨P, 0, none⟩ = some (memV MB) := by simp [cellAt e2 0]
   have c2 : w2.cell? ⟨P, 2, none⟩ = some (.pointer a) := by simp [cellAt e2 2]
   have HB3 : Hid (n % 256 = (b.toNat : Int)) := by have := HB.out; simpa [IntKind.wrap, IntKind.bits, IntKind.signed, Hid] using this
   go_wp2_with fail
   rw [HB3.out]
   refine (minBin_any _ _ _).mono ?_
   rintro e w3 ⟨rfl, rfl⟩
   have hmin := minBin_bd (b.toNat)
   go_wp2_with fail
   have hk0 : Keep (fun _ => False) w2 w2.drew := (Keep.refl _ _).drew
   have hw64 : IntKind.i64.wrap n2 = n2 := IntWalk.i64_in _ (by omega)
   generalize hr4 : r.drop 4 = r4 at h2
   have HR4 := hdd hr4
   clear hr4
   have HM := hdd (h2.mem.keep hk0 id id id)
   have hrem : r4.length ≤ 140737488355328 := by rw [← HR4.out]; simp at hr ⊢; omega
   have HC := hdd (fun n => h2.cfg.keep ((Keep.refl (fun _ => False) w2).drewN n) (fun _ x => x.elim))
   have HS := hdd (hk2.lt hk1.size)
   have HL : Hid (listK (b :: r) c = contK n2 (minBin b.toNat) (r4.length : Nat) c) := by
    show listK (b :: r) c = _
    simp only [listK, if_neg hl]
    rw [HV.out, HR4.out]
   go_region_with (first | (go_at_call 410; refine (mem_remaining HM.out hrem).mono ?_; rintro e w4 ⟨rfl, nd, rfl⟩) | (go_at_call 278; refine (checkCont (E := E) (n0 := w.heap.size) n2 (minBin b.toNat) (r4.length : Nat) hlo hhi (by omega) (by omega) (HC.out _) h.cok HS.out).mono ?_; rintro e w5 ⟨v, rfl, hv5, hk5⟩))
   all_goals
    have hk6 : Keep (MB2 P B) w w5 := hk1.then (hk2.then (((Keep.refl (MB2 P B) w2).drewN _).then (hk5.weak (fun _ _ x => x.elim))))
    have h5 : BinP E P MB B D a c (listRem (b :: r)) w5 := by
     have : listRem (b :: r) = r4 := HR4.out ▸ rfl
     rw [this]; exact (h2.eqv (Eqv.drewN w2 _)).fresh hk5
    by_cases hz : contK n2 (minBin b.toNat) (r4.length : Nat) c = 0
    ·rw [hz] at hv5
     have hv6 := hv5.isNil
     subst hv6
     go_wp2_with fail
     go_returns
     refine ⟨_, _, _, rfl, ?_, h5, hk6, fun _ => ⟨rfl, ?_⟩⟩
     ·rw [HL.out, hz]; exact ErrAt.nil _ _ _
     ·exact HV.out
    ·obtain ⟨t, x, rfl⟩ := hv5.held hz
     go_wp2_with fail
     go_returns
     exact ⟨_, _, _, rfl, by rw [HL.out]; exact hv5, h5, hk6, fun hh => absurd (HL.out ▸ hh) hz⟩
def mapK (rem : List UInt8) (c : Cfg) : Int := match rem with | k :: t :: r => if r.length < 4 then 10 else contK (wrap32 (Lib.beNat (r.take 4))) (minBin k.toNat + minBin t.toNat) (r.drop 4).length c | _ => 10
def mapRem (rem : List UInt8) : List UInt8 := rem.drop 6
def mapKT (rem : List UInt8) : Int := match rem with | k :: _ :: _ => k.toNat | _ => 0
def mapT (rem : List UInt8) : Int := match rem with | _ :: t :: _ => t.toNat | _ => 0
def mapN (rem : List UInt8) : Int := match rem with | _ :: _ :: r => wrap32 (Lib.beNat (r.take 4)) | _ => 0
theorem bin_readMapBegin {E : Env} {P MB B D : Nat} {a : Option Addr} {c : Cfg} {rem : List UInt8} {w : World} (h : BinP E P MB B D a c rem w) (hr : rem.length ≤ 140737488355328) :
  Calls Tryz.prog 307 #[.pointer (some ⟨P, 0, none⟩), ctxV] w fun e w' => ∃ kt t n ev, e = .returned (.tuple #[.int .u8 kt, .int .u8 t, .int .i64 n, ev]) ∧ ErrAt E w.heap.size w' ev (mapK rem c) ∧
   BinP E P MB B D a c (mapRem rem) w' ∧ Keep (MB2 P B) w w' ∧ (mapK rem c = 0 → kt = mapKT rem ∧ t = mapT rem ∧ n = mapN rem) := by
 go_enter Tryz.func307, Tryz.ntmps307
 go_wp2_with fail
 refine (bin_readByte h).mono ?_
 rintro e wa ⟨na, ev, rfl, hea, ha, hka, hna, hva⟩
 cases rem with
 | nil =>
  obtain ⟨t, x, rfl⟩ := hea.held (by decide)
  go_wp2_with fail
  refine (newPExc ha.glob (n0 := w.heap.size) hka.size hea (by decide)).mono ?_
  rintro e w2 ⟨v, rfl, hv2, hk2⟩
  go_wp2_with fail
  go_returns
  exact ⟨_, _, _, _, rfl, hv2, ha.fresh hk2, hka.then (hk2.weak (fun _ _ x => x.elim)), fun hh => by simp [mapK] at hh⟩
 | cons k r0 =>
  have hev : ev = .nilIface := by
   rw [endK, if_pos (by simp)] at hea; exact hea.isNil
  subst hev
  have hn2 := hva k r0 rfl
  have hb8 := i8u8 k
  rw [← hn2] at hb8
  have HA := hdd hb8
  clear hb8 hn2 hva
  simp only [List.drop_succ_cons, List.drop_zero] at ha
  go_wp2_with fail
  refine (bin_readByte ha).mono ?_
  rintro e w1 ⟨n, ev, rfl, he1, h1, hk1, hn, hv⟩
  cases r0 with
  | nil =>
   obtain ⟨t, x, rfl⟩ := he1.held (by decide)
   go_wp2_with fail
   refine (newPExc h1.glob (n0 := w.heap.size) (hk1.lt hka.size) (he1.mono hka.size) (by decide)).mono ?_
   rintro e w2 ⟨v, rfl, hv2, hk2⟩
   go_wp2_with fail
   go_returns
   exact ⟨_, _, _, _, rfl, hv2, h1.fresh hk2, hka.then (hk1.then (hk2.weak (fun _ _ x => x.elim))), fun hh => by simp [mapK] at hh⟩
  | cons b r =>
   have hev : ev = .nilIface := by
    rw [endK, if_pos (by simp)] at he1; exact he1.isNil
   subst hev
   have hn2 := hv b r rfl
   have hb8 := i8u8 b
   rw [← hn2] at hb8
   have HB := hdd hb8
   clear hb8 hn2 hv
   have HSz := hdd (hk1.lt hka.size)
   go_wp2_with fail
   refine (bin_readI32 h1).mono ?_
   rintro e w2 ⟨n2, ev, rfl, he2, h2, hk2, ⟨hlo, hhi⟩, hv2⟩
   simp only [List.drop_succ_cons, List.drop_zero] at he2 h2 hv2
   by_cases hl : r.length < 4
   ·have hk10 : fullK 4 r = 10 := by simp [fullK]; omega
    rw [hk10] at he2
    obtain ⟨t, x, rfl⟩ := he2.held (by decide)
    go_wp2_with fail
    refine (newPExc h2.glob (n0 := w.heap.size) (hk2.lt HSz.out) (he2.mono HSz.out) (by decide)).mono ?_
    rintro e w3 ⟨v, rfl, hv3, hk3⟩
    go_wp2_with fail
    go_returns
    refine ⟨_, _, _, _, rfl, ?_, h2.fresh hk3, hka.then (hk1.then (hk2.then (hk3.weak (fun _ _ x => x.elim)))), fun hh => by simp [mapK, hl] at hh⟩
    simp only [mapK, if_pos hl]; exact hv3
   ·have hk0 : fullK 4 r = 0 := by simp [fullK]; omega
    rw [hk0] at he2
    have hev := he2.isNil
    subst hev
    have HV := hdd (hv2 (by omega))
    clear hv2
    obtain ⟨sc, e1, e2⟩ := h2.blk
    have c0 : w2.cell? ⟨P, 0, none⟩ = some (memV MB) := by simp [cellAt e2 0]
    have c2 : w2.cell? ⟨P, 2, none⟩ = some (.pointer a) := by simp [cellAt e2 2]
    have HA3 : Hid (na % 256 = (k.toNat : Int)) := by have := HA.out; simpa [IntKind.wrap, IntKind.bits, IntKind.signed, Hid] using this
    have HB3 : Hid (n % 256 = (b.toNat : Int)) := by have := HB.out; simpa [IntKind.wrap, IntKind.bits, IntKind.signed, Hid] using this
    go_wp2_with fail
    rw [HA3.out, HB3.out]
    refine (minBin_any _ _ _).mono ?_
    rintro e w3 ⟨rfl, rfl⟩
    go_wp2_with fail
    refine (minBin_any _ _ _).mono ?_
    rintro e w3 ⟨rfl, rfl⟩
    obtain ⟨hmk, hmk'⟩ := minBin_bd (k.toNat)
    obtain ⟨hmt, hmt'⟩ := minBin_bd (b.toNat)
    go_wp2_with fail
    have hk0 : Keep (fun _ => False) w2 w2.drew := (Keep.refl _ _).drew
    have hw64 : IntKind.i64.wrap n2 = n2 := IntWalk.i64_in _ (by omega)
    generalize hr4 : r.drop 4 = r4 at h2
    have HR4 := hdd hr4
    clear hr4
    have HM := hdd (h2.mem.keep hk0 id id id)
    have hrem : r4.length ≤ 140737488355328 := by rw [← HR4.out]; simp at hr ⊢; omega
    have HC := hdd (fun n => h2.cfg.keep ((Keep.refl (fun _ => False) w2).drewN n) (fun _ x => x.elim))
    have HS := hdd (hk2.lt HSz.out)
    have HL : Hid (mapK (k :: b :: r) c = contK n2 (minBin k.toNat + minBin b.toNat) (r4.length : Nat) c) := by
     show mapK (k :: b :: r) c = _
     simp only [mapK, if_neg hl]
     rw [HV.out, HR4.out]
    go_region_with (first | (go_at_call 410; refine (mem_remaining HM.out hrem).mono ?_; rintro e w4 ⟨rfl, nd, rfl⟩) | (go_at_call 278; refine (checkCont (E := E) (n0 := w.heap.size) n2 (minBin k.toNat + minBin b.toNat) (r4.length : Nat) hlo hhi (by omega) (by omega) (HC.out _) h.cok HS.out).mono ?_; rintro e w5 ⟨v, rfl, hv5, hk5⟩))
    all_goals
     have hk6 : Keep (MB2 P B) w w5 := hka.then (hk1.then (hk2.then (((Keep.refl (MB2 P B) w2).drewN _).then (hk5.weak (fun _ _ x => x.elim)))))
     have h5 : BinP E P MB B D a c (mapRem (k :: b :: r)) w5 := by
      have : mapRem (k :: b :: r) = r4 := HR4.out ▸ rfl
      rw [this]; exact (h2.eqv (Eqv.drewN w2 _)).fresh hk5
     by_cases hz : contK n2 (minBin k.toNat + minBin b.toNat) (r4.length : Nat) c = 0
     ·rw [hz] at hv5
      have hv6 := hv5.isNil
      subst hv6
      go_wp2_with fail
      go_returns
      refine ⟨_, _, _, _, rfl, ?_, h5, hk6, fun _ => ⟨rfl, rfl, ?_⟩⟩
      ·rw [HL.out, hz]; exact ErrAt.nil _ _ _
      ·exact HV.out
     ·obtain ⟨t, x, rfl⟩ := hv5.held hz
      go_wp2_with fail
      go_returns
      exact ⟨_, _, _, _, rfl, by rw [HL.out]; exact hv5, h5, hk6, fun hh => absurd (HL.out ▸ hh) hz⟩
theorem MB2_new {P B n : Nat} (hP : n ≤ P) (hB : n ≤ B) : ∀ i, i < n → MB2 P B i → False := by
 rintro i hi (e | e) <;> omega
theorem Mem.drew {E : Env} {w : World} {MB B D : Nat} {rem : List UInt8} (h : Mem E w MB B D rem) : Mem E w.drew MB B D rem := h.keep ((Keep.refl (fun _ => False) w).drew) id id id
theorem Glob.drew {E : Env} {w : World} (h : Glob E w) : Glob E w.drew := h.keep ((Keep.refl (fun _ => False) w).drew) (fun _ x => x.elim)
end Go.Proofs.YtjekbomlpcdojaaGreatDoor
