/- Part 5 of the proof: Err1. -/
import Derived.Test.YtjekbomlpcdojaaGreatDoorH2
import Derived.WideLaws
import Derived.Lib.IfaceEq
import Derived.Stop.Asserts
set_option linter.unusedVariables false
set_option linter.unusedSimpArgs false
set_option linter.unusedSectionVars false
set_option maxHeartbeats 16000000
namespace Go.Proofs.YtjekbomlpcdojaaGreatDoor
open Go Go.RowKit
def PExc (n0 : Nat) (w : World) (v : Value) (id : Int) : Prop :=
 ∃ b u s, v = .iface 337 (.pointer (some ⟨b, 0, none⟩)) ∧ n0 ≤ b ∧ w.heap[b]? = some (.cells #[.int .i64 id, u, .string s] 340 (0, 0))
def ErrAt (E : Env) (n0 : Nat) (w : World) (v : Value) (k : Int) : Prop :=
 (k = 0 ∧ v = .nilIface) ∨ (k = 1 ∧ v = eofV E) ∨ (k = 2 ∧ v = ueofV E) ∨ (0 ≤ k - 10 ∧ k - 10 ≤ 6 ∧ PExc n0 w v (k - 10)) ∨ (50 ≤ k ∧ k ≤ 54 ∧ v = .iface 168 (.int .i64 k))
theorem PExc.keep {n0 : Nat} {w w' : World} {v : Value} {id : Int} {M : Nat → Prop} (h : PExc n0 w v id) (k : Keep M w w') (hM : ∀ i, n0 ≤ i → ¬ M i) : PExc n0 w' v id := by
 obtain ⟨b, u, s, hv, hb, hc⟩ := h
 exact ⟨b, u, s, hv, hb, (k.block b (lt_of_heap hc) (hM b hb)).trans hc⟩
theorem PExc.mono {n0 n1 : Nat} {w : World} {v : Value} {id : Int} (h : PExc n0 w v id) (hn : n1 ≤ n0) : PExc n1 w v id := by
 obtain ⟨b, u, s, hv, hb, hc⟩ := h
 exact ⟨b, u, s, hv, by omega, hc⟩
theorem ErrAt.keep {E : Env} {n0 : Nat} {w w' : World} {v : Value} {k : Int} {M : Nat → Prop} (h : ErrAt E n0 w v k) (hk : Keep M w w') (hM : ∀ i, n0 ≤ i → ¬ M i) : ErrAt E n0 w' v k := by
 rcases h with h | h | h | ⟨h1, h2, h3⟩ | h
 ·exact .inl h
 ·exact .inr (.inl h)
 ·exact .inr (.inr (.inl h))
 ·exact .inr (.inr (.inr (.inl ⟨h1, h2, h3.keep hk hM⟩)))
 ·exact .inr (.inr (.inr (.inr h)))
theorem ErrAt.mono {E : Env} {n0 n1 : Nat} {w : World} {v : Value} {k : Int} (h : ErrAt E n0 w v k) (hn : n1 ≤ n0) : ErrAt E n1 w v k := by
 rcases h with h | h | h | ⟨h1, h2, h3⟩ | h
 ·exact .inl h
 ·exact .inr (.inl h)
 ·exact .inr (.inr (.inl h))
 ·exact .inr (.inr (.inr (.inl ⟨h1, h2, h3.mono hn⟩)))
 ·exact .inr (.inr (.inr (.inr h)))
theorem ErrAt.eqv {E : Env} {n0 : Nat} {w w' : World} {v : Value} {k : Int} (h : ErrAt E n0 w v k) (he : Eqv w w') : ErrAt E n0 w' v k := h.keep (he.keep (fun _ => False)) (fun _ _ => id)
theorem ErrAt.nil (E : Env) (n0 : Nat) (w : World) : ErrAt E n0 w .nilIface 0 := .inl ⟨rfl, rfl⟩
theorem ErrAt.isNil {E : Env} {n0 : Nat} {w : World} {v : Value} (h : ErrAt E n0 w v 0) : v = .nilIface := by
 rcases h with h | h | h | ⟨h1, h2, h3⟩ | h
 ·exact h.2
 ·omega
 ·omega
 ·omega
 ·omega
theorem ErrAt.held {E : Env} {n0 : Nat} {w : World} {v : Value} {k : Int} (h : ErrAt E n0 w v k) (hk : k ≠ 0) : ∃ t x, v = .iface t x := by
 rcases h with h | h | h | ⟨h1, h2, b, u, s, h3, _⟩ | h
 ·omega
 ·exact ⟨_, _, h.2⟩
 ·exact ⟨_, _, h.2⟩
 ·exact ⟨_, _, h3⟩
 ·exact ⟨_, _, h.2.2⟩
theorem Keep.lt {M : Nat → Prop} {a b : World} (h : Keep M a b) {n : Nat} (hn : n ≤ a.heap.size) : n ≤ b.heap.size := Nat.le_trans hn h.size
def pk (k : Int) : Int := if k = 0 then 0 else if 10 ≤ k ∧ k ≤ 16 then k else 10
theorem newPExcT (id : Int) (b o : Nat) (s : ByteArray) (w : World) (hb : w.cell? ⟨b, o, none⟩ = some (.string s)) :
  Calls Tryz.prog 106 #[.int .i64 id, .iface 273 (.pointer (some ⟨b, o, none⟩))] w fun e w' =>
   e = .returned (.iface 337 (.pointer (some ⟨w.heap.size, 0, none⟩))) ∧ w.alloc (.cells #[.int .i64 id, .iface 273 (.pointer (some ⟨b, o, none⟩)), .string s] 340 (0, 0)) = w' := by
 go_enter Tryz.func106, Tryz.ntmps106
 go_wp2
 go_ret
 exact ⟨rfl, rfl⟩
theorem newPExc_nil (w : World) :
  Calls Tryz.prog 76 #[.nilIface] w fun e w' => e = .returned .nilIface ∧ w = w' := by
 go_enter Tryz.func76, Tryz.ntmps76
 go_wp2_with fail
 go_ret
 exact ⟨rfl, rfl⟩
theorem ta_pe_pe (v : Value) (w : World) : (Instr.typeAssert (.iface 337 v) 92 174 true).run Tryz.prog w = .ok (.tuple #[.iface 337 v, .bool true]) w := by kernel_rfl
theorem ta_es_pe (v : Value) (w : World) : (Instr.typeAssert (.iface 273 v) 92 174 true).run Tryz.prog w = .ok (.tuple #[.nilIface, .bool false]) w := run_typeAssert_lacksB Tryz.underlying174 (by kernel_rfl) (by kernel_rfl) v _ w
theorem ta_es_own (v : Value) (w : World) : (Instr.typeAssert (.iface 273 v) 92 168 true).run Tryz.prog w = .ok (.tuple #[.int .i64 0, .bool false]) w := by kernel_rfl
theorem ta_pe_own (v : Value) (w : World) : (Instr.typeAssert (.iface 337 v) 92 168 true).run Tryz.prog w = .ok (.tuple #[.int .i64 0, .bool false]) w := by kernel_rfl
theorem ta_own_own (v : Value) (w : World) : (Instr.typeAssert (.iface 168 v) 92 168 true).run Tryz.prog w = .ok (.tuple #[v, .bool true]) w := by kernel_rfl
theorem eql_types (tx ty : TypeId) (vx vy : Value) (hne : tx ≠ ty) (w : World) : (binOp .eql 92 (.iface tx vx) (.iface ty vy)).run Tryz.prog w = .ok (.bool false) w := run_eql_iface_types tx ty vx vy Tryz.underlying92 hne w
theorem ta_pe_te (v : Value) (w : World) : (Instr.typeAssert (.iface 337 v) 92 111 true).run Tryz.prog w = .ok (.tuple #[.iface 337 v, .bool true]) w := by kernel_rfl
theorem ta_te_pe (v : Value) (w : World) : (Instr.typeAssert (.iface 337 v) 111 174 true).run Tryz.prog w = .ok (.tuple #[.iface 337 v, .bool true]) w := by kernel_rfl
theorem newPExc_same (a : Addr) (w : World) :
  Calls Tryz.prog 76 #[.iface 337 (.pointer (some a))] w fun e w' => e = .returned (.iface 337 (.pointer (some a))) ∧ w = w' := by
 have hta := ta_pe_pe
 go_enter Tryz.func76, Tryz.ntmps76
 go_wp2_with fail
 go_ret
 exact ⟨rfl, rfl⟩
theorem newPExc_str (b o : Nat) (s : ByteArray) (w : World) (hb : w.cell? ⟨b, o, none⟩ = some (.string s)) :
  Calls Tryz.prog 76 #[.iface 273 (.pointer (some ⟨b, o, none⟩))] w fun e w' =>
   e = .returned (.iface 337 (.pointer (some ⟨w.heap.size, 0, none⟩))) ∧ w.alloc (.cells #[.int .i64 0, .iface 273 (.pointer (some ⟨b, o, none⟩)), .string s] 340 (0, 0)) = w' := by
 have hta := ta_es_pe
 go_enter Tryz.func76, Tryz.ntmps76
 go_wp2_with fail
 refine (newPExcT 0 b o s _ hb).mono ?_
 rintro e w' ⟨rfl, rfl⟩
 go_wp2_with fail
 go_ret
 exact ⟨rfl, rfl⟩
theorem PExc.new (n0 : Nat) (w : World) (id : Int) (u : Value) (s : ByteArray) (hn : n0 ≤ w.heap.size) :
  PExc n0 (w.alloc (.cells #[.int .i64 id, u, .string s] 340 (0, 0))) (.iface 337 (.pointer (some ⟨w.heap.size, 0, none⟩))) id :=
 ⟨w.heap.size, u, s, rfl, hn, by show (w.heap.push _)[w.heap.size]? = _; simp⟩
theorem newPExc {E : Env} {n0 : Nat} {w : World} {v : Value} {k : Int} (hg : Glob E w) (hn : n0 ≤ w.heap.size) (h : ErrAt E n0 w v k) (hk : k < 50) :
  Calls Tryz.prog 76 #[v] w fun e w' => ∃ v', e = .returned v' ∧ ErrAt E n0 w' v' (pk k) ∧ Keep (fun _ => False) w w' := by
 rcases h with ⟨rfl, rfl⟩ | ⟨rfl, rfl⟩ | ⟨rfl, rfl⟩ | ⟨h1, h2, b, u, s, rfl, h4, h5⟩ | h
 ·refine (newPExc_nil w).mono ?_
  rintro e w' ⟨rfl, rfl⟩
  exact ⟨_, rfl, ErrAt.nil _ _ _, Keep.refl _ _⟩
 ·obtain ⟨s, hs⟩ := hg.eofS
  refine (newPExc_str E.eb E.eo s w hs).mono ?_
  rintro e w' ⟨rfl, rfl⟩
  exact ⟨_, rfl, .inr (.inr (.inr (.inl ⟨by decide, by decide, PExc.new n0 w 0 _ s hn⟩))), (Keep.refl _ _).alloc _⟩
 ·obtain ⟨s, hs⟩ := hg.ueofS
  refine (newPExc_str E.ub E.uo s w hs).mono ?_
  rintro e w' ⟨rfl, rfl⟩
  exact ⟨_, rfl, .inr (.inr (.inr (.inl ⟨by decide, by decide, PExc.new n0 w 0 _ s hn⟩))), (Keep.refl _ _).alloc _⟩
 ·refine (newPExc_same ⟨b, 0, none⟩ w).mono ?_
  rintro e w' ⟨rfl, rfl⟩
  have : pk k = k := by unfold pk; rw [if_neg (by omega), if_pos (by omega)]
  exact ⟨_, rfl, by rw [this]; exact .inr (.inr (.inr (.inl ⟨h1, h2, b, u, s, rfl, h4, h5⟩))), Keep.refl _ _⟩
 ·omega
theorem kind_nil (w : World) : Calls Tryz.prog 38 #[.nilIface] w fun e w' => e = .returned (.int .i64 0) ∧ w = w' := by
 go_enter Tryz.func38, Tryz.ntmps38
 go_wp2_with fail
 go_ret
 exact ⟨rfl, rfl⟩
theorem kind_own (k : Int) (w : World) : Calls Tryz.prog 38 #[.iface 168 (.int .i64 k)] w fun e w' => e = .returned (.int .i64 k) ∧ w = w' := by
 have h1 := ta_own_own
 go_enter Tryz.func38, Tryz.ntmps38
 go_wp2_with fail
 go_ret
 exact ⟨rfl, rfl⟩
theorem kind_eof {E : Env} (w : World) (hg : Glob E w) : Calls Tryz.prog 38 #[eofV E] w fun e w' => e = .returned (.int .i64 1) ∧ w = w' := by
 have h1 := ta_es_own
 have h2 := hg.eof
 have h3 := eof_eql E
 go_enter Tryz.func38, Tryz.ntmps38
 go_wp2_with fail
 go_ret
 exact ⟨rfl, rfl⟩
theorem uncomp : ∃ i, Tryz.prog.info? 275 = some i ∧ i.size = 1 := ⟨Tryz.t275, by kernel_rfl, by kernel_rfl⟩
theorem ueof_eql {E : Env} (w : World) (hg : Glob E w) : (binOp .eql 92 (ueofV E) (eofV E)).run Tryz.prog w = .ok (.bool false) w := by
 obtain ⟨c, t, h1⟩ := hg.ueofB.2
 obtain ⟨c', t', h2⟩ := hg.eofB.2
 obtain ⟨i, hi, hs⟩ := uncomp
 exact run_eql_iface_ptr_other w Tryz.underlying92 Tryz.underlying273 (i := Tryz.t273) (by kernel_rfl) (by kernel_rfl) hi (by omega) (fun e => hg.ne e.symm) h1 h2
theorem ueof_eql' (E : Env) (w : World) : (binOp .eql 92 (ueofV E) (ueofV E)).run Tryz.prog w = .ok (.bool true) w :=
 run_eql_iface_ptr_same w E.ueof Tryz.underlying92 Tryz.underlying273 (i := Tryz.t273) (by kernel_rfl) (by kernel_rfl) (j := Tryz.t275) (by kernel_rfl)
theorem kind_ueof {E : Env} (w : World) (hg : Glob E w) : Calls Tryz.prog 38 #[ueofV E] w fun e w' => e = .returned (.int .i64 2) ∧ w = w' := by
 have h1 := ta_es_own
 have h2 := hg.eof
 have h3 := ueof_eql w hg
 have h4 := ueof_eql' E w
 have h5 := hg.ueof
 go_enter Tryz.func38, Tryz.ntmps38
 go_wp2_with fail
 go_ret
 exact ⟨rfl, rfl⟩
theorem wnc (t : TypeId) (a : Addr) (s m : String) (w : World) : (Builtin.ssaWrapNilChk_ #[t] t #[.pointer (some a), strVal s, strVal m]).run Tryz.prog w = .ok (.pointer (some a)) w := by kernel_rfl
theorem pe_TExceptionType : (Array.find? (fun x => x.name == "TExceptionType") Tryz.t337.methods).map (fun m => (m.path, m.func)) = some (#[], some (382, false)) := by kernel_rfl
theorem method_pe_type {w : World} {b : Nat} (k : Nat) {id : Int} {u : Value} {s : ByteArray} (hc : w.heap[b]? = some (.cells #[.int .i64 id, u, .string s] 340 (0, 0))) :
  (method (k + 1) 337 (.pointer (some ⟨b, 0, none⟩)) "TExceptionType").run Tryz.prog w = .ok (382, .agg #[.int .i64 id, u, .string s]) w := by
 obtain ⟨m, hm, hp⟩ := Option.map_eq_some_iff.1 pe_TExceptionType
 simp only [Prod.mk.injEq] at hp
 obtain ⟨hp, hq⟩ := hp
 have c0 := cellAt hc 0
 have c1 := cellAt hc 1
 have c2 := cellAt hc 2
 simp at c0 c1 c2
 simp [method, hm, hp, hq, follow]
 simp [receiverAt, Place.get, asAddr, wnc]
 have hl := run_loadVar_row w b 340 340 #[.int .i64 id, u, .string s] (0, 0) _ hc Tryz.underlying340 rfl (by kernel_rfl)
 rw [hl]
 rfl
theorem pe_typ (cs : Array Value) (w : World) : Calls Tryz.prog 382 #[.agg cs] w fun e w' => e = .returned (.int .u8 3) ∧ Keep (fun _ => False) w w' := by
 go_enter Tryz.func382, Tryz.ntmps382
 go_wp2_with fail
 go_ret
 exact ⟨rfl, by first | exact Keep.refl _ _ | exact (Keep.refl _ _).alloc _⟩
theorem pe_typeId (b : Nat) (id : Int) (w : World) (c0 : w.cell? ⟨b, 0, none⟩ = some (.int .i64 id)) : Calls Tryz.prog 383 #[.pointer (some ⟨b, 0, none⟩)] w fun e w' => e = .returned (.int .i64 id) ∧ w = w' := by
 go_enter Tryz.func383, Tryz.ntmps383
 go_wp2_with fail
 go_ret
 exact ⟨rfl, rfl⟩
theorem kind_pexc {E : Env} {n0 : Nat} (w : World) (hg : Glob E w) (v : Value) (k : Int) (hk : 0 ≤ k ∧ k ≤ 6) (h : PExc n0 w v k) : Calls Tryz.prog 38 #[v] w fun e w' => e = .returned (.int .i64 (10 + k)) ∧ Keep (fun _ => False) w w' := by
 obtain ⟨b, u, s, rfl, hb, hc⟩ := h
 have h1 := ta_pe_own
 have h2 := hg.eof
 have h5 := hg.ueof
 have h3 := fun (vx vy : Value) (w : World) => eql_types 337 273 vx vy (by decide) w
 have h6 := ta_pe_te
 have h7 := ta_te_pe
 have c0 := cellAt hc 0
 have h8 := method_pe_type 596 hc
 simp only [Nat.reduceAdd] at h8
 simp at c0
 obtain ⟨hk0, hk6⟩ := hk
 go_enter Tryz.func38, Tryz.ntmps38
 go_wp2_with fail
 refine (pe_typ _ _).mono ?_
 rintro e w1 ⟨rfl, hk1⟩
 have c1 := (hk1.cell (p := ⟨b, 0, none⟩) (lt_of_heap hc) id).trans c0
 go_wp2_with fail
 refine (pe_typeId b k _ c1).mono ?_
 rintro e w2 ⟨rfl, rfl⟩
 go_wp2_with fail
 go_ret
 exact ⟨rfl, hk1⟩
theorem kind_any {E : Env} {n0 : Nat} {w : World} {v : Value} {k : Int} (hg : Glob E w) (h : ErrAt E n0 w v k) :
  Calls Tryz.prog 38 #[v] w fun e w' => e = .returned (.int .i64 k) ∧ Keep (fun _ => False) w w' := by
 rcases h with ⟨rfl, rfl⟩ | ⟨rfl, rfl⟩ | ⟨rfl, rfl⟩ | ⟨h1, h2, h3⟩ | ⟨h1, h2, rfl⟩
 ·exact (kind_nil w).mono fun e w' ⟨h1, h2⟩ => ⟨h1, h2 ▸ Keep.refl _ _⟩
 ·exact (kind_eof w hg).mono fun e w' ⟨h1, h2⟩ => ⟨h1, h2 ▸ Keep.refl _ _⟩
 ·exact (kind_ueof w hg).mono fun e w' ⟨h1, h2⟩ => ⟨h1, h2 ▸ Keep.refl _ _⟩
 ·refine (kind_pexc w hg v (k - 10) ⟨h1, h2⟩ h3).mono fun e w' ⟨h1, h2⟩ => ⟨?_, h2⟩
  rw [h1]; congr 2; omega
 ·exact (kind_own k w).mono fun e w' ⟨h1, h2⟩ => ⟨h1, h2 ▸ Keep.refl _ _⟩
end Go.Proofs.YtjekbomlpcdojaaGreatDoor
