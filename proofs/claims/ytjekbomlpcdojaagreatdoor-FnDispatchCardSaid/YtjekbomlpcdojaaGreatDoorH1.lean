/- Part 1 of the proof: B0. -/
import Derived.Test.YtjekbomlpcdojaaGreatDoorProg
import Derived.WalkKit
import Derived.Handy
import Derived.Lib.Hide
import Derived.WalkSpells
import Derived.WalkLawsBesides
import Derived.LaidEql
import Derived.BigQuiet
import Derived.Deep.QuietTactic
set_option linter.unusedVariables false
set_option linter.unusedSimpArgs false
set_option linter.unusedSectionVars false
set_option maxHeartbeats 16000000
namespace Go.Proofs.YtjekbomlpcdojaaGreatDoor
open Go Go.RowKit
theorem hdd {p : Prop} (h : p) : Hid p := Lib.hid h
structure Keep (M : Nat → Prop) (w w' : World) : Prop where
 os : w'.os = w.os
 tape : w'.tape = w.tape
 output : w'.output = w.output
 size : w.heap.size ≤ w'.heap.size
 block : ∀ k, k < w.heap.size → ¬ M k → w'.heap[k]? = w.heap[k]?
theorem Keep.refl (M : Nat → Prop) (w : World) : Keep M w w := ⟨rfl, rfl, rfl, Nat.le_refl _, fun _ _ _ => rfl⟩
theorem Keep.trans {M N : Nat → Prop} {a b c : World} (h : Keep M a b) (k : Keep N b c) (hMN : ∀ i, i < a.heap.size → N i → M i) : Keep M a c :=
 ⟨k.os.trans h.os, k.tape.trans h.tape, k.output.trans h.output, Nat.le_trans h.size k.size,
  fun i hi hM => (k.block i (Nat.lt_of_lt_of_le hi h.size) (fun hN => hM (hMN i hi hN))).trans (h.block i hi hM)⟩
theorem Keep.weak {M N : Nat → Prop} {a b : World} (h : Keep N a b) (hMN : ∀ i, i < a.heap.size → N i → M i) : Keep M a b :=
 ⟨h.os, h.tape, h.output, h.size, fun i hi hM => h.block i hi (fun hN => hM (hMN i hi hN))⟩
theorem Keep.then {M : Nat → Prop} {a b c : World} (h : Keep M a b) (k : Keep M b c) : Keep M a c := h.trans k (fun _ _ x => x)
theorem Keep.drew {M : Nat → Prop} {a b : World} (h : Keep M a b) : Keep M a b.drew := ⟨h.os, h.tape, h.output, h.size, h.block⟩
theorem Keep.drewN {M : Nat → Prop} {a b : World} (h : Keep M a b) (n : Nat) : Keep M a (b.drewN n) := ⟨h.os, h.tape, h.output, h.size, h.block⟩
theorem Keep.alloc {M : Nat → Prop} {a b : World} (h : Keep M a b) (o : Obj) : Keep M a (b.alloc o) :=
 ⟨h.os, h.tape, h.output, by have := h.size; simp; omega, fun k hk hM => (Below.heap_alloc _ _ _ (Nat.lt_of_lt_of_le hk h.size)).trans (h.block k hk hM)⟩
theorem Keep.setCell {M : Nat → Prop} {a b : World} (h : Keep M a b) {p : Addr} (hp : p.block < a.heap.size → M p.block) (u : Value) : Keep M a (b.setCell p u) :=
 ⟨h.os, h.tape, h.output, by simpa [World.setCell] using h.size, fun k hk hM => (Below.heap_setCell _ _ _ _ (fun e => hM (by subst e; exact hp hk))).trans (h.block k hk hM)⟩
theorem Keep.grown {M : Nat → Prop} {a b c : World} {row : Option Nat} (h : Keep M a b) (hg : b.grownBy c row) (hr : ∀ k, row = some k → k < a.heap.size → M k) : Keep M a c :=
 ⟨hg.os.trans h.os, hg.tape.trans h.tape, hg.output.trans h.output, Nat.le_trans h.size hg.size,
  fun k hk hM => (hg.block k (Nat.lt_of_lt_of_le hk h.size) (fun e => hM (hr k e.symm hk))).trans (h.block k hk hM)⟩
theorem Keep.below {M : Nat → Prop} {a b : World} (h : Keep M a b) {B : Nat} (hB : B ≤ a.heap.size) (hM : ∀ k, k < B → ¬ M k) : Below B a b :=
 ⟨h.os, h.tape, h.output, h.size, fun k hk => h.block k (Nat.lt_of_lt_of_le hk hB) (hM k hk)⟩
theorem Keep.of_below {a b : World} (h : Below a.heap.size a b) (M : Nat → Prop) : Keep M a b :=
 ⟨h.os, h.tape, h.output, h.size, fun k hk _ => h.block k hk⟩
theorem Keep.cell {M : Nat → Prop} {a b : World} (h : Keep M a b) {p : Addr} (hk : p.block < a.heap.size) (hM : ¬ M p.block) : b.cell? p = a.cell? p := World.cell?_of_block (w := a) (h.block p.block hk hM)
theorem Keep.frozen {M : Nat → Prop} {a b : World} (h : Keep M a b) {p : Addr} (hk : p.block < a.heap.size) (hM : ¬ M p.block) : b.frozen? p = a.frozen? p := World.frozen?_of_block (w := a) (h.block p.block hk hM)
theorem lt_of_heap {w : World} {g : Nat} {o : Obj} (hg : w.heap[g]? = some o) : g < w.heap.size := by
 rcases Nat.lt_or_ge g w.heap.size with h' | h'
 ·exact h'
 ·simp [Array.getElem?_eq_none h'] at hg
theorem lt_of_cell {w : World} {p : Addr} {v : Value} (h : w.cell? p = some v) : p.block < w.heap.size := by
 rcases Nat.lt_or_ge p.block w.heap.size with h' | h'
 ·exact h'
 ·simp [World.cell?, Array.getElem?_eq_none h'] at h
theorem cellAt {w : World} {b : Nat} {c : Array Value} {T : TypeId} {fr : Nat × Nat} (h : w.heap[b]? = some (.cells c T fr)) (i : Nat) : w.cell? ⟨b, i, none⟩ = c[i]? := by
 simp [World.cell?, h]
theorem freeAt {w : World} {b : Nat} {c : Array Value} {T : TypeId} (h : w.heap[b]? = some (.cells c T (0, 0))) (i : Nat) : w.frozen? ⟨b, i, none⟩ = false := by
 simp [World.frozen?, h]
theorem heap_set_same {w : World} {b i : Nat} {c : Array Value} {T : TypeId} {fr : Nat × Nat} (h : w.heap[b]? = some (.cells c T fr)) (v : Value) : (w.setCell ⟨b, i, none⟩ v).heap[b]? = some (.cells (c.setIfInBounds i v) T fr) := by
 simp [World.setCell, Array.getElem?_modify, h]
theorem heap_set_other {w : World} {b : Nat} {p : Addr} (v : Value) (hb : b ≠ p.block) : (w.setCell p v).heap[b]? = w.heap[b]? := Below.heap_setCell _ _ _ _ hb
structure Kpt (M : World → Nat → Prop) (w w' : World) : Prop where
 keep : Keep (M w) w w'
 grow : ∀ i, i < w.heap.size → M w' i → M w i
theorem Kpt.refl (M : World → Nat → Prop) (w : World) : Kpt M w w := ⟨Keep.refl _ w, fun _ _ x => x⟩
theorem Kpt.size {M : World → Nat → Prop} {a b : World} (h : Kpt M a b) : a.heap.size ≤ b.heap.size := h.keep.size
theorem Kpt.block {M : World → Nat → Prop} {a b : World} (h : Kpt M a b) (i : Nat) (hi : i < a.heap.size) (hM : ¬ M a i) : b.heap[i]? = a.heap[i]? := h.keep.block i hi hM
theorem Kpt.then {M : World → Nat → Prop} {a b c : World} (h : Kpt M a b) (k : Kpt M b c) : Kpt M a c :=
 ⟨h.keep.trans k.keep h.grow, fun i hi x => h.grow i hi (k.grow i (Nat.lt_of_lt_of_le hi h.size) x)⟩
def Eqv (w w' : World) : Prop := w'.heap = w.heap ∧ w'.os = w.os ∧ w'.tape = w.tape ∧ w'.output = w.output
theorem Eqv.refl (w : World) : Eqv w w := ⟨rfl, rfl, rfl, rfl⟩
theorem Eqv.drew (w : World) : Eqv w w.drew := ⟨rfl, rfl, rfl, rfl⟩
theorem Eqv.drewN (w : World) (n : Nat) : Eqv w (w.drewN n) := ⟨rfl, rfl, rfl, rfl⟩
theorem Eqv.keep {a b : World} (h : Eqv a b) (M : Nat → Prop) : Keep M a b := ⟨h.2.1, h.2.2.1, h.2.2.2, by rw [h.1]; exact Nat.le_refl _, fun k _ _ => by rw [h.1]⟩
theorem Keep.eqv {M : Nat → Prop} {a b c : World} (h : Keep M a b) (k : Eqv b c) : Keep M a c := h.trans (k.keep M) (fun _ _ x => x)
theorem Eqv.cell {a b : World} (h : Eqv a b) (p : Addr) : b.cell? p = a.cell? p := World.cell?_of_block (w := a) (by rw [h.1])
theorem Eqv.trans {a b c : World} (h : Eqv a b) (k : Eqv b c) : Eqv a c := ⟨k.1.trans h.1, k.2.1.trans h.2.1, k.2.2.1.trans h.2.2.1, k.2.2.2.trans h.2.2.2⟩
theorem Eqv.setc {a b : World} (h : Eqv a b) (p : Addr) (v : Value) : Eqv (a.setCell p v) (b.setCell p v) := by
 obtain ⟨h1, h2, h3, h4⟩ := h
 exact ⟨by simp only [World.setCell]; rw [h1], h2, h3, h4⟩
theorem Eqv.setr {a b : World} (h : Eqv a b) (g : Nat) (cs : Array Value) : Eqv (a.setRow g cs) (b.setRow g cs) := by
 obtain ⟨h1, h2, h3, h4⟩ := h
 exact ⟨by simp only [World.setRow]; rw [h1], h2, h3, h4⟩
theorem Keep.set {M : Nat → Prop} {a b : World} (h : Keep M a b) (B i : Nat) (hp : B < a.heap.size → M B) (u : Value) : Keep M a (b.setCell ⟨B, i, none⟩ u) := h.setCell (p := ⟨B, i, none⟩) hp u
theorem Keep.setRow {M : Nat → Prop} {a b : World} (h : Keep M a b) (B : Nat) (hp : B < a.heap.size → M B) (cs : Array Value) : Keep M a (b.setRow B cs) :=
 ⟨h.os, h.tape, h.output, by simpa using h.size, fun k hk hM => (setRow_other b B k cs (fun e => hM (by subst e; exact hp hk))).trans (h.block k hk hM)⟩
structure Env where
 eb : Nat
 eo : Nat
 ub : Nat
 uo : Nat
 base : Nat
abbrev Env.eof (E : Env) : Addr := ⟨E.eb, E.eo, none⟩
abbrev Env.ueof (E : Env) : Addr := ⟨E.ub, E.uo, none⟩
abbrev eofV (E : Env) : Value := .iface 273 (.pointer (some E.eof))
abbrev ueofV (E : Env) : Value := .iface 273 (.pointer (some E.ueof))
structure Glob (E : Env) (w : World) : Prop where
 base : 0 < E.base ∧ 1 < E.base
 eof : w.cell? ⟨0, 0, none⟩ = some (eofV E)
 ueof : w.cell? ⟨1, 0, none⟩ = some (ueofV E)
 ne : E.eof ≠ E.ueof
 size : E.base ≤ w.heap.size
 eofB : E.eb < E.base ∧ ∃ c t, w.heap[E.eb]? = some (.cells c t (0, 0))
 ueofB : E.ub < E.base ∧ ∃ c t, w.heap[E.ub]? = some (.cells c t (0, 0))
 eofS : ∃ s, w.cell? ⟨E.eb, E.eo, none⟩ = some (.string s)
 ueofS : ∃ s, w.cell? ⟨E.ub, E.uo, none⟩ = some (.string s)
theorem Glob.keep {E : Env} {w w' : World} {M : Nat → Prop} (h : Glob E w) (k : Keep M w w') (hM : ∀ i, M i → E.base ≤ i) : Glob E w' := by
 have hb := h.base
 have hs := h.size
 exact ⟨hb, (k.cell (p := ⟨0, 0, none⟩) (by simp; omega) (fun x => by have := hM _ x; simp at this; omega)).trans h.eof,
  (k.cell (p := ⟨1, 0, none⟩) (by simp; omega) (fun x => by have := hM _ x; simp at this; omega)).trans h.ueof, h.ne, Nat.le_trans hs k.size,
  ⟨h.eofB.1, let ⟨c, t, e⟩ := h.eofB.2; ⟨c, t, (k.block _ (by have := h.eofB.1; omega) (fun x => by have := hM _ x; have := h.eofB.1; omega)).trans e⟩⟩,
  ⟨h.ueofB.1, let ⟨c, t, e⟩ := h.ueofB.2; ⟨c, t, (k.block _ (by have := h.ueofB.1; omega) (fun x => by have := hM _ x; have := h.ueofB.1; omega)).trans e⟩⟩,
  let ⟨s, e⟩ := h.eofS; ⟨s, (k.cell (p := ⟨E.eb, E.eo, none⟩) (by have := h.eofB.1; simp; omega) (fun x => by have := hM _ x; have := h.eofB.1; simp at *; omega)).trans e⟩,
  let ⟨s, e⟩ := h.ueofS; ⟨s, (k.cell (p := ⟨E.ub, E.uo, none⟩) (by have := h.ueofB.1; simp; omega) (fun x => by have := hM _ x; have := h.ueofB.1; simp at *; omega)).trans e⟩⟩
theorem eof_eql (E : Env) (w : World) : (binOp .eql 92 (eofV E) (eofV E)).run Tryz.prog w = .ok (.bool true) w :=
 run_eql_iface_ptr_same w E.eof Tryz.underlying92 Tryz.underlying273 (i := Tryz.t273) (by kernel_rfl) (by kernel_rfl) (j := Tryz.t275) (by kernel_rfl)
end Go.Proofs.YtjekbomlpcdojaaGreatDoor
