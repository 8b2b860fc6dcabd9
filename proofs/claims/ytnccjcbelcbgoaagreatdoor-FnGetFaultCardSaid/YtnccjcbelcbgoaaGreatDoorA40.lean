/- Part 40 of the proof: MkCmp. -/
import Derived.Test.YtnccjcbelcbgoaaGreatDoorA21
import Derived.Test.YtnccjcbelcbgoaaGreatDoorA8
import Derived.Test.YtnccjcbelcbgoaaGreatDoorA39
set_option linter.unusedVariables false
set_option linter.unusedSimpArgs false
set_option linter.unusedSectionVars false
/- The compact protocol is made over a memory buffer; what a caller knows of its buffer. -/
namespace Go.Proofs.YtnccjcbelcbgoaaGreatDoor
open Go Go.RowKit

abbrev Cmp.no (_ : Cfg) : Int := 1
abbrev Cmp.st0 (l : List UInt8) : Cmp.St := ⟨l, 0, [], false, false⟩
abbrev Cmp.rem (s : Cmp.St) : List UInt8 := s.rem
def Cmp.K0 (c : Cfg) : Cmp.Ctx := ⟨⟨0, 0, 0, 0, 0⟩, 0, 0, 0, 0, none, c⟩

theorem Cmp.madeD {E : Env} {MB B D : Nat} {c : Cfg} {l : List UInt8} {w : World} (hg : Glob E w) (hm : Mem E w MB B D l) (hc : c.ok) (hl : l.length ≤ 140737488355328) :
    Calls Tryz.prog 22 #[confV (Cmp.no c) c, memV MB] w fun e w' => ∃ K : Cmp.Ctx, e = .returned (Cmp.V K) ∧ K.E = E ∧ K.MB = MB ∧ K.B = B ∧ K.D = D ∧ K.c = c ∧ Cmp.Inv K (Cmp.st0 l) w' ∧ Keep (fun _ => False) w w' ∧ ∀ i, Cmp.M K w' i → B = i ∨ w.heap.size ≤ i := by
  refine (protocol_ctp c MB w).mono ?_
  rintro e w' ⟨P, a, rfl, hP, hPb, hcfg, hk⟩
  have h1 : MB < w.heap.size := lt_of_cell hm.mb
  have h2 : B < w.heap.size := hm.buf.lt
  have h3 := hm.ltD
  have h4 := hg.size
  have h5 : Cmp.At ⟨E, P, MB, B, D, a, c⟩ (Cmp.st0 l) (.slice none 0 0) (List.replicate 64 0) w' := by
    refine ⟨by simp, hPb, World.ownsRow_nil _ _ _ _, (fun g e => by simp [Value.ownBlock] at e), ⟨show (-32768 : Int) ≤ 0 by decide, show (0 : Int) ≤ 32767 by decide⟩, (fun x hx => by simp at hx), hm.keep hk id id id, hg.keep hk (fun _ x => x.elim), hcfg.weak (fun i hi h => ?_), hc, by show E.base ≤ P; omega, by show P ≠ MB; omega, by show P ≠ B; omega, by show P ≠ D; omega⟩
    rcases h with h | h | h
    · have h : B = i := h; omega
    · have h : P = i := h; omega
    · simp [Value.ownBlock] at h
  refine ⟨⟨E, P, MB, B, D, a, c⟩, rfl, rfl, rfl, rfl, rfl, rfl, ⟨⟨_, _, h5⟩, hl⟩, hk, fun i x => ?_⟩
  rcases (Cmp.M_at h5 i).1 x with h | h | h
  · exact .inl h
  · exact .inr (h ▸ hP)
  · simp [Value.ownBlock] at h

theorem Cmp.made {E : Env} {MB B D : Nat} {c : Cfg} {l : List UInt8} {w : World} (hg : Glob E w) (hm : Mem E w MB B D l) (hc : c.ok) (hl : l.length ≤ 140737488355328) :
    Calls Tryz.prog 22 #[confV (Cmp.no c) c, memV MB] w fun e w' => ∃ K : Cmp.Ctx, e = .returned (Cmp.V K) ∧ K.E = E ∧ K.MB = MB ∧ K.B = B ∧ K.c = c ∧ Cmp.Inv K (Cmp.st0 l) w' ∧ Keep (fun _ => False) w w' ∧ ∀ i, Cmp.M K w' i → B = i ∨ w.heap.size ≤ i := by
  refine (Cmp.madeD hg hm hc hl).mono ?_
  rintro e w' ⟨K, h1, h2, h3, h4, _, h5, h6, h7, h8⟩
  exact ⟨K, h1, h2, h3, h4, h5, h6, h7, h8⟩

theorem Cmp.bufID {K : Cmp.Ctx} {s : Cmp.St} {w : World} (h : Cmp.Inv K s w) : Mem K.E w K.MB K.B K.D (Cmp.rem s) := let ⟨_, _, hp⟩ := h.p; hp.mem
theorem Cmp.bufSD {K : Cmp.Ctx} {w : World} (h : Cmp.Some K w) : ∃ s, Mem K.E w K.MB K.B K.D s ∧ Glob K.E w := let ⟨_, _, _, hp⟩ := h; ⟨_, hp.mem, hp.glob⟩
theorem Cmp.bufI {K : Cmp.Ctx} {s : Cmp.St} {w : World} (h : Cmp.Inv K s w) : ∃ D, Mem K.E w K.MB K.B D (Cmp.rem s) := let ⟨_, _, hp⟩ := h.p; ⟨_, hp.mem⟩
theorem Cmp.bufS {K : Cmp.Ctx} {w : World} (h : Cmp.Some K w) : ∃ D s, Mem K.E w K.MB K.B D s ∧ Glob K.E w := let ⟨_, _, _, hp⟩ := h; ⟨_, _, hp.mem, hp.glob⟩
theorem Cmp.len (K : Cmp.Ctx) (s : Cmp.St) : (Cmp.pr K).len s = (Cmp.rem s).length := rfl
theorem Cmp.pr_c' (K : Cmp.Ctx) : Cmp.pr K = Cmp.pr (Cmp.K0 K.c) := rfl
theorem Cmp.room0 (K : Cmp.Ctx) (l : List UInt8) (h : l.length ≤ 1099511627775) : (Cmp.pr K).Room (Cmp.st0 l) := by show l.length + 0 < _; omega

/-- The reference's reader of bytes, as a reader. -/
theorem Cmp.newReader {A : Nat → Prop} (c : Cfg) (hc : c.ok) (v : Value) (l : List UInt8) (w : World) (h : BytesAt A w v l) (hl : l.length ≤ 140737488355328) :
    Calls Tryz.prog 25 #[confV (Cmp.no c) c, v] w fun e w' => ∃ r : Rdr Cmp.St, e = .returned (.pointer (some ⟨r.R, 0, none⟩)) ∧ r.Ok ∧ r.pr = Cmp.pr (Cmp.K0 c) ∧ r.Inv (Cmp.st0 l) w' ∧ Keep (fun _ => False) w w' ∧ (∀ i, r.M w' i → w.heap.size ≤ i) ∧
      ∀ s w2, r.Inv s w2 → Calls Tryz.prog 28 #[.pointer (some ⟨r.R, 0, none⟩)] w2 fun e w3 => e = .returned (.int .i64 (r.pr.len s)) ∧ w2 = w3 := by
  refine (newReader_at 1 c hc v l w h hl).mono ?_
  rintro e w2 ⟨R, TB, DT, rfl, hR1, hTB, hDT, hDl, hne, h2, hk2⟩
  have hC : RdC R TB DT (Cmp.K0 c).c l.length (Cmp.st0 l) (.slice none 0 0) 0 w2 := ⟨h2, (fun e => by cases e), .inl ⟨rfl, rfl⟩, ⟨show (-32768 : Int) ≤ 0 by decide, show (0 : Int) ≤ 32767 by decide⟩, (fun x hx => by simp at hx), hDl, hne⟩
  refine ⟨Cmp.rdr R TB DT (Cmp.K0 c) l.length, rfl, Cmp.rdr_ok, rfl, ⟨_, _, hC⟩, hk2, fun i hi => ?_, fun s w2 hs => let ⟨_, _, hp⟩ := hs; left_at hp.p⟩
  rcases (Cmp.rM_at hC i).1 hi with (rfl | rfl | rfl) | e
  · assumption
  · assumption
  · assumption
  · simp [Value.ownBlock] at e

theorem Cmp.lt_sc (K : Cmp.Ctx) (t : Int) (s : Cmp.St) : (Cmp.pr K).scK t s < 50 := Cmp.scK_lt K.c t s
theorem Cmp.lt_f (K : Cmp.Ctx) (s : Cmp.St) : (Cmp.pr K).fK s < 50 := Cmp.fK_lt s
theorem Cmp.lt_m (K : Cmp.Ctx) (s : Cmp.St) : (Cmp.pr K).mK s < 50 := Cmp.mK_lt K.c s
theorem Cmp.lt_l (K : Cmp.Ctx) (s : Cmp.St) : (Cmp.pr K).lK s < 50 := Cmp.lK_lt K.c s

end Go.Proofs.YtnccjcbelcbgoaaGreatDoor
