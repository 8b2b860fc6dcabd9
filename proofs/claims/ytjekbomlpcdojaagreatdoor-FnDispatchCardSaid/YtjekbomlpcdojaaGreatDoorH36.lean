/- Part 36 of the proof: MkCmp, MgCmp, PmXCmp. -/
import Derived.Test.YtjekbomlpcdojaaGreatDoorH23
import Derived.Test.YtjekbomlpcdojaaGreatDoorH11
import Derived.Test.YtjekbomlpcdojaaGreatDoorH34
import Derived.Test.YtjekbomlpcdojaaGreatDoorH35
import Derived.Test.YtjekbomlpcdojaaGreatDoorH16
set_option linter.unusedVariables false
set_option linter.unusedSimpArgs false
set_option linter.unusedSectionVars false
set_option maxHeartbeats 16000000
namespace Go.Proofs.YtjekbomlpcdojaaGreatDoor
open Go Go.RowKit
abbrev Cmp.no (_ : Cfg) : Int := 1
abbrev Cmp.st0 (l : List UInt8) : Cmp.St := ⟨l, 0, [], false, false⟩
abbrev Cmp.rem (s : Cmp.St) : List UInt8 := s.rem
def Cmp.K0 (c : Cfg) : Cmp.Ctx := ⟨⟨0, 0, 0, 0, 0⟩, 0, 0, 0, 0, none, c⟩
theorem Cmp.madeD {E : Env} {MB B D : Nat} {c : Cfg} {l : List UInt8} {w : World} (hg : Glob E w) (hm : Mem E w MB B D l) (hc : c.ok) (hl : l.length ≤ 140737488355328) :
  Calls Tryz.prog 35 #[confV (Cmp.no c) c, memV MB] w fun e w' => ∃ K : Cmp.Ctx, e = .returned (Cmp.V K) ∧ K.E = E ∧ K.MB = MB ∧ K.B = B ∧ K.D = D ∧ K.c = c ∧ Cmp.Inv K (Cmp.st0 l) w' ∧ Keep (fun _ => False) w w' ∧ ∀ i, Cmp.M K w' i → B = i ∨ w.heap.size ≤ i := by
 refine (protocol_ctp c MB w).mono ?_
 rintro e w' ⟨P, a, rfl, hP, hPb, hcfg, hk⟩
 have h1 : MB < w.heap.size := lt_of_cell hm.mb
 have h2 : B < w.heap.size := hm.buf.lt
 have h3 := hm.ltD
 have h4 := hg.size
 have h5 : Cmp.At ⟨E, P, MB, B, D, a, c⟩ (Cmp.st0 l) (.slice none 0 0) (List.replicate 64 0) w' := by
  refine ⟨by simp, hPb, World.ownsRow_nil _ _ _ _, (fun g e => by simp [Value.ownBlock] at e), ⟨show (-32768 : Int) ≤ 0 by decide, show (0 : Int) ≤ 32767 by decide⟩, (fun x hx => by simp at hx), hm.keep hk id id id, hg.keep hk (fun _ x => x.elim), hcfg.weak (fun i hi h => ?_), hc, by show E.base ≤ P; omega, by show P ≠ MB; omega, by show P ≠ B; omega, by show P ≠ D; omega⟩
  rcases h with h | h | h
  ·have h : B = i := h; omega
  ·have h : P = i := h; omega
  ·simp [Value.ownBlock] at h
 refine ⟨⟨E, P, MB, B, D, a, c⟩, rfl, rfl, rfl, rfl, rfl, rfl, ⟨⟨_, _, h5⟩, hl⟩, hk, fun i x => ?_⟩
 rcases (Cmp.M_at h5 i).1 x with h | h | h
 ·exact .inl h
 ·exact .inr (h ▸ hP)
 ·simp [Value.ownBlock] at h
theorem Cmp.made {E : Env} {MB B D : Nat} {c : Cfg} {l : List UInt8} {w : World} (hg : Glob E w) (hm : Mem E w MB B D l) (hc : c.ok) (hl : l.length ≤ 140737488355328) :
  Calls Tryz.prog 35 #[confV (Cmp.no c) c, memV MB] w fun e w' => ∃ K : Cmp.Ctx, e = .returned (Cmp.V K) ∧ K.E = E ∧ K.MB = MB ∧ K.B = B ∧ K.c = c ∧ Cmp.Inv K (Cmp.st0 l) w' ∧ Keep (fun _ => False) w w' ∧ ∀ i, Cmp.M K w' i → B = i ∨ w.heap.size ≤ i := by
 refine (Cmp.madeD hg hm hc hl).mono ?_
 rintro e w' ⟨K, h1, h2, h3, h4, _, h5, h6, h7, h8⟩
 exact ⟨K, h1, h2, h3, h4, h5, h6, h7, h8⟩
theorem Cmp.bufI {K : Cmp.Ctx} {s : Cmp.St} {w : World} (h : Cmp.Inv K s w) : ∃ D, Mem K.E w K.MB K.B D (Cmp.rem s) := let ⟨_, _, hp⟩ := h.p; ⟨_, hp.mem⟩
theorem Cmp.bufS {K : Cmp.Ctx} {w : World} (h : Cmp.Some K w) : ∃ D s, Mem K.E w K.MB K.B D s ∧ Glob K.E w := let ⟨_, _, _, hp⟩ := h; ⟨_, _, hp.mem, hp.glob⟩
theorem Cmp.len (K : Cmp.Ctx) (s : Cmp.St) : (Cmp.pr K).len s = (Cmp.rem s).length := rfl
theorem Cmp.pr_c' (K : Cmp.Ctx) : Cmp.pr K = Cmp.pr (Cmp.K0 K.c) := rfl
theorem Cmp.room0 (K : Cmp.Ctx) (l : List UInt8) (h : l.length ≤ 1099511627775) : (Cmp.pr K).Room (Cmp.st0 l) := by show l.length + 0 < _; omega
theorem Cmp.lt_sc (K : Cmp.Ctx) (t : Int) (s : Cmp.St) : (Cmp.pr K).scK t s < 50 := Cmp.scK_lt K.c t s
theorem Cmp.lt_f (K : Cmp.Ctx) (s : Cmp.St) : (Cmp.pr K).fK s < 50 := Cmp.fK_lt s
theorem Cmp.lt_m (K : Cmp.Ctx) (s : Cmp.St) : (Cmp.pr K).mK s < 50 := Cmp.mK_lt K.c s
theorem Cmp.lt_l (K : Cmp.Ctx) (s : Cmp.St) : (Cmp.pr K).lK s < 50 := Cmp.lK_lt K.c s
abbrev Cmp.gK (c : Cfg) (s : Cmp.St) : Int := cmK c s
theorem pk_bd (k : Int) : 0 ≤ pk k ∧ pk k ≤ 16 := by
 unfold pk; repeat' split
 all_goals omega
theorem cstrK_bd (l : List UInt8) (c : Cfg) : 0 ≤ cstrK l c ∧ cstrK l c ≤ 16 := by
 have h := pk_bd (vK l)
 unfold cstrK sizeK fullK; repeat' split
 all_goals omega
theorem Cmp.gK_bd (c : Cfg) (s : Cmp.St) : 0 ≤ Cmp.gK c s ∧ Cmp.gK c s ≤ 16 := by
 show 0 ≤ cmK c s ∧ cmK c s ≤ 16
 unfold cmK; repeat' split
 all_goals first | decide | exact pk_bd _ | exact cstrK_bd _ _
abbrev Cmp.gS (s : Cmp.St) : Cmp.St := cmS s
abbrev Cmp.gT (s : Cmp.St) : Int := cmT s
abbrev Cmp.gN (s : Cmp.St) : Int := cmN s
abbrev Cmp.gB (s : Cmp.St) : List UInt8 := cmB s
theorem cmS_le (s : Cmp.St) : (cmS s).rem.length ≤ s.rem.length := by
 have h1 := cstrRem_le (vR (s.rem.drop 2))
 have h2 := vR_le (s.rem.drop 2)
 have h3 : (s.rem.drop 2).length ≤ s.rem.length := by simp
 show (cstrRem (vR (s.rem.drop 2))).length ≤ _
 omega
theorem Cmp.gS_room {K : Cmp.Ctx} {s : Cmp.St} (h : (Cmp.pr K).Room s) : (Cmp.pr K).Room (Cmp.gS s) := by
 have h1 : s.rem.length + s.outer.length < 1099511627776 := h
 have h2 := cmS_le s
 show (cmS s).rem.length + s.outer.length < 1099511627776
 omega
theorem Cmp.gN_w (s : Cmp.St) : IntKind.i32.wrap (Cmp.gN s) = Cmp.gN s := by
 have := v32_bd (s.rem.drop 2)
 show IntKind.i32.wrap (v32 (s.rem.drop 2)) = v32 (s.rem.drop 2)
 rw [IntKind.wrap_i32]
 omega
theorem Cmp.gT_w (s : Cmp.St) : IntKind.i64.wrap (Cmp.gT s) = Cmp.gT s := by
 have h : 0 ≤ cmT s ∧ cmT s ≤ 255 := by
  unfold cmT
  split
  ·rename_i b1 _ _
   have hb := b1.toNat_lt
   omega
  ·omega
 exact IntWalk.i64_in _ (by show -9223372036854775808 ≤ cmT s ∧ cmT s ≤ 9223372036854775807; omega)
theorem Cmp.gB_le (l : List UInt8) (h : l.length ≤ 140737488355328) : (⟨(Cmp.gB (Cmp.st0 l)).toArray⟩ : ByteArray).size ≤ 140737488355328 := by
 show (cstrS (vR (l.drop 2))).toArray.size ≤ _
 have h2 := vR_le (l.drop 2)
 have h3 := vR_le (vR (l.drop 2))
 have : (cstrS (vR (l.drop 2))).length ≤ l.length := by unfold cstrS; simp at h2 ⊢; omega
 simp; omega
theorem Cmp.readMessageBegin {K : Cmp.Ctx} {s : Cmp.St} {w : World} (h : Cmp.Inv K s w) :
  Calls Tryz.prog 232 #[.pointer (some ⟨K.P, 0, none⟩), ctxV] w fun e w' => ∃ l t q ev, e = .returned (.tuple #[.string l, .int .i32 t, .int .i32 q, ev]) ∧ Cmp.Post K w w' (Cmp.gK K.c s) ev (Cmp.gS s) ∧ (Cmp.gK K.c s = 0 → l = ⟨(Cmp.gB s).toArray⟩ ∧ t = Cmp.gT s ∧ q = Cmp.gN s) := by
 obtain ⟨fv, sc, hp⟩ := h.p
 refine (cmp_msgBegin hp).mono ?_
 rintro e w' ⟨l, t, q, ev, s', sc', rfl, he, hp', hk, hv⟩
 refine ⟨l, t, q, ev, rfl, Cmp.mkPost h hp hp' he hk MB2_CM (fun _ e => .inl e) (fun hz => ?_), fun hz => ⟨(hv hz).1, (hv hz).2.1, (hv hz).2.2.1⟩⟩
 obtain ⟨_, _, _, rfl⟩ := hv hz
 exact ⟨rfl, cmS_le s⟩
theorem Cmp.readMessageEnd (p c : Value) (w : World) : Calls Tryz.prog 233 #[p, c] w fun e w' => e = .returned .nilIface ∧ w = w' := cmp_msgEnd p c w
theorem Cmp.newReaderG {A : Nat → Prop} (c : Cfg) (hc : c.ok) (v : Value) (l : List UInt8) (w : World) (h : BytesAt A w v l) (hl : l.length ≤ 140737488355328) :
  Calls Tryz.prog 48 #[confV (Cmp.no c) c, v] w fun e w' => ∃ r : Rdr Cmp.St, e = .returned (.pointer (some ⟨r.R, 0, none⟩)) ∧ r.Ok ∧ r.pr = Cmp.pr (Cmp.K0 c) ∧ r.Inv (Cmp.st0 l) w' ∧ Keep (fun _ => False) w w' ∧ (∀ i, r.M w' i → w.heap.size ≤ i) ∧
   (∀ s w2, r.Inv s w2 → Calls Tryz.prog 63 #[.pointer (some ⟨r.R, 0, none⟩)] w2 fun e w3 => e = .returned (.int .i64 (r.pr.len s)) ∧ w2 = w3) ∧
   (∀ s w2, r.Inv s w2 → r.Step 0 w2 (r.GP w2 (Cmp.gK c s) (Cmp.gS s) (Cmp.gT s) 0 0 0 (Cmp.gN s) (Cmp.gB s))) ∧
   (∀ s w2, r.Inv s w2 → r.Step 1 w2 (r.GP w2 0 s 0 0 0 0 0 [])) := by
 refine (newReader_at 1 c hc v l w h hl).mono ?_
 rintro e w2 ⟨R, TB, DT, rfl, hR1, hTB, hDT, hDl, hne, h2, hk2⟩
 have hC : RdC R TB DT (Cmp.K0 c).c l.length (Cmp.st0 l) (.slice none 0 0) 0 w2 := ⟨h2, (fun e => by cases e), .inl ⟨rfl, rfl⟩, ⟨show (-32768 : Int) ≤ 0 by decide, show (0 : Int) ≤ 32767 by decide⟩, (fun x hx => by simp at hx), hDl, hne⟩
 refine ⟨Cmp.rdr R TB DT (Cmp.K0 c) l.length, rfl, Cmp.rdr_ok, rfl, ⟨_, _, hC⟩, hk2, (fun i hi => ?_), (fun s w2 hs => let ⟨_, _, hp⟩ := hs; left_at hp.p), (fun s w2 hs => ?_), (fun s w2 hs => ?_)⟩
 ·rcases (Cmp.rM_at hC i).1 hi with (rfl | rfl | rfl) | e
  ·assumption
  ·assumption
  ·assumption
  ·simp [Value.ownBlock] at e
 ·obtain ⟨fv, v, h⟩ := hs
  exact Cmp.rstep (K := Cmp.K0 c) 0 (by omega) (by omega) (by omega) h (fun w h => c_else 0 (by omega) (by omega) h (fun hp => (c_d0_false hp h).mono (fun e w' hg => hg.gg h)))
 ·obtain ⟨fv, v, h⟩ := hs
  exact Cmp.rstep (K := Cmp.K0 c) 1 (by omega) (by omega) (by omega) h (fun w h => c_else 1 (by omega) (by omega) h (fun hp => (c_d1_false hp h).mono (fun e w' hg => hg.gg h)))
theorem Cmp.msg (K : Cmp.Ctx) : Rp.Msg (Cmp.rp K) (Cmp.gK K.c) Cmp.gS Cmp.gT Cmp.gN Cmp.gB 232 233 where
 mb := ⟨fun w => by kernel_rfl, fun w => by kernel_rfl, fun args w => by kernel_rfl⟩
 me := ⟨fun w => by kernel_rfl, fun w => by kernel_rfl, fun args w => by kernel_rfl⟩
 rb h := (Cmp.readMessageBegin h).mono (fun e w' r => by obtain ⟨l, t, q, ev, rfl, hp, hv⟩ := r; exact ⟨l, t, q, ev, rfl, hp.rp, hv⟩)
 re := Cmp.readMessageEnd
def Cmp.pm (c : Cfg) (hc : c.ok) : Pm Cmp.St where
 c := c
 no := Cmp.no c
 pr := Cmp.pr (Cmp.K0 c)
 st0 := Cmp.st0
 rem := Cmp.rem
 gK := Cmp.gK c
 gS := Cmp.gS
 gT := Cmp.gT
 gN := Cmp.gN
 gB := Cmp.gB
 len := Cmp.len (Cmp.K0 c)
 lt := ⟨fun t s => Cmp.lt_sc (Cmp.K0 c) t s, fun s => Cmp.lt_f (Cmp.K0 c) s, fun s => Cmp.lt_m (Cmp.K0 c) s, fun s => Cmp.lt_l (Cmp.K0 c) s⟩
 gK_bd := Cmp.gK_bd c
 room0 := Cmp.room0 (Cmp.K0 c)
 gS_room _ h := Cmp.gS_room h
 gN_w := Cmp.gN_w
 gT_w := Cmp.gT_w
 gB_le := Cmp.gB_le
 made hg hm hl := (Cmp.made hg hm hc hl).mono (fun e w' r => by
  obtain ⟨K, rfl, rfl, rfl, rfl, rfl, hi, hk, hM⟩ := r
  exact ⟨Cmp.rp K, _, _, rfl, rfl, Cmp.pr_c' K, hi, hk, fun i m => hM i m, fun s W h => Cmp.bufI h, fun W h => Cmp.bufS h, Cmp.msg K⟩)
 read v l w h hl := Cmp.newReaderG c hc v l w h hl
end Go.Proofs.YtjekbomlpcdojaaGreatDoor
