/- Part 31 of the proof: Stf. -/
import Derived.Test.YtjekbomlpcdojaaGreatDoorK30
set_option linter.unusedVariables false
set_option linter.unusedSimpArgs false
set_option linter.unusedSectionVars false
set_option maxHeartbeats 16000000
namespace Go.Proofs.YtjekbomlpcdojaaGreatDoor
open Go Go.RowKit
structure Sto (St : Type) where
 k : Int
 s : St
 t : Int
 kt : Int
 z : Int
 i : Int
 n : Int
 b : List UInt8
def tyOf (op : Int) : Int := if op = 13 then 2 else if op = 14 then 3 else if op = 15 then 6 else if op = 16 then 8 else if op = 17 then 10 else if op = 18 then 4 else if op = 21 then 16 else 11
def stF {St : Type} (P : Pm St) (op t : Int) (s : St) : Sto St :=
 if op = 0 then ⟨P.gK s, P.gS s, P.gT s, 0, 0, 0, P.gN s, P.gB s⟩
 else if op = 2 then ⟨0, P.pr.sbS s, 0, 0, 0, 0, 0, []⟩
 else if op = 3 then (if P.pr.one ≤ P.pr.dep s then ⟨0, P.pr.seS s, 0, 0, 0, 0, 0, []⟩ else ⟨11, s, 0, 0, 0, 0, 0, []⟩)
 else if op = 4 then ⟨P.pr.fK s, P.pr.fS s, P.pr.fT s, 0, 0, P.pr.fI s, 0, []⟩
 else if op = 5 then ⟨0, P.pr.feS s, 0, 0, 0, 0, 0, []⟩
 else if op = 7 then ⟨P.pr.mK s, P.pr.mS s, P.pr.mT s, P.pr.mKT s, P.pr.mN s, 0, 0, []⟩
 else if op = 8 then ⟨0, P.pr.meS s, 0, 0, 0, 0, 0, []⟩
 else if op = 9 ∨ op = 11 then ⟨P.pr.lK s, P.pr.lS s, P.pr.lT s, 0, P.pr.lN s, 0, 0, []⟩
 else if op = 10 ∨ op = 12 then ⟨0, P.pr.leS s, 0, 0, 0, 0, 0, []⟩
 else if 13 ≤ op ∧ op ≤ 21 then ⟨P.pr.scK (tyOf op) s, P.pr.scS (tyOf op) s, 0, 0, 0, 0, P.pr.scN (tyOf op) s, P.pr.scB (tyOf op) s⟩
 else if op = 22 then ⟨(skp P.pr 64 (IntKind.u8.wrap t) s).1, (skp P.pr 64 (IntKind.u8.wrap t) s).2, 0, 0, 0, 0, 0, []⟩
 else ⟨0, s, 0, 0, 0, 0, 0, []⟩
def Rp.StO {St : Type} (K : Rp.Ctx St) (w : World) (o : Sto St) (e : Ending) (w' : World) : Prop := Rp.StP K w o.k o.s o.t o.kt o.z o.i o.n o.b e w'
theorem Rp.ReadP.sto {St : Type} {K : Rp.Ctx St} {w w' : World} {k N : Int} {s' : St} {S : List UInt8} {e : Ending} (h : Rp.ReadP K w k s' N S e w') : Rp.StP K w k s' 0 0 0 0 N S e w' := by
 obtain ⟨n, v, ev, rfl, hp, ⟨a, m, c, rfl⟩, hv⟩ := h
 exact ⟨0, 0, 0, 0, n, a, m, c, ev, rfl, hp, fun hz => ⟨rfl, rfl, rfl, rfl, (hv hz).1, (hv hz).2⟩⟩
theorem Rp.end0 {St : Type} {K : Rp.Ctx St} {f : FuncId} {w : World} {s' : St} {a : Array Value} (h : Calls Tryz.prog f a w fun e w' => e = .returned .nilIface ∧ Rp.Post K w w' 0 .nilIface s') : Calls Tryz.prog f a w (Rp.EndP K w 0 s') :=
 h.mono (fun e w' r => ⟨_, r.1, r.2⟩)
section
variable {St : Type} {P : Pm St} {K : Rp.Ctx St} {fb fe fy fk : FuncId} {t a2 a3 a4 a5 : Int} {sv : Value}
theorem Rp.stepI (hpr : K.pr = P.pr) (x : Rp.Ext K P.gK P.gS P.gT P.gN P.gB fb fe fy fk) (op : Int) (s : St) (w : World) (h : K.Inv s w) (hr : K.pr.Room s) :
  Calls Tryz.prog 91 #[K.V, .agg (stepJ op t a2 a3 a4 a5 sv)] w (Rp.StO K w (stF P op t s)) := by
 have hdep : K.pr.dep s < 1099511627776 := by
  have : K.pr.len s + K.pr.dep s < 1099511627776 := hr
  omega
 unfold Rp.StO stF
 rw [← hpr]
 by_cases e0 : op = 0
 ·subst e0
  exact Rp.readJ K 0 (by omega) s w h (fun W k => Rp.begunJ0 K x.mb s W (h.fresh k) (fun W' k' => x.msg ((h.fresh k).fresh k')))
 rw [if_neg e0]
 by_cases e2 : op = 2
 ·subst e2
  exact Rp.readJ K 2 (by omega) s w h (fun W k => Rp.begunJ2 K K.mSb s W (h.fresh k) (fun W' k' => x.sb ((h.fresh k).fresh k') hdep))
 rw [if_neg e2]
 by_cases e3 : op = 3
 ·subst e3
  by_cases hd : K.pr.one ≤ K.pr.dep s
  ·simp only [if_pos hd]
   exact Rp.readJ K 3 (by omega) s w h (fun W k => Rp.begunJ3 K K.mSe s W (h.fresh k) (fun W' k' => Rp.end0 (K.readStructEnd ((h.fresh k).fresh k') hd)))
  ·simp only [if_neg hd]
   exact Rp.readJ K 3 (by omega) s w h (fun W k => Rp.begunJ3 K K.mSe s W (h.fresh k) (fun W' k' => x.se ((h.fresh k).fresh k') hd))
 rw [if_neg e3]
 by_cases e4 : op = 4
 ·subst e4
  exact Rp.readJ K 4 (by omega) s w h (fun W k => Rp.begunJ4 K K.mFb s W (h.fresh k) (fun W' k' => x.f ((h.fresh k).fresh k')))
 rw [if_neg e4]
 by_cases e5 : op = 5
 ·subst e5
  exact Rp.readJ K 5 (by omega) s w h (fun W k => Rp.begunJ5 K K.mFe s W (h.fresh k) (fun W' k' => Rp.end0 (K.readFieldEnd ((h.fresh k).fresh k'))))
 rw [if_neg e5]
 by_cases e7 : op = 7
 ·subst e7
  exact Rp.readJ K 7 (by omega) s w h (fun W k => Rp.begunJ7 K K.mMb s W (h.fresh k) (fun W' k' => (K.readMapBegin ((h.fresh k).fresh k')).mono (fun e w' r => by
   obtain ⟨kt, t, n, ev, rfl, hp, hv⟩ := r
   exact ⟨kt, t, n, ev, rfl, hp, fun hz => ⟨(hv hz).1, (hv hz).2.1, (hv hz).2.2, wrap64_bd (K.mT_bd s).1 (by omega) (by omega), wrap64_bd (K.mT_bd s).2 (by omega) (by omega)⟩⟩)))
 rw [if_neg e7]
 by_cases e8 : op = 8
 ·subst e8
  exact Rp.readJ K 8 (by omega) s w h (fun W k => Rp.begunJ8 K K.mMe s W (h.fresh k) (fun W' k' => Rp.end0 (K.readMapEnd ((h.fresh k).fresh k'))))
 rw [if_neg e8]
 by_cases e9 : op = 9
 ·subst e9
  rw [if_pos (Or.inl rfl)]
  exact Rp.readJ K 9 (by omega) s w h (fun W k => Rp.begunJ9 K K.mLb s W (h.fresh k) (fun W' k' => (K.readListBegin ((h.fresh k).fresh k')).mono (fun e w' r => by
   obtain ⟨t, n, ev, rfl, hp, hv⟩ := r
   exact ⟨t, n, ev, rfl, hp, fun hz => ⟨(hv hz).1, (hv hz).2, Rp.lT_w K s⟩⟩)))
 by_cases e11 : op = 11
 ·subst e11
  rw [if_pos (Or.inr rfl)]
  exact Rp.readJ K 11 (by omega) s w h (fun W k => Rp.begunJ11 K K.mTb s W (h.fresh k) (fun W' k' => (K.readSetBegin ((h.fresh k).fresh k')).mono (fun e w' r => by
   obtain ⟨t, n, ev, rfl, hp, hv⟩ := r
   exact ⟨t, n, ev, rfl, hp, fun hz => ⟨(hv hz).1, (hv hz).2, Rp.lT_w K s⟩⟩)))
 rw [if_neg (by omega : ¬ (op = 9 ∨ op = 11))]
 by_cases e10 : op = 10
 ·subst e10
  rw [if_pos (Or.inl rfl)]
  exact Rp.readJ K 10 (by omega) s w h (fun W k => Rp.begunJ10 K K.mLe s W (h.fresh k) (fun W' k' => Rp.end0 (K.readListEnd ((h.fresh k).fresh k'))))
 by_cases e12 : op = 12
 ·subst e12
  rw [if_pos (Or.inr rfl)]
  exact Rp.readJ K 12 (by omega) s w h (fun W k => Rp.begunJ12 K K.mTe s W (h.fresh k) (fun W' k' => Rp.end0 (K.readSetEnd ((h.fresh k).fresh k'))))
 rw [if_neg (by omega : ¬ (op = 10 ∨ op = 12))]
 by_cases hs : 13 ≤ op ∧ op ≤ 21
 ·rw [if_pos hs]
  have hc : op = 13 ∨ op = 14 ∨ op = 15 ∨ op = 16 ∨ op = 17 ∨ op = 18 ∨ op = 19 ∨ op = 20 ∨ op = 21 := by omega
  rcases hc with rfl | rfl | rfl | rfl | rfl | rfl | rfl | rfl | rfl
  ·exact (Rp.read13 K s w h).mono (fun e w' r => r.sto)
  ·exact (Rp.read14 K s w h).mono (fun e w' r => r.sto)
  ·exact (Rp.read15 K s w h).mono (fun e w' r => r.sto)
  ·exact (Rp.read16 K s w h).mono (fun e w' r => r.sto)
  ·exact (Rp.read17 K s w h).mono (fun e w' r => r.sto)
  ·exact (Rp.read18 K s w h).mono (fun e w' r => r.sto)
  ·exact (Rp.read19 K s w h).mono (fun e w' r => r.sto)
  ·have hn : K.pr.scN 11 s = 0 := K.n0 11 s (.inl rfl)
   have hty : tyOf 20 = 11 := by decide
   simp only [hty, hn]
   exact Rp.read20 K x.my s w h (fun W k => x.byt (h.fresh k))
  ·exact (Rp.read21 K s w h).mono (fun e w' r => r.sto)
 rw [if_neg hs]
 by_cases e22 : op = 22
 ·subst e22
  exact Rp.readJ K 22 (by omega) s w h (fun W k => Rp.begunJ22 K x.mq s W (h.fresh k) (fun W' k' => x.skp _ ((h.fresh k).fresh k') hr))
 rw [if_neg e22]
 by_cases e1 : op = 1
 ·subst e1
  exact Rp.readJ K 1 (by omega) s w h (fun W k => Rp.begunJ1 K x.me s W (h.fresh k) (fun W' k' => x.mge ((h.fresh k).fresh k')))
 exact Rp.readJ K op (by omega) s w h (fun W k => Rp.begunJ_ K (by omega) s W (h.fresh k))
end
end Go.Proofs.YtjekbomlpcdojaaGreatDoor
