/- Part 38 of the proof: Ar0. -/
import Derived.Test.YtjekbomlpcdojaaGreatDoorH28
import Derived.Test.YtjekbomlpcdojaaGreatDoorTie
import Derived.ChangeSame
import Derived.ChangeVars
import Derived.JoinedOf
import Derived.RowKit
import Derived.RowKitTokens
import Derived.LaidLaws
import Derived.LaidMore
import Derived.LaidHandle
import Derived.OpenShut
import Derived.Carry
import Derived.SizedLaws
import Derived.Deep.Fields
set_option linter.unusedVariables false
set_option linter.unusedSimpArgs false
set_option linter.unusedSectionVars false
set_option maxHeartbeats 16000000
namespace Go.Proofs.YtjekbomlpcdojaaGreatDoor
open Go Go.RowKit Go.ChangeShapes Go.WideShapes Go.Deep
set_option maxRecDepth 100000
theorem own0 : ownKnob Tryz.prog.godebug = none := by kernel_rfl
theorem laidOut0 : laidOutB Tryz.prog = true := by kernel_rfl
theorem confOne : ∃ fs, Tryz.prog.underlying 23 = some (.struct fs) ∧ oneCellFields Tryz.prog fs = true ∧ fs.toList.map (·.type) = [3, 4, 4, 4, 21, 21, 21] := ⟨_, Tryz.underlying23, by kernel_rfl, rfl⟩
theorem confCells : Tryz.prog.cellsOf 23 = 7 := by kernel_rfl
section
variable {H : Type} {enc : TypeId × Value → H} {w : World} {base : Nat} {spare : Nat → Bool} {held : Bool}
theorem wf_i32 {n : Int} (h : (Lit.int .i32 n).wf = true) : -2147483648 ≤ n ∧ n ≤ 2147483647 := by
 simp [Lit.wf, IntKind.min, IntKind.max, IntKind.signed, IntKind.bits] at h
 omega
theorem wf_u8 {n : Int} (h : (Lit.int .u8 n).wf = true) : 0 ≤ n ∧ n ≤ 255 := by
 simp [Lit.wf, IntKind.min, IntKind.max, IntKind.signed, IntKind.bits] at h
 omega
theorem open_confP {r : Reach} {b0 : Nat} {v : Value} {d : DataW H} {p : List MemPlace} (hv : Value.okWide Tryz.prog w r b0 23 v) (h : DataW.Trod enc Tryz.prog w base spare held 23 v d p) : ∃ pr c, v = confV pr c ∧ c.ok ∧ c.p = pr := by
 obtain ⟨fs, hu, hone, hty⟩ := confOne
 obtain ⟨cs, rfl, hsz⟩ := okWide_struct hu hv
 rw [confCells] at hsz
 obtain ⟨fuel, hf⟩ := h
 obtain ⟨xs, n, _, hx, _, hlen, hg⟩ := DataW.trod_struct hu hf
 have hfl : fs.size = 7 := by have := congrArg List.length hty; simpa using this
 obtain ⟨l⟩ := cs
 have hl : l.length = 7 := by simpa using hsz
 match l, hl with
 | [c0, c1, c2, c3, c4, c5, c6], _ =>
  have key : ∀ (i : Nat) (t : TypeId), [3, 4, 4, 4, 21, 21, 21][i]? = some t → ∃ y, DataW.trod enc Tryz.prog w base spare held n t ((([c0, c1, c2, c3, c4, c5, c6] : List Value).drop i).take 1) = some y := by
   intro i t ht
   rw [← hty, List.getElem?_map] at ht
   obtain ⟨f, hf1, rfl⟩ := Option.map_eq_some_iff.1 ht
   have hf2 : fs[i]? = some f := by simpa using hf1
   obtain ⟨ho, hk⟩ := hone_of hone i f hf2
   have h1 := hg i f hf2
   rw [ho, hk] at h1
   have hi : i < fs.size := (Array.getElem?_eq_some_iff.1 hf2).1
   have hxs : xs[i]? = some (xs[i]'(by omega)) := List.getElem?_eq_getElem _
   exact ⟨_, by rw [← hxs, ← h1]; rfl⟩
  obtain ⟨_, k0⟩ := key 0 _ rfl
  obtain ⟨_, k1⟩ := key 1 _ rfl
  obtain ⟨_, k2⟩ := key 2 _ rfl
  obtain ⟨_, k3⟩ := key 3 _ rfl
  obtain ⟨_, k4⟩ := key 4 _ rfl
  obtain ⟨_, k5⟩ := key 5 _ rfl
  obtain ⟨_, k6⟩ := key 6 _ rfl
  obtain ⟨pr, e0, _, _⟩ := DataW.trod_int Tryz.underlying3 k0
  obtain ⟨b1, e1, _⟩ := DataW.trod_bool Tryz.underlying4 k1
  obtain ⟨b2, e2, _⟩ := DataW.trod_bool Tryz.underlying4 k2
  obtain ⟨b3, e3, _⟩ := DataW.trod_bool Tryz.underlying4 k3
  obtain ⟨n4, e4, _, w4⟩ := DataW.trod_int Tryz.underlying21 k4
  obtain ⟨n5, e5, _, w5⟩ := DataW.trod_int Tryz.underlying21 k5
  obtain ⟨n6, e6, _, w6⟩ := DataW.trod_int Tryz.underlying21 k6
  simp at e0 e1 e2 e3 e4 e5 e6
  subst e0 e1 e2 e3 e4 e5 e6
  have h4 := wf_i32 w4
  have h5 := wf_i32 w5
  have h6 := wf_i32 w6
  exact ⟨pr, ⟨b1, n4, n6, n5, b2, b3, pr⟩, rfl, ⟨h4.1, h4.2, h6.1, h6.2, h5.1, h5.2⟩, rfl⟩
theorem open_bytesA {b0 : Nat} {W : World} {v : Value} {d : DataW H} {p : List MemPlace} (hv : Value.okWide Tryz.prog W .any b0 24 v) (h : DataW.Trod enc Tryz.prog W 0 (fun _ => true) true 24 v d p)
  (hsz : ∀ elems sp, d = .slice elems sp → (elems.length + sp.length) * Tryz.prog.bytesOf 5 ≤ reachBytes) : ∃ l, BytesAt (fun _ => True) W v l := by
 obtain ⟨a1, len, cap, rfl⟩ := okWide_slice Tryz.underlying24 hv
 obtain ⟨fuel, hf⟩ := h
 rcases open_ints Tryz.underlying24 Tryz.underlying5 (by kernel_rfl) hf with ⟨hcs, hx⟩ | ⟨a, len', cap', zs, hcs, _, hl, hm, hz, hx, hcell, hwz⟩
 ·simp [Value.cells] at hcs
  obtain ⟨rfl, rfl, rfl⟩ := hcs
  exact ⟨[], .inl ⟨rfl, _, _, rfl⟩⟩
 ·simp [Value.cells] at hcs
  obtain ⟨rfl, rfl, rfl⟩ := hcs
  simp only [Prod.mk.injEq] at hx
  obtain ⟨rfl, rfl⟩ := hx
  simp at hz
  have hs := hsz _ _ rfl
  rw [show Tryz.prog.bytesOf 5 = 1 by kernel_rfl] at hs
  simp [lits] at hs
  have hr := reachBytes_lt
  by_cases h0 : len = 0
  ·subst h0
   exact ⟨[], .inl ⟨rfl, _, _, rfl⟩⟩
  ·obtain ⟨b, o, spot⟩ := a
   have hspot : spot = none := by
    have h1 := hcell 0 (by omega)
    simpa [Addr.add] using World.cell?_spot h1
   subst hspot
   refine ⟨(zs.take len).map (fun z => z.toNat.toUInt8), .inr ⟨fun e => ?_, b, o, cap, ?_, ?_, ?_, trivial, fun j x hj => ?_⟩⟩
   ·have hlen := congrArg List.length e
    rw [List.length_map, List.length_take, List.length_nil] at hlen
    omega
   ·congr 1
    simp
    omega
   ·simp
    omega
   ·simp
    omega
   ·rw [List.getElem?_map] at hj
    obtain ⟨z, hz1, rfl⟩ := Option.map_eq_some_iff.1 hj
    obtain ⟨hjl, hz2⟩ := List.getElem?_eq_some_iff.1 hz1
    simp at hjl hz2
    have h1 := hcell j (by omega)
    have hzz : zs.getD j 0 = z := by rw [List.getD_eq_getElem?_getD, List.getElem?_eq_getElem (by omega)]; exact hz2
    have hw := wf_u8 (hwz z (by rw [← hz2]; exact List.getElem_mem _))
    rw [hzz] at h1
    rw [Addr.add_lit] at h1
    rw [h1]
    have : ((z.toNat.toUInt8).toNat : Int) = z := by
     simp [UInt8.toNat_ofNat']
     omega
    rw [this]
theorem re_read {W W' : World} {t : TypeId} {v : Value} {d : DataW H} {p : List MemPlace} (hr : Tryz.prog.readableRec t = true) (hrow : t < Tryz.prog.types.size) (h : DataW.Trod enc Tryz.prog W 0 (fun _ => true) true t v d p) (hk : Keep (fun _ => False) W W') (hlt : ∀ x ∈ p, x.block < W.heap.size) :
  DataW.Trod enc Tryz.prog W' 0 (fun b => decide (b < W.heap.size)) true t v d p := Below.trod laidOut0 hr hrow h (hk.below (Nat.le_refl _) (fun _ _ => id)) hlt
end
abbrev laid3 : List (String × DataW Unit) := [("io.EOF", Rows.laid_io_EOF), ("io.ErrUnexpectedEOF", Rows.laid_io_ErrUnexpectedEOF), ("bytes.ErrTooLarge", Rows.laid_bytes_ErrTooLarge)]
theorem sen_names : Tryz.prog.globalNamed "io.EOF" = some 0 ∧ Tryz.prog.globalNamed "io.ErrUnexpectedEOF" = some 1 ∧ (Tryz.prog.globals[0]?).map (·.type) = some 92 ∧ (Tryz.prog.globals[1]?).map (·.type) = some 92 := ⟨by kernel_rfl, by kernel_rfl, by kernel_rfl, by kernel_rfl⟩
theorem sen_star : "*" ++ "errors.errorString" = "*errors.errorString" := by decide
theorem sen_row (u : TypeId) (h : Tryz.prog.typeName? 3 u = some "*errors.errorString") : u = 273 :=
 typeName_ptr_named (nm := "errors.errorString") (by rw [sen_star]; kernel_rfl) (by kernel_rfl) (by decide) u (by rw [sen_star]; exact h)
theorem sen_cells : Tryz.prog.cellsOf 275 = 1 ∧ Tryz.prog.cellsOf 9 = 1 := ⟨by kernel_rfl, by kernel_rfl⟩
theorem env_of_laid {W : World} (hL : laidMetH Tryz.prog laid3 W) : ∃ E : Env, E.base = W.heap.size ∧ Glob E W := by
 have h : laidMet Tryz.prog laid3 W := hL
 obtain ⟨n0, n1, y0, y1⟩ := sen_names
 obtain ⟨k0, k1⟩ := sen_cells
 obtain ⟨ps, ⟨g0, t0, cs0, f0, p0, q0, hg0, ht0, hv0, hd0, ⟨g1, t1, cs1, f1, p1, q1, hg1, ht1, hv1, hd1, _, e1⟩, e0⟩, hnd, hrows⟩ := h
 obtain rfl := Option.some.inj (n0.symm.trans hg0)
 obtain rfl := Option.some.inj (n1.symm.trans hg1)
 obtain rfl := Option.some.inj (y0.symm.trans ht0)
 obtain rfl := Option.some.inj (y1.symm.trans ht1)
 subst e1
 subst e0
 obtain ⟨l0⟩ := cs0
 obtain ⟨l1⟩ := cs1
 have ok0 : ∀ u v, l0 = [.iface u v] → Value.okWide Tryz.prog W .any 0 u v := fun u v e => by
  subst e
  exact (hrows 0 0 (by simp [MemPlace.row])).2 u v (by simpa using World.var?_cell hg0 hv0 0)
 have ok1 : ∀ u v, l1 = [.iface u v] → Value.okWide Tryz.prog W .any 0 u v := fun u v e => by
  subst e
  exact (hrows 1 0 (by simp [MemPlace.row])).2 u v (by simpa using World.var?_cell hg1 hv1 0)
 obtain ⟨a0, s0, rfl, hc0, hs0, hz0, rfl⟩ := errorString_of_trod Tryz.underlying92 sen_row Tryz.underlying273 Tryz.underlying275 rfl rfl Tryz.underlying9 k0 k1 hd0 ok0
 obtain ⟨a1, s1, rfl, hc1, hs1, hz1, rfl⟩ := errorString_of_trod Tryz.underlying92 sen_row Tryz.underlying273 Tryz.underlying275 rfl rfl Tryz.underlying9 k0 k1 hd1 ok1
 obtain ⟨b0, o0, sp0⟩ := a0
 obtain ⟨b1, o1, sp1⟩ := a1
 obtain rfl : sp0 = none := World.cell?_spot hc0
 obtain rfl : sp1 = none := World.cell?_spot hc1
 obtain ⟨c0, u0, hb0⟩ := (hrows b0 o0 (by simp [MemPlace.row])).1
 obtain ⟨c1, u1, hb1⟩ := (hrows b1 o1 (by simp [MemPlace.row])).1
 have x0 : W.cell? ⟨0, 0, none⟩ = some (.iface 273 (.pointer (some ⟨b0, o0, none⟩))) := by simpa using World.var?_cell n0 hv0 0
 have x1 : W.cell? ⟨1, 0, none⟩ = some (.iface 273 (.pointer (some ⟨b1, o1, none⟩))) := by simpa using World.var?_cell n1 hv1 0
 refine ⟨⟨b0, o0, b1, o1, W.heap.size⟩, rfl, ⟨⟨lt_of_cell x0, lt_of_cell x1⟩, x0, x1, ?_, Nat.le_refl _, ⟨lt_of_heap hb0, _, _, hb0⟩, ⟨lt_of_heap hb1, _, _, hb1⟩, ⟨_, hc0⟩, ⟨_, hc1⟩⟩⟩
 intro e
 simp only [Env.eof, Env.ueof, Addr.mk.injEq, and_true] at e
 obtain ⟨rfl, rfl⟩ := e
 simp [MemPlace.row] at hnd
end Go.Proofs.YtjekbomlpcdojaaGreatDoor
