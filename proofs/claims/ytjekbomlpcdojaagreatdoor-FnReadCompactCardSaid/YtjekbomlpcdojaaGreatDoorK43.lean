/- Part 43 of the proof: Ar1. -/
import Derived.Test.YtjekbomlpcdojaaGreatDoorK42
import Derived.Test.YtjekbomlpcdojaaGreatDoorK18
import Derived.Deep.Slices
set_option linter.unusedVariables false
set_option linter.unusedSimpArgs false
set_option linter.unusedSectionVars false
set_option maxHeartbeats 16000000
namespace Go.Proofs.YtjekbomlpcdojaaGreatDoor
open Go Go.RowKit Go.ChangeShapes Go.WideShapes Go.Deep
set_option maxRecDepth 100000
theorem stepOne : ∃ fs, Tryz.prog.underlying 63 = some (.struct fs) ∧ oneCellFields Tryz.prog fs = true ∧ fs.toList.map (·.type) = [3, 3, 3, 3, 3, 2, 24] := ⟨_, Tryz.underlying63, by kernel_rfl, rfl⟩
theorem stepCells : Tryz.prog.cellsOf 63 = 7 := by kernel_rfl
theorem wm_all {H : Type} {P : Program} {e : TypeId} : ∀ {ds : List (DataW H)} {d : DataW H}, d ∈ ds → ∀ n ∈ d.weights P e, n ∈ DataW.weightsAll P e ds
 | x :: ds, d, hd, n, hn => by
  simp only [DataW.weightsAll, List.mem_append]
  rcases List.mem_cons.1 hd with rfl | h
  ·exact .inl hn
  ·exact .inr (wm_all h n hn)
section
variable {H : Type} {enc : TypeId × Value → H} {w : World} {base : Nat} {spare : Nat → Bool} {held : Bool}
theorem open_bytesC {W : World} {v : Value} {n : Nat} {y : DataW H × List MemPlace} (hf : DataW.trod enc Tryz.prog W 0 (fun _ => true) true n 24 [v] = some y)
  (hsz : ∀ elems sp, y.1 = .slice elems sp → (elems.length + sp.length) * Tryz.prog.bytesOf 5 ≤ reachBytes) : ∃ l, BytesAt (fun _ => True) W v l := by
 rcases open_ints Tryz.underlying24 Tryz.underlying5 (by kernel_rfl) hf with ⟨hcs, hx⟩ | ⟨a, len, cap, zs, hcs, _, hl, hm, hz, hx, hcell, hwz⟩
 ·simp at hcs
  subst hcs
  exact ⟨[], .inl ⟨rfl, _, _, rfl⟩⟩
 ·simp at hcs
  subst hcs
  subst hx
  simp at hz
  have hs := hsz _ _ rfl
  rw [show Tryz.prog.bytesOf 5 = 1 by kernel_rfl] at hs
  simp [lits] at hs
  have hr := reachBytes_lt
  by_cases h0 : len = 0
  ·subst h0
   exact ⟨[], .inl ⟨rfl, _, _, rfl⟩⟩
  ·obtain ⟨b, o, spot⟩ := a
   have hspot : spot = none := by
    have h1 := hcell 0 (by omega)
    simpa [Addr.add] using World.cell?_spot h1
   subst hspot
   refine ⟨(zs.take len).map (fun z => z.toNat.toUInt8), .inr ⟨fun e => ?_, b, o, cap, ?_, ?_, ?_, trivial, fun j x hj => ?_⟩⟩
   ·have hlen := congrArg List.length e
    rw [List.length_map, List.length_take, List.length_nil] at hlen
    omega
   ·congr 1
    simp
    omega
   ·simp
    omega
   ·simp
    omega
   ·rw [List.getElem?_map] at hj
    obtain ⟨z, hz1, rfl⟩ := Option.map_eq_some_iff.1 hj
    obtain ⟨hjl, hz2⟩ := List.getElem?_eq_some_iff.1 hz1
    simp at hjl hz2
    have h1 := hcell j (by omega)
    have hzz : zs.getD j 0 = z := by rw [List.getD_eq_getElem?_getD, List.getElem?_eq_getElem (by omega)]; exact hz2
    have hw := wf_u8 (hwz z (by rw [← hz2]; exact List.getElem_mem _))
    rw [hzz] at h1
    rw [Addr.add_lit] at h1
    rw [h1]
    have : ((z.toNat.toUInt8).toNat : Int) = z := by
     simp [UInt8.toNat_ofNat']
     omega
    rw [this]
theorem open_step {W : World} {n : Nat} {cs : List Value} {y : DataW H × List MemPlace} (hf : DataW.trod enc Tryz.prog W 0 (fun _ => true) true n 63 cs = some y) (hlen : cs.length = 7) (hsz : ∀ k ∈ y.1.weights Tryz.prog 63, k ≤ reachBytes) :
  ∃ op t k z i m sv l, cs = [.int .i64 op, .int .i64 t, .int .i64 k, .int .i64 z, .int .i64 i, .int .i64 m, sv] ∧ BytesAt (fun _ => True) W sv l := by
 obtain ⟨fs, hu, hone, hty⟩ := stepOne
 obtain ⟨xs, n', _, hx, _, hlenx, hg⟩ := DataW.trod_struct hu hf
 have hfl : fs.size = 7 := by have := congrArg List.length hty; simpa using this
 match cs, hlen with
 | [c0, c1, c2, c3, c4, c5, c6], _ =>
  have key : ∀ (i : Nat) (t : TypeId), [3, 3, 3, 3, 3, 2, 24][i]? = some t → ∃ y', xs[i]? = some y' ∧ DataW.trod enc Tryz.prog W 0 (fun _ => true) true n' t ((([c0, c1, c2, c3, c4, c5, c6] : List Value).drop i).take 1) = some y' := by
   intro i t ht
   rw [← hty, List.getElem?_map] at ht
   obtain ⟨f, hf1, rfl⟩ := Option.map_eq_some_iff.1 ht
   have hf2 : fs[i]? = some f := by simpa using hf1
   obtain ⟨ho, hk⟩ := hone_of hone i f hf2
   have h1 := hg i f hf2
   rw [ho, hk] at h1
   have hi : i < fs.size := (Array.getElem?_eq_some_iff.1 hf2).1
   have hxs : xs[i]? = some (xs[i]'(by omega)) := List.getElem?_eq_getElem _
   exact ⟨_, hxs, by rw [← hxs, ← h1]⟩
  obtain ⟨_, _, k0⟩ := key 0 _ rfl
  obtain ⟨_, _, k1⟩ := key 1 _ rfl
  obtain ⟨_, _, k2⟩ := key 2 _ rfl
  obtain ⟨_, _, k3⟩ := key 3 _ rfl
  obtain ⟨_, _, k4⟩ := key 4 _ rfl
  obtain ⟨_, _, k5⟩ := key 5 _ rfl
  obtain ⟨y6, x6, k6⟩ := key 6 _ rfl
  obtain ⟨n0, e0, _, _⟩ := DataW.trod_int Tryz.underlying3 k0
  obtain ⟨n1, e1, _, _⟩ := DataW.trod_int Tryz.underlying3 k1
  obtain ⟨n2, e2, _, _⟩ := DataW.trod_int Tryz.underlying3 k2
  obtain ⟨n3, e3, _, _⟩ := DataW.trod_int Tryz.underlying3 k3
  obtain ⟨n4, e4, _, _⟩ := DataW.trod_int Tryz.underlying3 k4
  obtain ⟨n5, e5, _, _⟩ := DataW.trod_int Tryz.underlying2 k5
  simp at e0 e1 e2 e3 e4 e5
  subst e0 e1 e2 e3 e4 e5
  have hy1 : y.1 = .agg (xs.map (·.1)) := by rw [hx]
  obtain ⟨l, hl⟩ := open_bytesC (v := c6) k6 (fun elems sp e => by
   refine hsz _ ?_
   rw [hy1]
   have h6 : (xs.map (·.1))[6]? = some y6.1 := by rw [List.getElem?_map, x6]; rfl
   have hm := DataW.weights_mem_each (P := Tryz.prog) (ts := fs.toList.map (·.type)) (ds := xs.map (·.1)) (j := 6) (t := 24) (d := y6.1) (by rw [hty]; rfl) h6
   simp only [DataW.weights, hu]
   refine hm _ ?_
   rw [e]
   simp [DataW.weights, Tryz.underlying24])
  exact ⟨n0, n1, n2, n3, n4, n5, c6, l, rfl, hl⟩
theorem open_steps {b0 : Nat} {W : World} {v : Value} {d : DataW H} {p : List MemPlace} (hv : Value.okWide Tryz.prog W .any b0 25 v) (h : DataW.Trod enc Tryz.prog W 0 (fun _ => true) true 25 v d p)
  (hsz : ∀ k ∈ d.weights Tryz.prog 25, k ≤ reachBytes) : ∃ ls, StepsAt (fun _ => True) W v ls := by
 obtain ⟨a1, len, cap, rfl⟩ := okWide_slice Tryz.underlying25 hv
 obtain ⟨fuel, hf⟩ := h
 rcases open_slice Tryz.underlying25 hf with ⟨hcs, hx⟩ | ⟨a, len', cap', m, n, D, Pl, hcs, hb, hl, hm, hmm, hx, hel⟩
 ·simp [Value.cells] at hcs
  obtain ⟨rfl, rfl, rfl⟩ := hcs
  exact ⟨[], none, 0, rfl, by simp, fun e => absurd rfl e, fun j x hj => by simp at hj⟩
 ·simp [Value.cells] at hcs
  obtain ⟨rfl, rfl, rfl⟩ := hcs
  simp at hmm
  subst hmm
  simp only [Prod.mk.injEq] at hx
  obtain ⟨rfl, _⟩ := hx
  have hr := reachBytes_lt
  have hby : Tryz.prog.bytesOf 63 = 72 := by kernel_rfl
  have hw0 := hsz ((((List.range len).map D).length + ((List.range (m - len)).map fun j => D (len + j)).length) * Tryz.prog.bytesOf 63) (by simp [DataW.weights, Tryz.underlying25])
  rw [hby] at hw0
  simp at hw0
  have hw1 : ∀ i, i < len → ∀ k ∈ (D i).weights Tryz.prog 63, k ≤ reachBytes := fun i hi k hk => hsz k (by
   simp only [DataW.weights, Tryz.underlying25, List.mem_cons, List.mem_append]
   exact .inr (.inl (wm_all (List.mem_map.2 ⟨i, List.mem_range.2 hi, rfl⟩) k hk)))
  obtain ⟨b, o, spot⟩ := a
  have hspot : 0 < len → spot = none := fun h0 => by
   obtain ⟨cs', h1, h2⟩ := hel 0 (by omega)
   rw [stepCells] at h1
   obtain ⟨_, hlen7, hcell⟩ := World.cells?_some h1
   obtain ⟨op, t, k, z, ii, nn, sv, l, rfl, hbl⟩ := open_step h2 hlen7 (hw1 0 h0)
   have g0 : W.cell? (((⟨b, o, spot⟩ : Addr).add (0 * 7)).add 0) = some (.int .i64 op) := hcell 0 (by omega)
   have g1 := World.cell?_spot g0
   simpa [Addr.add] using g1
  haveI : Inhabited (Sg × Value) := ⟨(⟨0, 0, 0, 0, 0, 0, []⟩, .slice none 0 0)⟩
  have each : ∀ i, i < len → ∃ q : Sg × Value, BytesAt (fun _ => True) W q.2 q.1.s ∧ spot = none ∧ Row7 W b (o + i * 7) (.int .i64 q.1.op) (.int .i64 q.1.t) (.int .i64 q.1.k) (.int .i64 q.1.z) (.int .i64 q.1.i) (.int .i64 q.1.n) q.2 := by
   intro i hi
   obtain ⟨cs', h1, h2⟩ := hel i (by omega)
   rw [stepCells] at h1
   obtain ⟨_, hlen7, hcell⟩ := World.cells?_some h1
   obtain ⟨op, t, k, z, ii, nn, sv, l, rfl, hbl⟩ := open_step h2 hlen7 (hw1 i hi)
   have g0 := hcell 0 (by omega)
   have g1 := hcell 1 (by omega)
   have g2 := hcell 2 (by omega)
   have g3 := hcell 3 (by omega)
   have g4 := hcell 4 (by omega)
   have g5 := hcell 5 (by omega)
   have g6 := hcell 6 (by omega)
   obtain rfl := hspot (by omega)
   rw [Addr.add_lit, Addr.add_lit] at g0 g1 g2 g3 g4 g5 g6
   exact ⟨(⟨op, t, k, z, ii, nn, l⟩, sv), hbl, rfl, by simpa using g0, by simpa using g1, by simpa using g2, by simpa using g3, by simpa using g4, by simpa using g5, by simpa using g6⟩
  obtain ⟨q, hq⟩ := choose_lt each
  refine ⟨(List.range len).map (fun i => (q i).1), some ⟨b, o, spot⟩, m, by simp, by simp; omega, fun _ => by simp only [maxLen] at hm; simp; omega, fun j x hj => ?_⟩
  rw [List.getElem?_map] at hj
  obtain ⟨j', hj1, rfl⟩ := Option.map_eq_some_iff.1 hj
  obtain ⟨hjl, hj2⟩ := List.getElem?_eq_some_iff.1 hj1
  simp at hjl hj2
  subst hj2
  obtain ⟨r1, r2, r3⟩ := hq j hjl
  exact ⟨b, o, (q j).2, by rw [r2], trivial, r1, r3⟩
end
end Go.Proofs.YtjekbomlpcdojaaGreatDoor
