/- Part 39 of the proof: Ar1, Ar2. -/
import Derived.Test.YtjekbomlpcdojaaGreatDoorH38
import Derived.Test.YtjekbomlpcdojaaGreatDoorH15
import Derived.Test.YtjekbomlpcdojaaGreatDoorH16
import Derived.Deep.Slices
set_option linter.unusedVariables false
set_option linter.unusedSimpArgs false
set_option linter.unusedSectionVars false
set_option maxHeartbeats 16000000
namespace Go.Proofs.YtjekbomlpcdojaaGreatDoor
open Go Go.RowKit Go.ChangeShapes Go.WideShapes Go.Deep
set_option maxRecDepth 100000
theorem wm_all {H : Type} {P : Program} {e : TypeId} : ∀ {ds : List (DataW H)} {d : DataW H}, d ∈ ds → ∀ n ∈ d.weights P e, n ∈ DataW.weightsAll P e ds
 | x :: ds, d, hd, n, hn => by
  simp only [DataW.weightsAll, List.mem_append]
  rcases List.mem_cons.1 hd with rfl | h
  ·exact .inl hn
  ·exact .inr (wm_all h n hn)
section
variable {H : Type} {enc : TypeId × Value → H} {w : World} {base : Nat} {spare : Nat → Bool} {held : Bool}
theorem open_bytesC {W : World} {v : Value} {n : Nat} {y : DataW H × List MemPlace} (hf : DataW.trod enc Tryz.prog W 0 (fun _ => true) true n 24 [v] = some y)
  (hsz : ∀ elems sp, y.1 = .slice elems sp → (elems.length + sp.length) * Tryz.prog.bytesOf 5 ≤ reachBytes) : ∃ l, BytesAt (fun _ => True) W v l := by
 rcases open_ints Tryz.underlying24 Tryz.underlying5 (by kernel_rfl) hf with ⟨hcs, hx⟩ | ⟨a, len, cap, zs, hcs, _, hl, hm, hz, hx, hcell, hwz⟩
 ·simp at hcs
  subst hcs
  exact ⟨[], .inl ⟨rfl, _, _, rfl⟩⟩
 ·simp at hcs
  subst hcs
  subst hx
  simp at hz
  have hs := hsz _ _ rfl
  rw [show Tryz.prog.bytesOf 5 = 1 by kernel_rfl] at hs
  simp [lits] at hs
  have hr := reachBytes_lt
  by_cases h0 : len = 0
  ·subst h0
   exact ⟨[], .inl ⟨rfl, _, _, rfl⟩⟩
  ·obtain ⟨b, o, spot⟩ := a
   have hspot : spot = none := by
    have h1 := hcell 0 (by omega)
    simpa [Addr.add] using World.cell?_spot h1
   subst hspot
   refine ⟨(zs.take len).map (fun z => z.toNat.toUInt8), .inr ⟨fun e => ?_, b, o, cap, ?_, ?_, ?_, trivial, fun j x hj => ?_⟩⟩
   ·have hlen := congrArg List.length e
    rw [List.length_map, List.length_take, List.length_nil] at hlen
    omega
   ·congr 1
    simp
    omega
   ·simp
    omega
   ·simp
    omega
   ·rw [List.getElem?_map] at hj
    obtain ⟨z, hz1, rfl⟩ := Option.map_eq_some_iff.1 hj
    obtain ⟨hjl, hz2⟩ := List.getElem?_eq_some_iff.1 hz1
    simp at hjl hz2
    have h1 := hcell j (by omega)
    have hzz : zs.getD j 0 = z := by rw [List.getD_eq_getElem?_getD, List.getElem?_eq_getElem (by omega)]; exact hz2
    have hw := wf_u8 (hwz z (by rw [← hz2]; exact List.getElem_mem _))
    rw [hzz] at h1
    rw [Addr.add_lit] at h1
    rw [h1]
    have : ((z.toNat.toUInt8).toNat : Int) = z := by
     simp [UInt8.toNat_ofNat']
     omega
    rw [this]
end
end Go.Proofs.YtjekbomlpcdojaaGreatDoor

namespace Go.Proofs.YtjekbomlpcdojaaGreatDoor
open Go Go.RowKit Go.ChangeShapes Go.WideShapes Go.Deep
set_option maxRecDepth 100000
theorem textCells : Tryz.prog.cellsOf 24 = 1 := by kernel_rfl
section
variable {H : Type} {enc : TypeId × Value → H}
theorem open_texts {b0 : Nat} {W : World} {v : Value} {d : DataW H} {p : List MemPlace} (hv : Value.okWide Tryz.prog W .any b0 29 v) (h : DataW.Trod enc Tryz.prog W 0 (fun _ => true) true 29 v d p)
  (hsz : ∀ k ∈ d.weights Tryz.prog 29, k ≤ reachBytes) : ∃ ls, TextsAt (fun _ => True) W v ls := by
 obtain ⟨a1, len, cap, rfl⟩ := okWide_slice Tryz.underlying29 hv
 obtain ⟨fuel, hf⟩ := h
 rcases open_slice Tryz.underlying29 hf with ⟨hcs, hx⟩ | ⟨a, len', cap', m, n, D, Pl, hcs, hb, hl, hm, hmm, hx, hel⟩
 ·simp [Value.cells] at hcs
  obtain ⟨rfl, rfl, rfl⟩ := hcs
  exact ⟨[], none, 0, rfl, by simp, fun e => absurd rfl e, fun j x hj => by simp at hj⟩
 ·simp [Value.cells] at hcs
  obtain ⟨rfl, rfl, rfl⟩ := hcs
  simp at hmm
  subst hmm
  simp only [Prod.mk.injEq] at hx
  obtain ⟨rfl, _⟩ := hx
  have hr := reachBytes_lt
  have hby : Tryz.prog.bytesOf 24 = 24 := by kernel_rfl
  have hw0 := hsz ((((List.range len).map D).length + ((List.range (m - len)).map fun j => D (len + j)).length) * Tryz.prog.bytesOf 24) (by simp [DataW.weights, Tryz.underlying29])
  rw [hby] at hw0
  simp at hw0
  have hw1 : ∀ i, i < len → ∀ k ∈ (D i).weights Tryz.prog 24, k ≤ reachBytes := fun i hi k hk => hsz k (by
   simp only [DataW.weights, Tryz.underlying29, List.mem_cons, List.mem_append]
   exact .inr (.inl (wm_all (List.mem_map.2 ⟨i, List.mem_range.2 hi, rfl⟩) k hk)))
  obtain ⟨b, o, spot⟩ := a
  have one : ∀ i, i < len → ∃ sv l, BytesAt (fun _ => True) W sv l ∧ W.cell? (((⟨b, o, spot⟩ : Addr).add (i * 1)).add 0) = some sv := by
   intro i hi
   obtain ⟨cs', h1, h2⟩ := hel i (by omega)
   rw [textCells] at h1
   obtain ⟨_, hlen1, hcell⟩ := World.cells?_some h1
   match cs', hlen1 with
   | [sv], _ =>
    obtain ⟨l, hl⟩ := open_bytesC (v := sv) h2 (fun elems sp e => hw1 i hi _ (by
     rw [show (D i) = .slice elems sp from e]
     simp [DataW.weights, Tryz.underlying24]))
    exact ⟨sv, l, hl, hcell 0 (by omega)⟩
  have hspot : 0 < len → spot = none := fun h0 => by
   obtain ⟨sv, l, _, g0⟩ := one 0 h0
   have g1 := World.cell?_spot g0
   simpa [Addr.add] using g1
  haveI : Inhabited (List UInt8 × Value) := ⟨([], .slice none 0 0)⟩
  have each : ∀ i, i < len → ∃ q : List UInt8 × Value, BytesAt (fun _ => True) W q.2 q.1 ∧ spot = none ∧ W.cell? ⟨b, o + i, none⟩ = some q.2 := by
   intro i hi
   obtain ⟨sv, l, hbl, g0⟩ := one i hi
   obtain rfl := hspot (by omega)
   rw [Addr.add_lit, Addr.add_lit] at g0
   exact ⟨(l, sv), hbl, rfl, by simpa using g0⟩
  obtain ⟨q, hq⟩ := choose_lt each
  refine ⟨(List.range len).map (fun i => (q i).1), some ⟨b, o, spot⟩, m, by simp, by simp; omega, fun _ => by simp only [maxLen] at hm; simp; omega, fun j x hj => ?_⟩
  rw [List.getElem?_map] at hj
  obtain ⟨j', hj1, rfl⟩ := Option.map_eq_some_iff.1 hj
  obtain ⟨hjl, hj2⟩ := List.getElem?_eq_some_iff.1 hj1
  simp at hjl hj2
  subst hj2
  obtain ⟨r1, r2, r3⟩ := hq j hjl
  exact ⟨b, o, (q j).2, by rw [r2], trivial, r1, r3⟩
end
end Go.Proofs.YtjekbomlpcdojaaGreatDoor
