/- Part 32 of the proof: Sg1. -/
import Derived.Test.YtjekbomlpcdojaaGreatDoorK18
import Derived.Test.YtjekbomlpcdojaaGreatDoorK29
import Derived.Maps.AppendAt
set_option linter.unusedVariables false
set_option linter.unusedSimpArgs false
set_option linter.unusedSectionVars false
set_option maxHeartbeats 16000000
namespace Go.Proofs.YtjekbomlpcdojaaGreatDoor
open Go Go.RowKit
theorem row_new (w : World) (cs : Array Value) (T : TypeId) : ∀ j u, cs.toList[j]? = some u → (w.alloc (.cells cs T)).cell? ((⟨w.heap.size, 0, none⟩ : Addr).add j) = some u := by
 intro j u hj
 rw [Addr.add_lit, Nat.zero_add, cellAt (heap_alloc_new w _)]
 simpa using hj
theorem own_shape {w : World} {B n size : Nat} {e : TypeId} {v : Value} {xs : List Value} (h : w.ownsRow B e size v n xs) : ∃ a m c, v = .slice a m c := by
 rcases h.2 with ⟨rfl, _⟩ | ⟨g, cap, cur, rfl, _⟩
 ·exact ⟨_, _, _, rfl⟩
 ·exact ⟨_, _, _, rfl⟩
theorem own_row {w : World} {B : Nat} {T : TypeId} {v : Value} {rows : List (List Value)} (h : w.ownsRow B T 7 v rows.length rows.flatten) (h7 : ∀ cs ∈ rows, cs.length = 7) :
  ∃ a c, v = .slice a rows.length c ∧ (rows.length ≠ 0 → rows.length ≤ c ∧ c ≤ 9223372036854775807) ∧ ∀ j v0 v1 v2 v3 v4 v5 v6, rows[j]? = some [v0, v1, v2, v3, v4, v5, v6] → ∃ D, a = some ⟨D, 0, none⟩ ∧ B ≤ D ∧ Row7 w D (0 + j * 7) v0 v1 v2 v3 v4 v5 v6 := by
 rcases h.2 with ⟨rfl, h0⟩ | ⟨g, cap, cur, rfl, hg, hgg, hnc, hcm, _, _⟩
 ·refine ⟨none, 0, by rw [h0], fun e => absurd h0 e, fun j v0 v1 v2 v3 v4 v5 v6 hj => ?_⟩
  have := (List.getElem?_eq_some_iff.1 hj).1
  omega
 ·refine ⟨_, cap, rfl, fun _ => ⟨hnc, hcm⟩, fun j v0 v1 v2 v3 v4 v5 v6 hj => ⟨g, rfl, hg, ?_⟩⟩
  have hc := h.cells (g := g) rfl
  have hf := flat7 rows h7 j _ hj
  have hx : ∀ i u, i < 7 → [v0, v1, v2, v3, v4, v5, v6][i]? = some u → w.cell? ⟨g, 0 + j * 7 + i, none⟩ = some u := fun i u hi hu => by
   have h1 := hc _ _ (hf i u hi hu)
   rw [Addr.add_lit] at h1
   rw [show 0 + j * 7 + i = 0 + (j * 7 + i) by omega]
   exact h1
  exact ⟨hx 0 _ (by omega) rfl, hx 1 _ (by omega) rfl, hx 2 _ (by omega) rfl, hx 3 _ (by omega) rfl, hx 4 _ (by omega) rfl, hx 5 _ (by omega) rfl, hx 6 _ (by omega) rfl⟩
theorem sstep_info : ∃ i, Tryz.prog.info? 119 = some i ∧ i.zero = some (.agg (stepG 0 0 0 0 0 0 nilB)) ∧ i.size = 7 ∧ i.bytes = 72 := ⟨Tryz.t119, by kernel_rfl, by kernel_rfl, by kernel_rfl, by kernel_rfl⟩
theorem stepG_one (op t k z i n : Int) (a : Option Addr) (m c : Nat) : ∀ u ∈ (stepG op t k z i n (.slice a m c)).toList, u.oneCell' = true := by
 intro u hu
 simp only [List.mem_cons, List.not_mem_nil, or_false] at hu
 rcases hu with rfl | rfl | rfl | rfl | rfl | rfl | rfl <;> rfl
def StepRows (A : Nat → Prop) (w W : World) (l : List Sg) (i : Nat) (v : Value) (rows : List (List Value)) : Prop :=
 rows.length = i ∧ W.ownsRow w.heap.size 119 7 v i rows.flatten ∧ ∀ j x, j < i → l[j]? = some x → ∃ sa sm sc, rows[j]? = some (stepG x.op x.t x.k x.z x.i x.n (.slice sa sm sc)).toList ∧ BytesAt A w (.slice sa sm sc) x.s
def StepsP (A : Nat → Prop) (l : List Sg) (w : World) (e : Ending) (w' : World) : Prop :=
 ∃ v, e = .returned v ∧ StepsAt (fun i => A i ∨ w.heap.size ≤ i) w' v l ∧ Keep (fun _ => False) w w'
set_option maxRecDepth 100000 in
theorem steps_at {A : Nat → Prop} {w : World} {v : Value} {l : List Sg} (h : StepsAt A w v l) (hb : l.length ≤ 65536) :
  Calls Tryz.prog 30 #[v] w (StepsP A l w) := by
 obtain ⟨a, c, rfl, hl, hc, g⟩ := h
 obtain ⟨L, hL⟩ : ∃ L, l.length = L := ⟨_, rfl⟩
 rw [hL] at hl hc hb ⊢
 have HL := hdd hL
 have G := hdd g
 have HC := hdd hc
 have HB := hdd hb
 clear hL g hc
 go_enter Tryz.func30, Tryz.ntmps30
 go_wp2_with fail
 go_loopg [3, 4] L (fun k v3 v4 wr => ∃ (i : Nat) (rows : List (List Value)), v4 = .int .i64 i ∧ i + k = L ∧ Keep (fun _ => False) w wr ∧ StepRows A w wr l i v3 rows)
 case atStart => exact ⟨0, [], rfl, by omega, Keep.refl _ _, rfl, World.ownsRow_nil w _ _ _, fun j x hj => by omega⟩
 case round =>
  obtain ⟨i, rows, rfl, hik, hkr, hrl, hown, hrows⟩ := hrel
  obtain ⟨va, vm, vc, rfl⟩ := own_shape hown
  have HOWN := hdd hown
  have HROWS := hdd hrows
  have HRL := hdd hrl
  have HKR := hdd hkr
  clear hown hrows hrl
  by_cases hlt : i < L
  ·cases gk with
   | zero => omega
   | succ k =>
   have hlt' : (i : Int) < (L : Int) := by omega
   have hj : l[i]? = some (l[i]'(by have := HL.out; omega)) := List.getElem?_eq_getElem _
   obtain ⟨D, o, sv, ha, _, hs, h7⟩ := G.out i _ hj
   generalize (l[i]'(by have := HL.out; omega)) = x at *
   subst ha
   have HJ := hdd hj
   obtain ⟨sa, sm, sc, rfl⟩ := hs.shape
   obtain ⟨d0, d1, d2, d3, d4, d5, d6⟩ := h7.keep hkr (fun x => x)
   have HS := hdd hs
   have hnc : L ≤ c := (HC.out (by omega)).1
   have hw : IntKind.i64.wrap ((i : Int) + 1) = (i : Int) + 1 := IntWalk.i64_in _ (by omega)
   obtain ⟨op, t, kk, z, ii, n, s⟩ := x
   clear hj hs h7 hkr
   obtain ⟨si, hsi, hsz, hss, hsb⟩ := sstep_info
   have hnews := row_new wr (stepG op t kk z ii n (.slice sa sm sc)) 119
   have hone := stepG_one op t kk z ii n sa sm sc
   have hb0 : w.heap.size ≤ (wr.alloc (.cells (stepG op t kk z ii n (.slice sa sm sc)) 119)).heap.size := by have := HKR.out.size; simp; omega
   have hmx : i + 1 ≤ maxLen := by simp only [maxLen]; omega
   go_wp2_with (at_builtin; go_loud (refine wpList_append_own_at _ rfl (.tmp 11) (.tmp 16) 71 rfl w.heap.size 119 si (.agg (stepG 0 0 0 0 0 0 nilB)) 7 72 Tryz.underlying71 hsi hsz hss hsb rfl (by decide) (.slice va vm vc) i rows.flatten rfl (HOWN.out.alloc _) ⟨wr.heap.size, 0, none⟩ 1 1 (stepG op t kk z ii n (.slice sa sm sc)).toList rfl rfl hnews hone hmx (by omega) hb0 ?_))
   intro v' w7 hown7 hgrow hnil hat
   obtain ⟨va7, vm7, vc7, rfl⟩ := own_shape hown7
   have hkk : Keep (fun i => w.heap.size ≤ i) wr w7 := (((Keep.refl _ wr).alloc _).grown hgrow (fun k hk _ => (World.ownsRow.lt HOWN.out k hk).1))
   have HOWN7 := hdd hown7
   have HKK := hdd hkk
   clear hown7 hgrow hnil hat hkk hnews hone hb0 hmx hsi hsz hss hsb
   go_wp2_with fail
   go_roundg k
   case measure => exact Nat.lt_succ_self _
   case rel =>
    have hrl := HRL.out
    refine ⟨i + 1, rows ++ [(stepG op t kk z ii n (.slice sa sm sc)).toList], by go_num, by omega, HKR.out.trans HKK.out (fun i hi y => by omega), by simp [hrl], by simpa using HOWN7.out, fun j x hj hx => ?_⟩
    by_cases hji : j < i
    ·obtain ⟨sa', sm', sc', e1, e2⟩ := HROWS.out j x hji hx
     exact ⟨sa', sm', sc', by rw [List.getElem?_append_left (by omega)]; exact e1, e2⟩
    ·have hji2 : j = i := by omega
     subst hji2
     rw [HJ.out] at hx
     obtain rfl := Option.some.inj hx
     exact ⟨sa, sm, sc, by rw [List.getElem?_append_right (by omega), hrl]; simp, HS.out⟩
  ·have hge : ¬ (i : Int) < (L : Int) := by omega
   have hiL : i = L := by omega
   subst hiL
   go_wp2_with fail
   go_ret
   have hrl := HRL.out
   have h7 : ∀ cs ∈ rows, cs.length = 7 := fun cs hcs => by
    obtain ⟨j, hj, rfl⟩ := List.mem_iff_getElem.1 hcs
    have hjl : j < l.length := by have := HL.out; omega
    obtain ⟨sa, sm, sc, e1, _⟩ := HROWS.out j _ (by omega) (List.getElem?_eq_getElem hjl)
    rw [List.getElem?_eq_getElem hj] at e1
    rw [Option.some.inj e1]
    rfl
   have hown := HOWN.out
   rw [← hrl] at hown
   obtain ⟨a2, c2, e1, e2, e3⟩ := own_row hown h7
   refine ⟨_, rfl, ⟨a2, c2, by rw [e1, hrl, HL.out]; rfl, by have := HL.out; omega, by rw [HL.out, ← hrl]; exact e2, fun j x hx => ?_⟩, HKR.out⟩
   have hjl := (List.getElem?_eq_some_iff.1 hx).1
   obtain ⟨sa, sm, sc, e4, e5⟩ := HROWS.out j x (by have := HL.out; omega) hx
   obtain ⟨D, e6, e7, e8⟩ := e3 j _ _ _ _ _ _ _ e4
   exact ⟨D, 0, _, e6, .inr e7, (e5.keep HKR.out (fun _ _ x => x)).weak (fun _ _ => .inl), e8⟩
end Go.Proofs.YtjekbomlpcdojaaGreatDoor
