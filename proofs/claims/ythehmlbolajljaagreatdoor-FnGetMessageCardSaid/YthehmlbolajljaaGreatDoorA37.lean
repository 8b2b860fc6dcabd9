/- Part 37 of the proof: RMsg, GetSR. -/
import Derived.Test.YthehmlbolajljaaGreatDoorA36
import Derived.Test.YthehmlbolajljaaGreatDoorA17
import Derived.Test.YthehmlbolajljaaGreatDoorA27
import Derived.Test.YthehmlbolajljaaGreatDoorA35
import Derived.Test.YthehmlbolajljaaGreatDoorA10
import Derived.Deep.RegionWith
set_option linter.unusedVariables false
set_option linter.unusedSimpArgs false
set_option linter.unusedSectionVars false
namespace Go.Proofs.YthehmlbolajljaaGreatDoor
open Go Go.RowKit
abbrev msgC (nm : Value) (kd sq T N : Int) (S : Value) (K E : Int) (I L : Value) : Array Value := #[nm, .int .i64 kd, .int .i32 sq, .int .i64 T, .int .i64 N, S, .int .i64 K, .int .i64 E, I, L]
abbrev zMsg : Array Value := msgC nilB 0 0 0 0 nilB 0 0 nilB nilB
theorem smsg_size : (Tryz.prog.info? 90).map (·.size) = some 10 := by kernel_rfl
theorem cells10 {w : World} {U : Nat} {v0 v1 v2 v3 v4 v5 v6 v7 v8 v9 : Value} {T : TypeId} (h : w.heap[U]? = some (.cells #[v0, v1, v2, v3, v4, v5, v6, v7, v8, v9] T (0, 0))) :
    w.cell? ⟨U, 0, none⟩ = some v0 ∧ w.cell? ⟨U, 1, none⟩ = some v1 ∧ w.cell? ⟨U, 2, none⟩ = some v2 ∧ w.cell? ⟨U, 3, none⟩ = some v3 ∧ w.cell? ⟨U, 4, none⟩ = some v4 ∧ w.cell? ⟨U, 5, none⟩ = some v5 ∧ w.cell? ⟨U, 6, none⟩ = some v6 ∧ w.cell? ⟨U, 7, none⟩ = some v7 ∧ w.cell? ⟨U, 8, none⟩ = some v8 ∧ w.cell? ⟨U, 9, none⟩ = some v9 := by
  refine ⟨?_, ?_, ?_, ?_, ?_, ?_, ?_, ?_, ?_, ?_⟩ <;> simp [cellAt h]
theorem free10 {w : World} {U : Nat} {c : Array Value} {T : TypeId} (h : w.heap[U]? = some (.cells c T (0, 0))) :
    w.frozen? ⟨U, 0, none⟩ = false ∧ w.frozen? ⟨U, 1, none⟩ = false ∧ w.frozen? ⟨U, 2, none⟩ = false ∧ w.frozen? ⟨U, 3, none⟩ = false ∧ w.frozen? ⟨U, 4, none⟩ = false ∧ w.frozen? ⟨U, 5, none⟩ = false ∧ w.frozen? ⟨U, 6, none⟩ = false ∧ w.frozen? ⟨U, 7, none⟩ = false ∧ w.frozen? ⟨U, 8, none⟩ = false ∧ w.frozen? ⟨U, 9, none⟩ = false := by
  refine ⟨?_, ?_, ?_, ?_, ?_, ?_, ?_, ?_, ?_, ?_⟩ <;> exact freeAt h _
abbrev set10 (w : World) (U : Nat) (v0 v1 v2 v3 v4 v5 v6 v7 v8 v9 : Value) : World :=
  (((((((((w.setCell ⟨U, 0, none⟩ v0).setCell ⟨U, 1, none⟩ v1).setCell ⟨U, 2, none⟩ v2).setCell ⟨U, 3, none⟩ v3).setCell ⟨U, 4, none⟩ v4).setCell ⟨U, 5, none⟩ v5).setCell ⟨U, 6, none⟩ v6).setCell ⟨U, 7, none⟩ v7).setCell ⟨U, 8, none⟩ v8).setCell ⟨U, 9, none⟩ v9
theorem set10_at {w : World} {U : Nat} {u0 u1 u2 u3 u4 u5 u6 u7 u8 u9 : Value} {T : TypeId} (h : w.heap[U]? = some (.cells #[u0, u1, u2, u3, u4, u5, u6, u7, u8, u9] T (0, 0))) (v0 v1 v2 v3 v4 v5 v6 v7 v8 v9 : Value) :
    (set10 w U v0 v1 v2 v3 v4 v5 v6 v7 v8 v9).heap[U]? = some (.cells #[v0, v1, v2, v3, v4, v5, v6, v7, v8, v9] T (0, 0)) := by
  have h0 := heap_set_same (i := 0) h v0
  have h1 := heap_set_same (i := 1) h0 v1
  have h2 := heap_set_same (i := 2) h1 v2
  have h3 := heap_set_same (i := 3) h2 v3
  have h4 := heap_set_same (i := 4) h3 v4
  have h5 := heap_set_same (i := 5) h4 v5
  have h6 := heap_set_same (i := 6) h5 v6
  have h7 := heap_set_same (i := 7) h6 v7
  have h8 := heap_set_same (i := 8) h7 v8
  have h9 := heap_set_same (i := 9) h8 v9
  simpa using h9
theorem set10_keep {M : Nat → Prop} {a w : World} (h : Keep M a w) (U : Nat) (hU : U < a.heap.size → M U) (v0 v1 v2 v3 v4 v5 v6 v7 v8 v9 : Value) : Keep M a (set10 w U v0 v1 v2 v3 v4 v5 v6 v7 v8 v9) :=
  (((((((((h.set U 0 hU _).set U 1 hU _).set U 2 hU _).set U 3 hU _).set U 4 hU _).set U 5 hU _).set U 6 hU _).set U 7 hU _).set U 8 hU _).set U 9 hU _
abbrev set37 (w : World) (U : Nat) (v3 v4 v5 v6 v7 v8 v9 : Value) : World :=
  ((((((w.setCell ⟨U, 3, none⟩ v3).setCell ⟨U, 4, none⟩ v4).setCell ⟨U, 5, none⟩ v5).setCell ⟨U, 6, none⟩ v6).setCell ⟨U, 7, none⟩ v7).setCell ⟨U, 8, none⟩ v8).setCell ⟨U, 9, none⟩ v9
theorem set37_at {w : World} {U : Nat} {u0 u1 u2 u3 u4 u5 u6 u7 u8 u9 : Value} {T : TypeId} (h : w.heap[U]? = some (.cells #[u0, u1, u2, u3, u4, u5, u6, u7, u8, u9] T (0, 0))) (v3 v4 v5 v6 v7 v8 v9 : Value) :
    (set37 w U v3 v4 v5 v6 v7 v8 v9).heap[U]? = some (.cells #[u0, u1, u2, v3, v4, v5, v6, v7, v8, v9] T (0, 0)) := by
  have h3 := heap_set_same (i := 3) h v3
  have h4 := heap_set_same (i := 4) h3 v4
  have h5 := heap_set_same (i := 5) h4 v5
  have h6 := heap_set_same (i := 6) h5 v6
  have h7 := heap_set_same (i := 7) h6 v7
  have h8 := heap_set_same (i := 8) h7 v8
  have h9 := heap_set_same (i := 9) h8 v9
  simpa using h9
theorem set37_keep {M : Nat → Prop} {a w : World} (h : Keep M a w) (U : Nat) (hU : U < a.heap.size → M U) (v3 v4 v5 v6 v7 v8 v9 : Value) : Keep M a (set37 w U v3 v4 v5 v6 v7 v8 v9) :=
  ((((((h.set U 3 hU _).set U 4 hU _).set U 5 hU _).set U 6 hU _).set U 7 hU _).set U 8 hU _).set U 9 hU _
def Rdr.MsgP {σ : Type} (r : Rdr σ) (d : Nat) (w : World) (q : Int × σ × V) (gT gN : Int) (gB : List UInt8) (e : Ending) (w' : World) : Prop :=
  ∃ na nm nc kd sq T N Sa Sm Sc KT E Ia Im Ic La Lm Lc x, e = .returned (.tuple #[.agg (msgC (.slice na nm nc) kd sq T N (.slice Sa Sm Sc) KT E (.slice Ia Im Ic) (.slice La Lm Lc)), .int .i64 x]) ∧ Sk q.1 x ∧ (∃ s2, r.Inv s2 w' ∧ (x = 0 → s2 = q.2.1)) ∧ Kpt r.M w w' ∧
    (x = 0 → kd = gT ∧ sq = gN ∧ BytesAt (fun i => w.heap.size ≤ i) w' (.slice na nm nc) gB ∧ ValAt d (fun i => w.heap.size ≤ i) w' (valC T N (.slice Sa Sm Sc) KT E (.slice Ia Im Ic) (.slice La Lm Lc)).toList q.2.2)
set_option maxRecDepth 100000 in
set_option maxHeartbeats 8000000 in
theorem Rdr.message {σ : Type} {r : Rdr σ} (ok : r.Ok) (deep : Int) (hlo : -9223372036854775808 ≤ deep) (hhi : deep ≤ 9223372036854775807) (s : σ) (w : World) (hR : r.Inv s w) (gK : Int) (gS : σ) (gT gN : Int) (gB : List UInt8) (hroom : r.pr.Room gS) (hN32 : IntKind.i32.wrap gN = gN)
    (hstep : ∀ w, r.Inv s w → r.Step 0 w (r.GP w gK gS gT 0 0 0 gN gB)) (hend : ∀ s w, r.Inv s w → r.Step 1 w (r.GP w 0 s 0 0 0 0 0 [])) (q : Int × σ × V) (hq : msgR r.pr gK deep.toNat gS = q) :
    Calls Tryz.prog 33 #[.pointer (some ⟨r.R, 0, none⟩), .int .i64 deep] w (r.MsgP deep.toNat w q gT gN gB) := by
  have HQ := Lib.hid hq
  clear hq
  have hk0 : Keep (fun _ => False) w (w.alloc (.cells zMsg 90 (0, 0))) := (Keep.refl _ w).alloc _
  have hR0 := heap_alloc_new w (.cells zMsg 90 (0, 0))
  have hs0 : (w.alloc (.cells zMsg 90 (0, 0))).heap.size = w.heap.size + 1 := by simp
  go_enter Tryz.func33, Tryz.ntmps33
  go_wp2_with fail
  obtain ⟨n0, hn⟩ : ∃ n0, w.heap.size = n0 := ⟨_, rfl⟩
  rw [hn] at hR0 hs0 ⊢
  generalize w.alloc (.cells zMsg 90 (0, 0)) = w1 at *
  have hs2 : Calls _ _ _ w1 _ := hstep w1 (ok.fresh hR hk0)
  refine hs2.mono ?_
  rintro e w2 ⟨x, t', kt, size, id, N', S', rfl, ⟨a, m, cc, rfl⟩, hx, ⟨r', hr1, hr3⟩, hk, hv0⟩
  have hmn := ok.new hR hk0
  have HN := Lib.hid hn
  have HS0 := Lib.hid hs0
  have HR2 := Lib.hid ((hk.block n0 (lt_of_heap hR0) (hmn _ (by omega))).trans hR0)
  have HNR := Lib.hid (hk.not (i := n0) (lt_of_heap hR0) (hmn _ (by omega)))
  have HK := Lib.hid ((ok.kept hR hk0).then hk)
  have HX := Lib.hid hx
  have hs12 := hk.size
  clear hmn hn hR0 hk hs2 hx
  have hk4 : Keep (fun _ => False) w2 ((w2.alloc (.cells (gotA x t' kt size id N' (.slice a m cc)) 107 (0, 0))).alloc (.cells (msgC (.slice a m cc) t' (IntKind.i32.wrap N') 0 0 nilB 0 0 nilB nilB) 90 (0, 0))) := ((Keep.refl _ w2).alloc _).alloc _
  have hG4 : ((w2.alloc (.cells (gotA x t' kt size id N' (.slice a m cc)) 107 (0, 0))).alloc (.cells (msgC (.slice a m cc) t' (IntKind.i32.wrap N') 0 0 nilB 0 0 nilB nilB) 90 (0, 0))).heap[w2.heap.size]? = some (.cells (gotA x t' kt size id N' (.slice a m cc)) 107 (0, 0)) := (Below.heap_alloc _ _ _ (by simp)).trans (heap_alloc_new w2 _)
  have hM4 : ((w2.alloc (.cells (gotA x t' kt size id N' (.slice a m cc)) 107 (0, 0))).alloc (.cells (msgC (.slice a m cc) t' (IntKind.i32.wrap N') 0 0 nilB 0 0 nilB nilB) 90 (0, 0))).heap[w2.heap.size + 1]? = some (.cells (msgC (.slice a m cc) t' (IntKind.i32.wrap N') 0 0 nilB 0 0 nilB nilB) 90 (0, 0)) := heap_alloc_at (by simp) _
  have hs4 : ((w2.alloc (.cells (gotA x t' kt size id N' (.slice a m cc)) 107 (0, 0))).alloc (.cells (msgC (.slice a m cc) t' (IntKind.i32.wrap N') 0 0 nilB 0 0 nilB nilB) 90 (0, 0))).heap.size = w2.heap.size + 2 := by simp
  have hnM4 : ∀ i, w2.heap.size ≤ i → ¬ r.M ((w2.alloc (.cells (gotA x t' kt size id N' (.slice a m cc)) 107 (0, 0))).alloc (.cells (msgC (.slice a m cc) t' (IntKind.i32.wrap N') 0 0 nilB 0 0 nilB nilB) 90 (0, 0))) i := ok.new hr1 hk4
  have hi4 : r.Inv r' ((w2.alloc (.cells (gotA x t' kt size id N' (.slice a m cc)) 107 (0, 0))).alloc (.cells (msgC (.slice a m cc) t' (IntKind.i32.wrap N') 0 0 nilB 0 0 nilB nilB) 90 (0, 0))) := ok.fresh hr1 hk4
  obtain ⟨g2, hg2⟩ : ∃ g2, w2.heap.size = g2 := ⟨_, rfl⟩
  by_cases hx0 : x = 0
  · subst hx0
    obtain ⟨e1, rfl, rfl, rfl, e5, e6⟩ := hv0 rfl
    have hgr : gK = 0 := Sk.zero HX.out
    have hrr := hr3 rfl
    subst hrr e1 e5
    have HQ1 : Hid (gt r.pr deep.toNat 12 r' = q) := Lib.hid (by rw [← HQ.out, msgR, if_pos hgr])
    have HB2 : Hid (BytesAt (fun i => n0 + 1 ≤ i ∧ i < g2 ∧ ¬ r.M w2 i) w2 (.slice a m cc) gB) := Lib.hid (e6.weak (fun i hi y => ⟨by have := y.1; omega, by omega, y.2⟩))
    rw [hN32] at hk4 hG4 hM4 hs4 hnM4 hi4
    have hwN := hN32
    clear hv0 hr3 e6
    go_wp2_with fail
    rw [hg2] at hG4 hM4 hs4 hnM4
    generalize (w2.alloc (.cells (gotA 0 t' 0 0 0 N' (.slice a m cc)) 107 (0, 0))).alloc (.cells (msgC (.slice a m cc) t' N' 0 0 nilB 0 0 nilB nilB) 90 (0, 0)) = w4 at *
    have hKP4 := HK.out.then (ok.kept hr1 hk4)
    have hs4w : w.heap.size + 1 ≤ g2 := by have := HN.out; have := HS0.out; omega
    have hR4 := (hk4.block n0 (lt_of_heap HR2.out) id).trans HR2.out
    have hnR4 := (ok.kept hr1 hk4).not (lt_of_heap HR2.out) HNR.out
    have hB4 : BytesAt (fun i => n0 + 1 ≤ i ∧ i < g2 ∧ ¬ r.M w4 i) w4 (.slice a m cc) gB := (HB2.out.keep hk4 (fun _ _ => id)).weak (fun i _ y => ⟨y.1, y.2.1, (ok.kept hr1 hk4).not (by omega) y.2.2⟩)
    have hget := Rdr.gets ok deep.toNat deep 12 r' w4 rfl hlo hhi hi4 hroom
    rw [HQ1.out] at hget
    have HI4 := Lib.hid hi4
    have HK4 := Lib.hid hk4
    clear hi4 hk4 hwN
    refine hget.mono ?_
    rintro e w5 ⟨T, N, Sa, Sm, Sc, KT, E', Ia, Im, Ic, La, Lm, Lc, y, rfl, hy, ⟨s5, h5, hr5⟩, hk5, hval⟩
    have hM5 := (hk5.block (g2 + 1) (lt_of_heap hM4) (hnM4 _ (by omega))).trans hM4
    have hR5 := (hk5.block n0 (lt_of_heap hR4) hnR4).trans hR4
    have hnR5 := hk5.not (lt_of_heap hR4) hnR4
    have hnM5 := hk5.not (lt_of_heap hM4) (hnM4 _ (by omega))
    have hB5 : BytesAt (fun i => n0 + 1 ≤ i ∧ i < g2 ∧ ¬ r.M w5 i) w5 (.slice a m cc) gB := (hB4.keep hk5.keep (fun i y => y.2.2)).weak (fun i hi y => ⟨y.1, y.2.1, hk5.not (by omega) y.2.2⟩)
    have hk6 : Keep (fun _ => False) w5 (w5.alloc (.cells (valC T N (.slice Sa Sm Sc) KT E' (.slice Ia Im Ic) (.slice La Lm Lc)) 34 (0, 0))) := (Keep.refl _ w5).alloc _
    have hV6 := heap_alloc_new w5 (.cells (valC T N (.slice Sa Sm Sc) KT E' (.slice Ia Im Ic) (.slice La Lm Lc)) 34 (0, 0))
    obtain ⟨V, hV⟩ : ∃ V, w5.heap.size = V := ⟨_, rfl⟩
    have hKP5 := hKP4.then hk5
    have HY := Lib.hid hy
    have HVAL := Lib.hid hval
    have HR5 := Lib.hid hr5
    have HB5 := Lib.hid hB5
    have hs45 : g2 + 2 ≤ w5.heap.size := by have := hk5.size; omega
    have HS4 := Lib.hid hs4
    clear hget hM4 hR4 hnR4 hnM4 hG4 hB4 hB5 hKP4 hy hval hr5 hk5 hs4
    rw [hV] at hV6
    obtain ⟨w6, hW6⟩ : ∃ w6, w5.alloc (.cells #[.int .i64 T, .int .i64 N, .slice Sa Sm Sc, .int .i64 KT, .int .i64 E', .slice Ia Im Ic, .slice La Lm Lc] 34 (0, 0)) = w6 := ⟨_, rfl⟩
    have hk6 : Keep (fun _ => False) w5 w6 := hW6 ▸ hk6
    have hV6 : w6.heap[V]? = some (.cells (valC T N (.slice Sa Sm Sc) KT E' (.slice Ia Im Ic) (.slice La Lm Lc)) 34 (0, 0)) := hW6 ▸ hV6
    have hM6 := (hk6.block (g2 + 1) (lt_of_heap hM5) id).trans hM5
    have hR6 := (hk6.block n0 (lt_of_heap hR5) id).trans hR5
    have hnR6 := (ok.kept h5 hk6).not (lt_of_heap hR5) hnR5
    have hnM6 := (ok.kept h5 hk6).not (lt_of_heap hM5) hnM5
    have h6 := ok.fresh h5 hk6
    have hKP6 := hKP5.then (ok.kept h5 hk6)
    have HB6 := Lib.hid (HB5.out.keep hk6 (fun _ _ => id))
    have HM6 := Lib.hid hM6
    have HR6 := Lib.hid hR6
    have HNR6 := Lib.hid hnR6
    have HNM6 := Lib.hid hnM6
    have HK6 := Lib.hid hk6
    have HKP6 := Lib.hid hKP6
    have HV6 := Lib.hid hV6
    have hm6 : ∀ i, r.M w6 i → r.M w5 i := (ok.turn h5 hk6 (fun _ x => x.elim)).2
    have HMM6 := Lib.hid hm6
    have hs6 := hk6.size
    clear hM5 hR5 hnR5 hnM5 hM6 hR6 hnR6 hnM6 hk6 hKP6 hKP5 hV6 hm6
    obtain ⟨m0, m1, m2, m3, m4, m5, m6, m7, m8, m9⟩ := cells10 HM6.out
    by_cases hy0 : y = 0
    · subst hy0
      obtain rfl := HR5.out rfl
      obtain ⟨x0, x1, x2, x3, x4, x5, x6⟩ := got_cells HV6.out
      obtain ⟨f0, f1, f2, f3, f4, f5, f6, f7, f8, f9⟩ := free10 HM6.out
      go_wp2_with fail
      have hM7 := set37_at HM6.out (.int .i64 T) (.int .i64 N) (.slice Sa Sm Sc) (.int .i64 KT) (.int .i64 E') (.slice Ia Im Ic) (.slice La Lm Lc)
      have hk7 := set37_keep (M := fun i => g2 + 1 = i) (Keep.refl _ w6) (g2 + 1) (fun _ => rfl) (.int .i64 T) (.int .i64 N) (.slice Sa Sm Sc) (.int .i64 KT) (.int .i64 E') (.slice Ia Im Ic) (.slice La Lm Lc)
      obtain ⟨w7, hw7⟩ : ∃ w7, set37 w6 (g2 + 1) (.int .i64 T) (.int .i64 N) (.slice Sa Sm Sc) (.int .i64 KT) (.int .i64 E') (.slice Ia Im Ic) (.slice La Lm Lc) = w7 := ⟨_, rfl⟩
      rw [hw7] at hM7 hk7
      unfold set37 at hw7
      rw [hw7]
      clear hw7 x0 x1 x2 x3 x4 x5 x6 f0 f1 f2 f3 f4 f5 f6 f7 f8 f9 m0 m1 m2 m3 m4 m5 m6 m7 m8 m9
      obtain ⟨h7, hm7⟩ := ok.turn h6 hk7 (fun i e => by subst e; exact HNM6.out)
      have hKP7 := HKP6.out.turned hk7 (fun i e => by omega) hm7
      have hR7 := (hk7.block n0 (lt_of_heap HR6.out) (fun e => by have := HN.out; omega)).trans HR6.out
      have hs7 := hk7.size
      have hkd7 : Keep (fun _ => False) w7 w7.drew := (Keep.refl _ w7).drew
      have hst : Calls _ _ _ _ _ := hend _ w7.drew (ok.fresh h7 hkd7)
      have HST := Lib.hid hst
      have HM7 := Lib.hid hM7
      have HR7 := Lib.hid hR7
      have HKD := Lib.hid (ok.kept h7 hkd7)
      have HNR7 : Hid (¬ r.M w7.drew n0) := Lib.hid ((ok.kept h7 hkd7).not (lt_of_heap hR7) (fun x => HNR6.out (hm7 _ x)))
      have HNM7 : Hid (¬ r.M w7.drew (g2 + 1)) := Lib.hid ((ok.kept h7 hkd7).not (lt_of_heap hM7) (fun x => HNM6.out (hm7 _ x)))
      have HKP7 := Lib.hid hKP7
      have HK7 := Lib.hid hk7
      have HMM7 := Lib.hid hm7
      obtain ⟨m0, m1, m2, m3, m4, m5, m6, m7, m8, m9⟩ := cells10 hM7
      clear hst hM7 hR7 hkd7 hKP7 hk7 hm7
      go_region_with (go_at_call 63; refine HST.out.mono ?_; rintro e w8 ⟨x8, t8, k8, z8, i8, N8, S8, rfl, ⟨a8, q8, c8, rfl⟩, hx8, ⟨s8, h8, hr8⟩, hk8, hv8⟩; have HM8 := Lib.hid ((hk8.block (g2 + 1) (lt_of_heap HM7.out) HNM7.out).trans HM7.out); have HR8 := Lib.hid ((hk8.block n0 (lt_of_heap HR7.out) HNR7.out).trans HR7.out); have hf8 := got_field0 x8 t8 k8 z8 i8 N8 (.slice a8 q8 c8); have HX8 := Lib.hid hx8; have HR9 := Lib.hid hr8; have HK8 := Lib.hid hk8; obtain ⟨b0, b1, b2, b3, b4, b5, b6, b7, b8, b9⟩ := cells10 HM8.out; obtain ⟨r0, r1, r2, r3, r4, r5, r6, r7, r8, r9⟩ := cells10 HR8.out; obtain ⟨f0, f1, f2, f3, f4, f5, f6, f7, f8, f9⟩ := free10 HR8.out; clear hx8 hr8 hv8 hk8)
      all_goals
        go_wp2_with fail
        have hk9 := set10_keep (M := fun i => n0 = i) (Keep.refl _ w8) n0 (fun _ => rfl) (.slice a m cc) (.int .i64 t') (.int .i32 N') (.int .i64 T) (.int .i64 N) (.slice Sa Sm Sc) (.int .i64 KT) (.int .i64 E') (.slice Ia Im Ic) (.slice La Lm Lc)
        refine ret_cell2 (U := n0) (T := 90) Tryz.results33 rfl rfl rfl (set10_at HR8.out (.slice a m cc) (.int .i64 t') (.int .i32 N') (.int .i64 T) (.int .i64 N) (.slice Sa Sm Sc) (.int .i64 KT) (.int .i64 E') (.slice Ia Im Ic) (.slice La Lm Lc)) Tryz.underlying90 smsg_size ?_
        have hnR8 := HK8.out.not (by simpa using lt_of_heap HR7.out) HNR7.out
        obtain ⟨h9, hm9⟩ := ok.turn h8 hk9 (fun i e => by subst e; exact hnR8)
        have hn0 := HN.out
        have hs2 := HS0.out
        have hv0 := Sk.zero HY.out
        refine ⟨a, m, cc, t', N', T, N, Sa, Sm, Sc, KT, E', Ia, Im, Ic, La, Lm, Lc, x8, rfl, by rw [hv0]; exact HX8.out, ⟨s8, h9, HR9.out⟩, (HKP7.out.then (HKD.out.then HK8.out)).turned hk9 (fun i e => by omega) hm9, fun _ => ⟨rfl, rfl, ?_, ?_⟩⟩
        · exact ((((HB6.out.keep HK7.out (fun i y e => by have := y.2.1; omega)).keep HKD.out.keep (fun i y x => y.2.2 (HMM6.out _ (HMM7.out _ x)))).keep HK8.out.keep (fun i y x => y.2.2 (HMM6.out _ (HMM7.out _ (HKD.out.grow i (by have := y.2.1; omega) x))))).keep hk9 (fun i y e => by have := y.1; omega)).weak (fun i _ y => by have := y.1; omega)
        · exact ((((((HVAL.out (by trivial)).keep HK6.out (fun _ _ => id)).keep HK7.out (fun i y e => by have := y.1; have := HS4.out; omega)).keep HKD.out.keep (fun i y x => y.2 (HMM6.out _ (HMM7.out _ x)))).keep HK8.out.keep (fun i y x => by
            by_cases hi : i < w7.heap.size
            · exact y.2 (HMM6.out _ (HMM7.out _ (HKD.out.grow i hi x)))
            · have := ok.lt (ok.fresh h7 ((Keep.refl _ w7).drew)) i x; simp at this; omega)).keep hk9 (fun i y e => by have := y.1; have := HS4.out; omega)).weak (fun i _ y => by have := y.1; have := HS4.out; omega)
    · have hyb : (y != 0) = true := by simpa using hy0
      have HY0 := Lib.hid hy0
      obtain ⟨r0, r1, r2, r3, r4, r5, r6, r7, r8, r9⟩ := cells10 HR6.out
      obtain ⟨f0, f1, f2, f3, f4, f5, f6, f7, f8, f9⟩ := free10 HR6.out
      go_wp2_with fail
      have hk9 := set10_keep (M := fun i => n0 = i) (Keep.refl _ w6) n0 (fun _ => rfl) (.slice a m cc) (.int .i64 t') (.int .i32 N') (.int .i64 0) (.int .i64 0) (.slice none 0 0) (.int .i64 0) (.int .i64 0) (.slice none 0 0) (.slice none 0 0)
      refine ret_cell2 (U := n0) (T := 90) Tryz.results33 rfl rfl rfl (set10_at HR6.out (.slice a m cc) (.int .i64 t') (.int .i32 N') (.int .i64 0) (.int .i64 0) (.slice none 0 0) (.int .i64 0) (.int .i64 0) (.slice none 0 0) (.slice none 0 0)) Tryz.underlying90 smsg_size ?_
      obtain ⟨h9, hm9⟩ := ok.turn h6 hk9 (fun i e => by subst e; exact HNR6.out)
      have hn0 := HN.out
      exact ⟨a, m, cc, t', N', 0, 0, none, 0, 0, 0, 0, none, 0, 0, none, 0, 0, y, rfl, HY.out, ⟨s5, h9, HR5.out⟩, HKP6.out.turned hk9 (fun i e => by omega) hm9, fun hz => absurd hz HY0.out⟩
  · have hxb : (x != 0) = true := by simpa using hx0
    have HX0 := Lib.hid hx0
    have HQ1 : Hid (Sk q.1 x) := Lib.hid (by
      rw [← HQ.out, msgR]
      have := HX.out
      split
      · rename_i h0
        rw [h0] at this
        unfold Sk at this
        rcases this with h | ⟨_, h, _⟩ | h
        · exact .inl h
        · exact absurd rfl h
        · exact absurd h hx0
      · exact this)
    have hw32 : IntKind.i32.wrap N' = wrap32 N' := by rw [IntKind.wrap_i32, wrap32]
    rw [hw32] at hk4 hG4 hM4 hs4 hnM4 hi4
    clear hw32
    have hKP4 := HK.out.then (ok.kept hr1 hk4)
    have hR4 := (hk4.block n0 (lt_of_heap HR2.out) (fun x => x)).trans HR2.out
    have hnR4 := (ok.kept hr1 hk4).not (lt_of_heap HR2.out) HNR.out
    clear hv0 hr3
    go_wp2_with fail
    rw [hg2] at hG4 hM4 hs4 hnM4
    generalize (w2.alloc (.cells (gotA x t' kt size id N' (.slice a m cc)) 107 (0, 0))).alloc (.cells (msgC (.slice a m cc) t' (wrap32 N') 0 0 nilB 0 0 nilB nilB) 90 (0, 0)) = w4 at *
    have HR4 := Lib.hid hR4
    have HI4 := Lib.hid hi4
    have HKP4 := Lib.hid hKP4
    have HNR4 := Lib.hid hnR4
    obtain ⟨u0, u1, u2, u3, u4, u5, u6⟩ := got_cells hG4
    obtain ⟨r0, r1, r2, r3, r4, r5, r6, r7, r8, r9⟩ := cells10 hR4
    obtain ⟨f0, f1, f2, f3, f4, f5, f6, f7, f8, f9⟩ := free10 hR4
    clear hG4 hM4 hR4 hnR4 hi4 hKP4
    go_region
    all_goals
      have hk9 := set10_keep (M := fun i => n0 = i) (Keep.refl _ w4) n0 (fun _ => rfl) (.slice none 0 0) (.int .i64 0) (.int .i32 0) (.int .i64 0) (.int .i64 0) (.slice none 0 0) (.int .i64 0) (.int .i64 0) (.slice none 0 0) (.slice none 0 0)
      have hR9 := set10_at HR4.out (.slice none 0 0) (.int .i64 0) (.int .i32 0) (.int .i64 0) (.int .i64 0) (.slice none 0 0) (.int .i64 0) (.int .i64 0) (.slice none 0 0) (.slice none 0 0)
      obtain ⟨w9, hw9⟩ : ∃ w9, set10 w4 n0 (.slice none 0 0) (.int .i64 0) (.int .i32 0) (.int .i64 0) (.int .i64 0) (.slice none 0 0) (.int .i64 0) (.int .i64 0) (.slice none 0 0) (.slice none 0 0) = w9 := ⟨_, rfl⟩
      rw [hw9] at hk9 hR9
      unfold set10 at hw9
      rw [hw9]
      clear hw9 u0 u1 u2 u3 u4 u5 u6 r0 r1 r2 r3 r4 r5 r6 r7 r8 r9 f0 f1 f2 f3 f4 f5 f6 f7 f8 f9
      have hk10 := hk9.drew
      have hR10 : w9.drew.heap[n0]? = some (.cells (msgC (.slice none 0 0) 0 0 0 0 (.slice none 0 0) 0 0 (.slice none 0 0) (.slice none 0 0)) 90 (0, 0)) := hR9
      generalize w9.drew = wz at *
      go_wp2_with fail
      refine ret_cell2 (U := n0) (T := 90) Tryz.results33 rfl rfl rfl hR10 Tryz.underlying90 smsg_size ?_
      obtain ⟨h9, hm9⟩ := ok.turn HI4.out hk10 (fun i e => by subst e; exact HNR4.out)
      have hn0 := HN.out
      exact ⟨none, 0, 0, 0, 0, 0, 0, none, 0, 0, 0, 0, none, 0, 0, none, 0, 0, x, rfl, HQ1.out, ⟨_, h9, fun hz => absurd hz HX0.out⟩, HKP4.out.turned hk10 (fun i e => by omega) hm9, fun hz => absurd hz HX0.out⟩
end Go.Proofs.YthehmlbolajljaaGreatDoor

namespace Go.Proofs.YthehmlbolajljaaGreatDoor
open Go Go.RowKit
def Rp.SRel {St : Type} (K : Rp.Ctx St) (w : World) (U : Nat) (S : List (Nat × Array Value × TypeId)) (d : Nat) (f : Int → St → Int × St × _root_.Go.Proofs.YthehmlbolajljaaGreatDoor.V) (tot : Int × St × _root_.Go.Proofs.YthehmlbolajljaaGreatDoor.V) (b k : Nat) (wr : World) : Prop :=
  ∃ s1 ids vs iv lv rows, K.Inv s1 wr ∧ Rp.Frame K w U S d 12 0 0 ids vs iv lv rows wr ∧ K.pr.len s1 < k ∧ gflds K.pr f k s1 ids vs = tot ∧ K.pr.one ≤ K.pr.dep s1 ∧ K.pr.len s1 + K.pr.dep s1 ≤ b ∧ ids.length = vs.length ∧ vs.length + K.pr.len s1 ≤ b
set_option maxRecDepth 100000 in
set_option maxHeartbeats 8000000 in
theorem Rp.getStruct {St : Type} (K : Rp.Ctx St) (d : Nat) (ih : Rp.Gets K d) (deep : Int) (s : St) (w : World) (hdd : deep.toNat = d + 1) (hd : 0 < deep) (hhi : deep ≤ 9223372036854775807) (h : K.Inv s w) (hroom : K.pr.Room s) :
    Calls Tryz.prog 59 #[K.V, .int .i64 deep] w (Rp.GetP K (d + 1) w (gflds K.pr (gt K.pr d) (K.pr.len (K.pr.sbS s) + 1) (K.pr.sbS s) [] [])) := by
  obtain ⟨tot, htot⟩ : ∃ tot, gflds K.pr (gt K.pr d) (K.pr.len (K.pr.sbS s) + 1) (K.pr.sbS s) [] [] = tot := ⟨_, rfl⟩
  rw [htot]
  have HT := Lib.hid htot
  have hR : K.pr.len s + K.pr.dep s < 1099511627776 := hroom
  have HRM := Lib.hid hR
  have hd1 : (deep - 1).toNat = d := by omega
  have HD := Lib.hid hd1
  have HDD := Lib.hid hdd
  clear htot hroom hd1 hdd hR
  obtain ⟨hnam, hna, hnac⟩ := K.mSb
  obtain ⟨hnbm, hnb, hnbc⟩ := K.mSe
  obtain ⟨hncm, hnc, hncc⟩ := K.mFb
  obtain ⟨hndm, hnd, hndc⟩ := K.mFe
  have hk0 : Keep (fun _ => False) w ((w.alloc (.cells zVal 29 (0, 0))).alloc (.cells (valC 12 0 nilB 0 0 (.slice none 0 0) (.slice none 0 0)) 29 (0, 0))) := ((Keep.refl _ w).alloc _).alloc _
  have hR0 : ((w.alloc (.cells zVal 29 (0, 0))).alloc (.cells (valC 12 0 nilB 0 0 (.slice none 0 0) (.slice none 0 0)) 29 (0, 0))).heap[w.heap.size]? = some (.cells zVal 29 (0, 0)) := (Below.heap_alloc _ _ _ (by simp)).trans (heap_alloc_new w _)
  have hU0 : ((w.alloc (.cells zVal 29 (0, 0))).alloc (.cells (valC 12 0 nilB 0 0 (.slice none 0 0) (.slice none 0 0)) 29 (0, 0))).heap[w.heap.size + 1]? = some (.cells (valC 12 0 nilB 0 0 (.slice none 0 0) (.slice none 0 0)) 29 (0, 0)) := heap_alloc_at (by simp) _
  have hs0 : ((w.alloc (.cells zVal 29 (0, 0))).alloc (.cells (valC 12 0 nilB 0 0 (.slice none 0 0) (.slice none 0 0)) 29 (0, 0))).heap.size = w.heap.size + 2 := by simp
  go_enter Tryz.func59, Tryz.ntmps59
  go_wp2_with fail
  obtain ⟨n0, hn⟩ : ∃ n0, w.heap.size = n0 := ⟨_, rfl⟩
  rw [hn] at hU0 hR0 hs0 ⊢
  generalize (w.alloc (.cells zVal 29 (0, 0))).alloc (.cells (valC 12 0 nilB 0 0 (.slice none 0 0) (.slice none 0 0)) 29 (0, 0)) = w1 at *
  have HN := Lib.hid hn
  have HU0 := Lib.hid hU0
  have HR0 := Lib.hid hR0
  have HS0 := Lib.hid hs0
  have HM := Lib.hid (Rp.M_new h hk0)
  clear hn hU0 hR0 hs0
  go_cut [7, 8] from 16 to 24 (fun s7 s8 wx => s8 = .nilIface ∧ Rp.Post K w1.drew wx 0 .nilIface (K.pr.sbS s))
  case first =>
    go_region_with (first | (go_at_call 28; refine (ctx_at _).mono ?_; rintro e w' ⟨rfl, rfl⟩) | (refine (K.readStructBegin (w := w1.drew) (h.fresh hk0.drew) (by have := HRM.out; omega)).mono ?_; rintro e w2 ⟨l, rfl, hp⟩; have HP := Lib.hid hp; clear hp))
    all_goals
      go_wp2_with fail
      go_simp
      go_meet
      exact ⟨rfl, HP.out⟩
  case rest =>
  obtain ⟨rfl, hp⟩ := hcut
  have hs1 := HS0.out
  have hN := HN.out
  have hl0 : n0 < w1.heap.size := by omega
  have hl1 : n0 + 1 < w1.heap.size := by omega
  have hR2 := (hp.keep.block n0 (by simpa using hl0) (fun x => by have := HM.out _ x; omega)).trans HR0.out
  have hU2 := (hp.keep.block (n0 + 1) (by simpa using hl1) (fun x => by have := HM.out _ x; omega)).trans HU0.out
  have HP := Lib.hid hp
  have HU2 := Lib.hid hU2
  have HR2 := Lib.hid hR2
  clear hp hU2 hR2 hs1 hN hl0 hl1
  go_wp2_with fail
  go_loopg [] (K.pr.len (K.pr.sbS s) + 1) (fun k wr => Rp.SRel K w (n0 + 1) [(n0, zVal, 29)] d (gt K.pr d) tot (K.pr.len s + K.pr.dep s + K.pr.one) k wr)
  case atStart =>
    have hN := HN.out
    have hs1 := HS0.out
    have hnM : ∀ j, n0 ≤ j → j < w1.heap.size → ¬ K.M wc j := fun j hj hl => HP.out.keep.not (by simpa using hl) (fun x => by have := HM.out _ x; omega)
    have ok := K.ok
    have e1 := ok.dsb s
    have e2 := ok.sb s
    refine ⟨_, [], [], _, _, [], HP.out.inv rfl, ⟨(Rp.kept h hk0.drew).then HP.out.keep, ivb_start HU2.out ⟨by omega, by simp, hnM _ (by omega) (by omega)⟩ (fun i x => x.1), ?_⟩, Nat.lt_succ_self _, HT.out, by omega, by omega, rfl, by simp; omega⟩
    intro p hp
    simp only [List.mem_cons, List.not_mem_nil, or_false] at hp
    subst hp
    exact ⟨by show w.heap.size ≤ n0; omega, HR2.out, hnM _ (Nat.le_refl _) (by omega)⟩
  case round =>
    obtain ⟨s1, ids, vs, iv, lv, rows, hi1, hfr, hlt, hfl, hdp, hbd, hil, hvl⟩ := hrel
    cases gk with
    | zero => exact absurd hlt (Nat.not_lt_zero _)
    | succ k =>
    have HF := Lib.hid hfl
    have HFR := Lib.hid hfr
    have HNUM := Lib.hid (And.intro hlt (And.intro hdp (And.intro hbd (And.intro hil hvl))))
    clear hfl hfr hlt hdp hbd hil hvl
    go_wp2_with fail
    go_cut [9, 10, 11, 12] from 29 to 39 (fun s9 s10 s11 s12 wx => ∃ t id ev, s10 = .int .u8 t ∧ s11 = .int .i16 id ∧ s12 = ev ∧ Rp.Post K wr.drew wx (K.pr.fK s1) ev (K.pr.fS s1) ∧ (K.pr.fK s1 = 0 → t = K.pr.fT s1 ∧ id = K.pr.fI s1))
    case first =>
      go_region_with (first | (go_at_call 28; refine (ctx_at _).mono ?_; rintro e w' ⟨rfl, rfl⟩) | (refine (K.readFieldBegin (w := wr.drew) (hi1.fresh ((Keep.refl _ wr).drew))).mono ?_; rintro e w2 ⟨l, t, id, ev, rfl, hp, hv⟩; have HP2 := Lib.hid hp; have HV2 := Lib.hid hv; clear hp hv))
      all_goals
        go_wp2_with fail
        go_simp
        go_meet
        exact ⟨_, _, _, rfl, rfl, rfl, HP2.out, HV2.out⟩
    case rest =>
    obtain ⟨t, id, ev, rfl, rfl, he, hp2, hv2⟩ := hcut
    have he := he.symm
    subst he
    have hfd := Rp.Frame.fresh h HFR.out hi1 ((Keep.refl _ wr).drew)
    have HF2 := Lib.hid (hfd.call hp2.keep)
    have HFD := Lib.hid hfd
    have HP2 := Lib.hid hp2
    clear hfd hp2
    obtain ⟨Ia, Im, Ic, rfl⟩ := own_shape HFR.out.vb.ids
    obtain ⟨La, Lm, Lc, rfl⟩ := own_shape HFR.out.vb.parts
    obtain ⟨hR1, hR2, hR3⟩ := HF2.out.still (n0, zVal, 29) (by simp)
    have HR2 := Lib.hid hR2
    by_cases hz : K.pr.fK s1 = 0
    · have hev : ev = .nilIface := by have := HP2.out.err; rw [hz] at this; exact this.isNil
      subst hev
      obtain ⟨ht, hid⟩ := hv2 hz
      have HZ := Lib.hid hz
      have HTT := Lib.hid ht
      have HID := Lib.hid hid
      clear hz ht hid hv2
      by_cases ht0 : t = 0
      · subst ht0
        obtain ⟨x0, x1, x2, x3, x4, x5, x6⟩ := got_cells HF2.out.vb.blk
        clear hR1 hR2 hR3
        go_wp2_with fail
        go_cut [5] from 46 to 52 (fun s5 wx => s5 = .nilIface ∧ ∃ w5, wx = ((((((((w5).setCell ⟨n0, 0, none⟩ (.int .i64 12)).setCell ⟨n0, 1, none⟩ (.int .i64 0)).setCell ⟨n0, 2, none⟩ (.slice none 0 0)).setCell ⟨n0, 3, none⟩ (.int .i64 0)).setCell ⟨n0, 4, none⟩ (.int .i64 0)).setCell ⟨n0, 5, none⟩ (.slice Ia Im Ic)).setCell ⟨n0, 6, none⟩ (.slice La Lm Lc)) ∧ Rp.Post K wc.drew w5 0 .nilIface (K.pr.seS (K.pr.fS s1)))
        case first =>
          go_region_with (first | (go_at_call 28; refine (ctx_at _).mono ?_; rintro e w' ⟨rfl, rfl⟩) | (refine (K.readStructEnd (w := wc.drew) ((HP2.out.inv HZ.out).fresh ((Keep.refl _ wc).drew)) (by rw [K.ok.df s1 HZ.out]; exact HNUM.out.2.1)).mono ?_; rintro e w5 ⟨rfl, hp5⟩; have HP5 := Lib.hid hp5; have HF5 := Lib.hid ((Rp.Frame.fresh h HF2.out (HP2.out.inv HZ.out) ((Keep.refl _ wc).drew)).call hp5.keep); clear hp5; obtain ⟨hR1, hR2, hR3⟩ := HF5.out.still (n0, zVal, 29) (by simp); obtain ⟨p0, p1, p2, p3, p4, p5, p6⟩ := got_cells HF5.out.vb.blk; obtain ⟨r0, r1, r2, r3, r4, r5, r6⟩ := got_cells hR2; obtain ⟨z0, z1, z2, z3, z4, z5, z6⟩ := got_free hR2; clear hR1 hR2 hR3))
          all_goals
            go_wp2_with fail
            go_simp
            go_meet
            exact ⟨rfl, _, rfl, HP5.out⟩
        case rest =>
        obtain ⟨rfl, w5, rfl, hp5⟩ := hcut
        have hfd := Rp.Frame.fresh h HF2.out (HP2.out.inv HZ.out) ((Keep.refl _ wc).drew)
        have HF5 := Lib.hid (hfd.call hp5.keep)
        have HP5 := Lib.hid hp5
        have HFE := Lib.hid hfd
        obtain ⟨hR1, hR2, hR3⟩ := HF5.out.still (n0, zVal, 29) (by simp)
        have HR5 := Lib.hid hR2
        clear hfd hp5 x0 x1 x2 x3 x4 x5 x6 hR1 hR2 hR3
        go_wp2_with fail
        have hk9 := val_keep (M := fun i => n0 = i) (Keep.refl _ w5) (R := n0) (fun _ => rfl) (.int .i64 12) (.int .i64 0) (.slice none 0 0) (.int .i64 0) (.int .i64 0) (.slice Ia Im Ic) (.slice La Lm Lc)
        refine ret_cell2 (U := n0) (T := 29) Tryz.results59 rfl rfl rfl (val_set HR5.out (.int .i64 12) (.int .i64 0) (.slice none 0 0) (.int .i64 0) (.int .i64 0) (.slice Ia Im Ic) (.slice La Lm Lc)) Tryz.underlying29 ival_size ?_
        have i5 := (HP2.out.inv HZ.out).fresh ((Keep.refl _ wc).drew)
        have hth := K.thru h HFE.out.kp i5 HP5.out hk9 (fun i e => by
          subst e
          obtain ⟨q1, q2, q3⟩ := HFE.out.still (n0, zVal, 29) (by simp)
          exact ⟨q1, lt_of_heap q2, q3⟩)
        have e1 : tot = (0, K.pr.seS (K.pr.fS s1), .mk 12 0 [] 0 0 ids vs) := by
          rw [← HF.out]
          exact gflds_stop HZ.out HTT.out.symm
        rw [e1]
        refine ⟨12, 0, none, 0, 0, 0, 0, Ia, Im, Ic, La, Lm, Lc, _, rfl, hth.1, fun hz => ?_⟩
        have hv := HF5.out.vb.val (by have := HNUM.out; have := HRM.out; have := K.ok.one1; omega)
        exact (hv.keep hk9 (fun i hi e => hi.2.1 (n0, zVal, 29) (by simp) e.symm)).weak (fun i _ hi => ⟨hi.1, fun m => hi.2.2 (hth.2 i m)⟩)
      · have ok := K.ok
        have hne : ¬ K.pr.fT s1 = 0 := fun hh => ht0 (HTT.out.trans hh)
        have htb := K.fT_bd s1
        rw [← HTT.out] at htb
        have HNE := Lib.hid hne
        clear hne hR1 hR2 hR3
        go_wp2_with fail
        refine (ih (deep - 1) t _ wc HD.out (by omega) (by omega) htb.1 htb.2 (HP2.out.inv HZ.out) (by have a1 := ok.df s1 HZ.out; have a2 := ok.f s1 HZ.out; have a3 := HNUM.out; have a4 := ok.one1; have a5 := HRM.out; show _ + _ < _; omega)).mono ?_
        rintro e w3 ⟨T', N', Sa, Sm, Sc, KT', E', Ja, Jm, Jc, Ma, Mm, Mc, ev, rfl, hp3, hval⟩
        have HF3 := Lib.hid (HF2.out.call hp3.keep)
        have HP3 := Lib.hid hp3
        have HVAL := Lib.hid hval
        clear hp3 hval htb
        have HMN := Lib.hid HF2.out.mine
        go_wp2_with fail
        obtain ⟨w6, hw6⟩ : ∃ w6, w3.alloc (.cells (valC T' N' (.slice Sa Sm Sc) KT' E' (.slice Ja Jm Jc) (.slice Ma Mm Mc)) 29 (0, 0)) = w6 := ⟨_, rfl⟩
        have hk6 : Keep (fun _ => False) w3 w6 := by rw [← hw6]; exact (Keep.refl _ w3).alloc _
        have hX6 : w6.heap[w3.heap.size]? = some (.cells (valC T' N' (.slice Sa Sm Sc) KT' E' (.slice Ja Jm Jc) (.slice Ma Mm Mc)) 29 (0, 0)) := by rw [← hw6]; exact heap_alloc_new w3 _
        rw [hw6]
        clear hw6
        obtain ⟨X, hX⟩ : ∃ X, w3.heap.size = X := ⟨_, rfl⟩
        rw [hX] at hX6 ⊢
        have hidb := K.fI_bd s1
        rw [← HID.out] at hidb
        have hiw : IntKind.i64.wrap id = id := IntWalk.i64_in _ (by omega)
        have HV6 := Lib.hid (HF3.out.vb.keep hk6 (fun _ _ x => x))
        have HO1 : Hid (∀ i, (Value.slice Ia Im Ic).ownBlock = some i → i < w6.heap.size) := Lib.hid (fun i e => (HV6.out.ids.lt i e).2)
        have HB6 : Hid (w.heap.size ≤ w6.heap.size) := Lib.hid (Nat.le_trans HF3.out.kp.size hk6.size)
        have HC : Hid (∀ W, Keep (fun i => (Value.slice Ia Im Ic).ownBlock = some i ∨ (Value.slice La Lm Lc).ownBlock = some i) w6 W → W.heap[n0 + 1]? = some (.cells (valC 12 0 nilB 0 0 (.slice Ia Im Ic) (.slice La Lm Lc)) 29 (0, 0)) ∧ W.heap[X]? = some (.cells (valC T' N' (.slice Sa Sm Sc) KT' E' (.slice Ja Jm Jc) (.slice Ma Mm Mc)) 29 (0, 0)) ∧ True) := Lib.hid (fun W k =>
          ⟨(k.block _ (lt_of_heap HV6.out.blk) (fun e => e.elim HV6.out.neI HV6.out.neL)).trans HV6.out.blk,
           (k.block _ (lt_of_heap hX6) (fun e => e.elim (fun e => by have := (HF3.out.vb.ids.lt _ e).2; omega) (fun e => by have := (HF3.out.vb.parts.lt _ e).2; omega))).trans hX6, trivial⟩)
        have hmxv : vs.length + 1 ≤ 1099511627778 := by have := HNUM.out; have := HRM.out; have := K.ok.one1; omega
        have hmxi : ids.length + 1 ≤ 1099511627778 := by have := HNUM.out; omega
        have hmx1 : ids.length + 1 ≤ maxLen := by simp only [maxLen]; omega
        have hmx2 : vs.length + 1 ≤ maxLen := by simp only [maxLen]; omega
        obtain ⟨vi, hvi, hvz, hvs, hvb⟩ := ival_info
        obtain ⟨ii, hii, hiz, his, hib⟩ := int_info
        have hone1 : ∀ u ∈ [Value.int .i64 id], u.oneCell' = true := by
          intro u hu
          simp only [List.mem_cons, List.not_mem_nil, or_false] at hu
          subst hu; rfl
        have hone2 : ∀ u ∈ (valC T' N' (.slice Sa Sm Sc) KT' E' (.slice Ja Jm Jc) (.slice Ma Mm Mc)).toList, u.oneCell' = true := by
          intro u hu
          simp only [List.mem_cons, List.not_mem_nil, or_false] at hu
          rcases hu with rfl | rfl | rfl | rfl | rfl | rfl | rfl <;> rfl
        have HK6 := Lib.hid hk6
        have HX := Lib.hid hX
        clear hk6 hX6 hidb hX
        go_cut [] from 61 to 73 (fun wx => ∃ v5 v6 wy, wx = (wy.setCell ⟨n0 + 1, 5, none⟩ v5).setCell ⟨n0 + 1, 6, none⟩ v6 ∧ Grw 29 w.heap.size (.slice Ia Im Ic) (.slice La Lm Lc) w6 v5 v6 (ids.length + 1) (ids.map (Value.int .i64) ++ [.int .i64 id]) (vs.length + 1) (rows.flatten ++ (valC T' N' (.slice Sa Sm Sc) KT' E' (.slice Ja Jm Jc) (.slice Ma Mm Mc)).toList) wy)
        case first =>
          refine wp_region_quiet (fun W => W.heap[n0 + 1]? = some (.cells (valC 12 0 nilB 0 0 (.slice Ia Im Ic) (.slice La Lm Lc)) 29 (0, 0)) ∧ W.heap[X]? = some (.cells (valC T' N' (.slice Sa Sm Sc) KT' E' (.slice Ja Jm Jc) (.slice Ma Mm Mc)) 29 (0, 0)) ∧ True) [12, 14] (by kernel_rfl) ?_
          have G0 := Lib.hid ((Grw.start HV6.out).keep (Keep.refl (fun _ => False) w6).drew)
          generalize w6.drew = wd at *
          refine wpAnyP_plain 0 (some 61) (.pointer (some ⟨n0 + 1, 5, none⟩)) rfl (by kernel_rfl) (by kernel_rfl) (by kernel_rfl) (by kernel_rfl) (fun _ _ _ h => h) (fun W => ?_) (fun _ => HC.out _ G0.out.kp) ?_
          · go_simp
          try simp only [Act.put, List.setIfInBounds_toArray, List.set_cons_zero, List.set_cons_succ]
          refine wpAnyP_load 1 [12, 14] (some 62) (.slice Ia Im Ic) rfl (by kernel_rfl) (by kernel_rfl) (by kernel_rfl) (by kernel_rfl) (fun _ _ _ h => h) (fun W hW => ?_) (HC.out _ G0.out.kp) ?_
          · obtain ⟨p0, p1, p2, p3, p4, p5, p6⟩ := got_cells hW.1; go_simp
          try simp only [Act.put, List.setIfInBounds_toArray, List.set_cons_zero, List.set_cons_succ]
          refine wpAnyP_plain 2 (some 63) (.int .i16 id) rfl (by kernel_rfl) (by kernel_rfl) (by kernel_rfl) (by kernel_rfl) (fun _ _ _ h => h) (fun W => ?_) (fun _ => HC.out _ G0.out.kp) ?_
          · go_simp
          try simp only [Act.put, List.setIfInBounds_toArray, List.set_cons_zero, List.set_cons_succ]
          refine wpAnyP_plain 3 (some 64) (.int .i64 id) rfl (by kernel_rfl) (by kernel_rfl) (by kernel_rfl) (by kernel_rfl) (fun _ _ _ h => h) (fun W => ?_) (fun _ => HC.out _ G0.out.kp) ?_
          · go_simp
          try simp only [Act.put, List.setIfInBounds_toArray, List.set_cons_zero, List.set_cons_succ]
          refine wpAnyP_plain 6 (some 67) (.pointer (some ⟨n0 + 1, 6, none⟩)) rfl (by kernel_rfl) (by kernel_rfl) (by kernel_rfl) (by kernel_rfl) (fun _ _ _ h => h) (fun W => ?_) (fun _ => HC.out _ G0.out.kp) ?_
          · go_simp
          try simp only [Act.put, List.setIfInBounds_toArray, List.set_cons_zero, List.set_cons_succ]
          refine wpAnyP_load 7 [12, 14] (some 68) (.slice La Lm Lc) rfl (by kernel_rfl) (by kernel_rfl) (by kernel_rfl) (by kernel_rfl) (fun _ _ _ h => h) (fun W hW => ?_) (HC.out _ G0.out.kp) ?_
          · obtain ⟨p0, p1, p2, p3, p4, p5, p6⟩ := got_cells hW.1; go_simp
          try simp only [Act.put, List.setIfInBounds_toArray, List.set_cons_zero, List.set_cons_succ]
          refine wpAnyP_load 8 [9, 10, 12, 14] (some 69) (.agg (valC T' N' (.slice Sa Sm Sc) KT' E' (.slice Ja Jm Jc) (.slice Ma Mm Mc))) rfl (by kernel_rfl) (by kernel_rfl) (by kernel_rfl) (by kernel_rfl) (fun _ _ _ h => h) (fun W hW => ?_) (HC.out _ G0.out.kp) ?_
          · obtain ⟨p0, p1, p2, p3, p4, p5, p6⟩ := got_cells hW.2.1; go_simp
          try simp only [Act.put, List.setIfInBounds_toArray, List.set_cons_zero, List.set_cons_succ]
          refine wpAnyP_ready [4, 9] (by kernel_rfl) (by simp) ?_
          refine AllReadyP.cons (i := 4) (o := ⟨some 65, _, _, _, _, none⟩) rfl (fun K hK => ?_) ?_
          · go_simp
            have hn1 := new_cells wd #[.int .i64 id] 3
            have hz1 : wd.heap.size < (wd.alloc (.cells #[.int .i64 id] 3 (0, 0))).heap.size := by simp
            have G1 := Lib.hid (G0.out.alloc (.cells #[.int .i64 id] 3 (0, 0)))
            refine hK.out _ _ (fun _ => HC.out _ G1.out.kp) ?_
            clear hK K
            try simp only [Act.put, List.setIfInBounds_toArray, List.set_cons_zero, List.set_cons_succ]
            generalize wd.alloc (.cells #[.int .i64 id] 3 (0, 0)) = wa at *
            refine wpAnyP_ready [5, 9] (by kernel_rfl) (by simp) ?_
            refine AllReadyP.cons (i := 5) (o := ⟨some 66, _, _, _, _, none⟩) rfl (fun K hK => ?_) ?_
            · have hb1 : w.heap.size ≤ wa.heap.size := by have := G1.out.kp.size; have := HB6.out; omega
              refine step_append_own_at rfl (.tmp 62) (.tmp 65) 26 rfl w.heap.size 3 ii (.int .i64 0) 1 8 Tryz.underlying26 hii hiz his hib rfl (by decide) (.slice Ia Im Ic) ids.length (ids.map (Value.int .i64)) rfl G1.out.own1 ⟨wd.heap.size, 0, none⟩ 1 1 [.int .i64 id] rfl rfl hn1 hone1 hmx1 (by omega) hb1 ?_
              intro v5 wb ho5 hg5 ha5
              have G2 := Lib.hid (G1.out.app1 ho5 hg5 ha5)
              refine hK.out _ _ (fun _ => HC.out _ G2.out.kp) ?_
              clear hK K ho5 ha5
              try simp only [Act.put, List.setIfInBounds_toArray, List.set_cons_zero, List.set_cons_succ]
              refine wpAnyP_plain 11 (some 72) (.pointer (some ⟨n0 + 1, 5, none⟩)) rfl (by kernel_rfl) (by kernel_rfl) (by kernel_rfl) (by kernel_rfl) (fun _ _ _ h => h) (fun W => ?_) (fun _ => HC.out _ G2.out.kp) ?_
              · go_simp
              try simp only [Act.put, List.setIfInBounds_toArray, List.set_cons_zero, List.set_cons_succ]
              refine wpAnyP_ready [9] (by kernel_rfl) (by simp) ?_
              refine AllReadyP.cons (i := 9) (o := ⟨some 70, _, _, _, _, none⟩) rfl (fun K hK => ?_) ?_
              · go_simp
                have hn2 := new_cells wb (valC T' N' (.slice Sa Sm Sc) KT' E' (.slice Ja Jm Jc) (.slice Ma Mm Mc)) 29
                have hz2 : wb.heap.size < (wb.alloc (.cells (valC T' N' (.slice Sa Sm Sc) KT' E' (.slice Ja Jm Jc) (.slice Ma Mm Mc)) 29 (0, 0))).heap.size := by simp
                have G3 := Lib.hid (G2.out.alloc (.cells (valC T' N' (.slice Sa Sm Sc) KT' E' (.slice Ja Jm Jc) (.slice Ma Mm Mc)) 29 (0, 0)))
                refine hK.out _ _ (fun _ => HC.out _ G3.out.kp) ?_
                clear hK K
                try simp only [Act.put, List.setIfInBounds_toArray, List.set_cons_zero, List.set_cons_succ]
                generalize wb.alloc (.cells (valC T' N' (.slice Sa Sm Sc) KT' E' (.slice Ja Jm Jc) (.slice Ma Mm Mc)) 29 (0, 0)) = we at *
                refine wpAnyP_ready [10] (by kernel_rfl) (by simp) ?_
                refine AllReadyP.cons (i := 10) (o := ⟨some 71, _, _, _, _, none⟩) rfl (fun K hK => ?_) ?_
                · have hb2 : w.heap.size ≤ we.heap.size := by have := G3.out.kp.size; have := HB6.out; omega
                  refine step_append_own_at rfl (.tmp 68) (.tmp 70) 27 rfl w.heap.size 29 vi (.agg zVal) 7 104 Tryz.underlying27 hvi hvz hvs hvb rfl (by decide) (.slice La Lm Lc) vs.length rows.flatten rfl G3.out.own2 ⟨wb.heap.size, 0, none⟩ 1 1 ((valC T' N' (.slice Sa Sm Sc) KT' E' (.slice Ja Jm Jc) (.slice Ma Mm Mc))).toList rfl rfl hn2 hone2 hmx2 (by omega) hb2 ?_
                  intro v6 wf ho6 hg6 ha6
                  have G4 := Lib.hid (G3.out.app2 ho6 hg6 ha6)
                  refine hK.out _ _ (fun _ => HC.out _ G4.out.kp) ?_
                  clear hK K ho6 hg6 ha6
                  try simp only [Act.put, List.setIfInBounds_toArray, List.set_cons_zero, List.set_cons_succ]
                  obtain ⟨e5a, e5m, e5c, rfl⟩ := own_shape G4.out.own1
                  obtain ⟨e6a, e6m, e6c, rfl⟩ := own_shape G4.out.own2
                  obtain ⟨p0, p1, p2, p3, p4, p5, p6⟩ := got_cells (HC.out _ G4.out.kp).1
                  obtain ⟨q0, q1, q2, q3, q4, q5, q6⟩ := got_free (HC.out _ G4.out.kp).1
                  refine wpAnyP_ready [12] (by kernel_rfl) (by simp) ?_
                  refine AllReadyP.cons (i := 12) (o := ⟨none, _, _, _, _, none⟩) rfl (fun K hK => ?_) ?_
                  · go_simp
                    refine hK.out _ _ (fun q => quiet_no q (by kernel_rfl)) ?_
                    clear hK K
                    try simp only [Act.put, List.setIfInBounds_toArray, List.set_cons_zero, List.set_cons_succ]
                    refine wpAnyP_plain 13 (some 73) (.pointer (some ⟨n0 + 1, 6, none⟩)) rfl (by kernel_rfl) (by kernel_rfl) (by kernel_rfl) (by kernel_rfl) (fun _ _ _ h => h) (fun W => ?_) (fun q => quiet_no q (by kernel_rfl)) ?_
                    · go_simp
                    try simp only [Act.put, List.setIfInBounds_toArray, List.set_cons_zero, List.set_cons_succ]
                    refine wpAnyP_ready [14] (by kernel_rfl) (by simp) ?_
                    refine AllReadyP.cons (i := 14) (o := ⟨none, _, _, _, _, none⟩) rfl (fun K hK => ?_) ?_
                    · go_simp
                      refine hK.out _ _ (fun q => quiet_no q (by kernel_rfl)) ?_
                      clear hK K
                      refine wpAnyP_done (by kernel_rfl) ?_ _
                      go_wp2_with fail
                      go_simp
                      go_meet
                      exact ⟨_, _, wf, rfl, G4.out⟩
                    · exact AllReadyP.nil
                  · exact AllReadyP.nil
                · exact AllReadyP.nil
              · exact AllReadyP.nil
            · refine AllReadyP.cons (i := 9) (o := ⟨some 70, _, _, _, _, none⟩) rfl (fun K hK => ?_) ?_
              · go_simp
                have hn2 := new_cells wa (valC T' N' (.slice Sa Sm Sc) KT' E' (.slice Ja Jm Jc) (.slice Ma Mm Mc)) 29
                have hz2 : wa.heap.size < (wa.alloc (.cells (valC T' N' (.slice Sa Sm Sc) KT' E' (.slice Ja Jm Jc) (.slice Ma Mm Mc)) 29 (0, 0))).heap.size := by simp
                have G2 := Lib.hid (G1.out.alloc (.cells (valC T' N' (.slice Sa Sm Sc) KT' E' (.slice Ja Jm Jc) (.slice Ma Mm Mc)) 29 (0, 0)))
                have hn1 := news_alloc hn1 hz1 (.cells (valC T' N' (.slice Sa Sm Sc) KT' E' (.slice Ja Jm Jc) (.slice Ma Mm Mc)) 29 (0, 0))
                refine hK.out _ _ (fun _ => HC.out _ G2.out.kp) ?_
                clear hK K
                try simp only [Act.put, List.setIfInBounds_toArray, List.set_cons_zero, List.set_cons_succ]
                generalize wa.alloc (.cells (valC T' N' (.slice Sa Sm Sc) KT' E' (.slice Ja Jm Jc) (.slice Ma Mm Mc)) 29 (0, 0)) = wb at *
                refine wpAnyP_ready [5] (by kernel_rfl) (by simp) ?_
                refine AllReadyP.cons (i := 5) (o := ⟨some 66, _, _, _, _, none⟩) rfl (fun K hK => ?_) ?_
                · have hb1 : w.heap.size ≤ wb.heap.size := by have := G2.out.kp.size; have := HB6.out; omega
                  refine step_append_own_at rfl (.tmp 62) (.tmp 65) 26 rfl w.heap.size 3 ii (.int .i64 0) 1 8 Tryz.underlying26 hii hiz his hib rfl (by decide) (.slice Ia Im Ic) ids.length (ids.map (Value.int .i64)) rfl G2.out.own1 ⟨wd.heap.size, 0, none⟩ 1 1 [.int .i64 id] rfl rfl hn1 hone1 hmx1 (by omega) hb1 ?_
                  intro v5 we ho5 hg5 ha5
                  have G3 := Lib.hid (G2.out.app1 ho5 hg5 ha5)
                  have hn2 := news_kept hn2 hz2 ((Keep.refl (fun i => (Value.slice Ia Im Ic).ownBlock = some i) wb).grown hg5 (fun _ e _ => e)) (fun e => by have := HO1.out _ e; have := G0.out.kp.size; have := G1.out.kp.size; omega)
                  refine hK.out _ _ (fun _ => HC.out _ G3.out.kp) ?_
                  clear hK K ho5 ha5
                  try simp only [Act.put, List.setIfInBounds_toArray, List.set_cons_zero, List.set_cons_succ]
                  refine wpAnyP_plain 11 (some 72) (.pointer (some ⟨n0 + 1, 5, none⟩)) rfl (by kernel_rfl) (by kernel_rfl) (by kernel_rfl) (by kernel_rfl) (fun _ _ _ h => h) (fun W => ?_) (fun _ => HC.out _ G3.out.kp) ?_
                  · go_simp
                  try simp only [Act.put, List.setIfInBounds_toArray, List.set_cons_zero, List.set_cons_succ]
                  refine wpAnyP_ready [10] (by kernel_rfl) (by simp) ?_
                  refine AllReadyP.cons (i := 10) (o := ⟨some 71, _, _, _, _, none⟩) rfl (fun K hK => ?_) ?_
                  · have hb2 : w.heap.size ≤ we.heap.size := by have := G3.out.kp.size; have := HB6.out; omega
                    refine step_append_own_at rfl (.tmp 68) (.tmp 70) 27 rfl w.heap.size 29 vi (.agg zVal) 7 104 Tryz.underlying27 hvi hvz hvs hvb rfl (by decide) (.slice La Lm Lc) vs.length rows.flatten rfl G3.out.own2 ⟨wa.heap.size, 0, none⟩ 1 1 ((valC T' N' (.slice Sa Sm Sc) KT' E' (.slice Ja Jm Jc) (.slice Ma Mm Mc))).toList rfl rfl hn2 hone2 hmx2 (by omega) hb2 ?_
                    intro v6 wf ho6 hg6 ha6
                    have G4 := Lib.hid (G3.out.app2 ho6 hg6 ha6)
                    refine hK.out _ _ (fun _ => HC.out _ G4.out.kp) ?_
                    clear hK K ho6 hg6 ha6
                    try simp only [Act.put, List.setIfInBounds_toArray, List.set_cons_zero, List.set_cons_succ]
                    obtain ⟨e5a, e5m, e5c, rfl⟩ := own_shape G4.out.own1
                    obtain ⟨e6a, e6m, e6c, rfl⟩ := own_shape G4.out.own2
                    obtain ⟨p0, p1, p2, p3, p4, p5, p6⟩ := got_cells (HC.out _ G4.out.kp).1
                    obtain ⟨q0, q1, q2, q3, q4, q5, q6⟩ := got_free (HC.out _ G4.out.kp).1
                    refine wpAnyP_ready [12] (by kernel_rfl) (by simp) ?_
                    refine AllReadyP.cons (i := 12) (o := ⟨none, _, _, _, _, none⟩) rfl (fun K hK => ?_) ?_
                    · go_simp
                      refine hK.out _ _ (fun q => quiet_no q (by kernel_rfl)) ?_
                      clear hK K
                      try simp only [Act.put, List.setIfInBounds_toArray, List.set_cons_zero, List.set_cons_succ]
                      refine wpAnyP_plain 13 (some 73) (.pointer (some ⟨n0 + 1, 6, none⟩)) rfl (by kernel_rfl) (by kernel_rfl) (by kernel_rfl) (by kernel_rfl) (fun _ _ _ h => h) (fun W => ?_) (fun q => quiet_no q (by kernel_rfl)) ?_
                      · go_simp
                      try simp only [Act.put, List.setIfInBounds_toArray, List.set_cons_zero, List.set_cons_succ]
                      refine wpAnyP_ready [14] (by kernel_rfl) (by simp) ?_
                      refine AllReadyP.cons (i := 14) (o := ⟨none, _, _, _, _, none⟩) rfl (fun K hK => ?_) ?_
                      · go_simp
                        refine hK.out _ _ (fun q => quiet_no q (by kernel_rfl)) ?_
                        clear hK K
                        refine wpAnyP_done (by kernel_rfl) ?_ _
                        go_wp2_with fail
                        go_simp
                        go_meet
                        exact ⟨_, _, wf, rfl, G4.out⟩
                      · exact AllReadyP.nil
                    · exact AllReadyP.nil
                  · exact AllReadyP.nil
                · exact AllReadyP.nil
              · exact AllReadyP.nil
          · refine AllReadyP.cons (i := 9) (o := ⟨some 70, _, _, _, _, none⟩) rfl (fun K hK => ?_) ?_
            · go_simp
              have hn2 := new_cells wd (valC T' N' (.slice Sa Sm Sc) KT' E' (.slice Ja Jm Jc) (.slice Ma Mm Mc)) 29
              have hz2 : wd.heap.size < (wd.alloc (.cells (valC T' N' (.slice Sa Sm Sc) KT' E' (.slice Ja Jm Jc) (.slice Ma Mm Mc)) 29 (0, 0))).heap.size := by simp
              have G1 := Lib.hid (G0.out.alloc (.cells (valC T' N' (.slice Sa Sm Sc) KT' E' (.slice Ja Jm Jc) (.slice Ma Mm Mc)) 29 (0, 0)))
              refine hK.out _ _ (fun _ => HC.out _ G1.out.kp) ?_
              clear hK K
              try simp only [Act.put, List.setIfInBounds_toArray, List.set_cons_zero, List.set_cons_succ]
              generalize wd.alloc (.cells (valC T' N' (.slice Sa Sm Sc) KT' E' (.slice Ja Jm Jc) (.slice Ma Mm Mc)) 29 (0, 0)) = wa at *
              refine wpAnyP_ready [4] (by kernel_rfl) (by simp) ?_
              refine AllReadyP.cons (i := 4) (o := ⟨some 65, _, _, _, _, none⟩) rfl (fun K hK => ?_) ?_
              · have hn2' := news_alloc hn2 hz2 (.cells #[.int .i64 id] 3 (0, 0))
                go_simp
                have hn1 := new_cells wa #[.int .i64 id] 3
                have hz1 : wa.heap.size < (wa.alloc (.cells #[.int .i64 id] 3 (0, 0))).heap.size := by simp
                have G2 := Lib.hid (G1.out.alloc (.cells #[.int .i64 id] 3 (0, 0)))
                refine hK.out _ _ (fun _ => HC.out _ G2.out.kp) ?_
                clear hK K
                try simp only [Act.put, List.setIfInBounds_toArray, List.set_cons_zero, List.set_cons_succ]
                generalize wa.alloc (.cells #[.int .i64 id] 3 (0, 0)) = wb at *
                have hz2 := Nat.lt_trans hz2 hz1
                have hn2 := hn2'
                refine wpAnyP_ready [5] (by kernel_rfl) (by simp) ?_
                refine AllReadyP.cons (i := 5) (o := ⟨some 66, _, _, _, _, none⟩) rfl (fun K hK => ?_) ?_
                · have hb1 : w.heap.size ≤ wb.heap.size := by have := G2.out.kp.size; have := HB6.out; omega
                  refine step_append_own_at rfl (.tmp 62) (.tmp 65) 26 rfl w.heap.size 3 ii (.int .i64 0) 1 8 Tryz.underlying26 hii hiz his hib rfl (by decide) (.slice Ia Im Ic) ids.length (ids.map (Value.int .i64)) rfl G2.out.own1 ⟨wa.heap.size, 0, none⟩ 1 1 [.int .i64 id] rfl rfl hn1 hone1 hmx1 (by omega) hb1 ?_
                  intro v5 we ho5 hg5 ha5
                  have G3 := Lib.hid (G2.out.app1 ho5 hg5 ha5)
                  have hn2 := news_kept hn2 hz2 ((Keep.refl (fun i => (Value.slice Ia Im Ic).ownBlock = some i) wb).grown hg5 (fun _ e _ => e)) (fun e => by have := HO1.out _ e; have := G0.out.kp.size; have := G1.out.kp.size; omega)
                  refine hK.out _ _ (fun _ => HC.out _ G3.out.kp) ?_
                  clear hK K ho5 ha5
                  try simp only [Act.put, List.setIfInBounds_toArray, List.set_cons_zero, List.set_cons_succ]
                  refine wpAnyP_plain 11 (some 72) (.pointer (some ⟨n0 + 1, 5, none⟩)) rfl (by kernel_rfl) (by kernel_rfl) (by kernel_rfl) (by kernel_rfl) (fun _ _ _ h => h) (fun W => ?_) (fun _ => HC.out _ G3.out.kp) ?_
                  · go_simp
                  try simp only [Act.put, List.setIfInBounds_toArray, List.set_cons_zero, List.set_cons_succ]
                  refine wpAnyP_ready [10] (by kernel_rfl) (by simp) ?_
                  refine AllReadyP.cons (i := 10) (o := ⟨some 71, _, _, _, _, none⟩) rfl (fun K hK => ?_) ?_
                  · have hb2 : w.heap.size ≤ we.heap.size := by have := G3.out.kp.size; have := HB6.out; omega
                    refine step_append_own_at rfl (.tmp 68) (.tmp 70) 27 rfl w.heap.size 29 vi (.agg zVal) 7 104 Tryz.underlying27 hvi hvz hvs hvb rfl (by decide) (.slice La Lm Lc) vs.length rows.flatten rfl G3.out.own2 ⟨wd.heap.size, 0, none⟩ 1 1 ((valC T' N' (.slice Sa Sm Sc) KT' E' (.slice Ja Jm Jc) (.slice Ma Mm Mc))).toList rfl rfl hn2 hone2 hmx2 (by omega) hb2 ?_
                    intro v6 wf ho6 hg6 ha6
                    have G4 := Lib.hid (G3.out.app2 ho6 hg6 ha6)
                    refine hK.out _ _ (fun _ => HC.out _ G4.out.kp) ?_
                    clear hK K ho6 hg6 ha6
                    try simp only [Act.put, List.setIfInBounds_toArray, List.set_cons_zero, List.set_cons_succ]
                    obtain ⟨e5a, e5m, e5c, rfl⟩ := own_shape G4.out.own1
                    obtain ⟨e6a, e6m, e6c, rfl⟩ := own_shape G4.out.own2
                    obtain ⟨p0, p1, p2, p3, p4, p5, p6⟩ := got_cells (HC.out _ G4.out.kp).1
                    obtain ⟨q0, q1, q2, q3, q4, q5, q6⟩ := got_free (HC.out _ G4.out.kp).1
                    refine wpAnyP_ready [12] (by kernel_rfl) (by simp) ?_
                    refine AllReadyP.cons (i := 12) (o := ⟨none, _, _, _, _, none⟩) rfl (fun K hK => ?_) ?_
                    · go_simp
                      refine hK.out _ _ (fun q => quiet_no q (by kernel_rfl)) ?_
                      clear hK K
                      try simp only [Act.put, List.setIfInBounds_toArray, List.set_cons_zero, List.set_cons_succ]
                      refine wpAnyP_plain 13 (some 73) (.pointer (some ⟨n0 + 1, 6, none⟩)) rfl (by kernel_rfl) (by kernel_rfl) (by kernel_rfl) (by kernel_rfl) (fun _ _ _ h => h) (fun W => ?_) (fun q => quiet_no q (by kernel_rfl)) ?_
                      · go_simp
                      try simp only [Act.put, List.setIfInBounds_toArray, List.set_cons_zero, List.set_cons_succ]
                      refine wpAnyP_ready [14] (by kernel_rfl) (by simp) ?_
                      refine AllReadyP.cons (i := 14) (o := ⟨none, _, _, _, _, none⟩) rfl (fun K hK => ?_) ?_
                      · go_simp
                        refine hK.out _ _ (fun q => quiet_no q (by kernel_rfl)) ?_
                        clear hK K
                        refine wpAnyP_done (by kernel_rfl) ?_ _
                        go_wp2_with fail
                        go_simp
                        go_meet
                        exact ⟨_, _, wf, rfl, G4.out⟩
                      · exact AllReadyP.nil
                    · exact AllReadyP.nil
                  · exact AllReadyP.nil
                · exact AllReadyP.nil
              · exact AllReadyP.nil
            · exact AllReadyP.nil
        case rest =>
        obtain ⟨v5, v6, wy, rfl, hg⟩ := hcut
        obtain ⟨e5a, e5m, e5c, rfl⟩ := own_shape hg.own1
        obtain ⟨e6a, e6m, e6c, rfl⟩ := own_shape hg.own2
        clear hone1 hone2 hmx1 hmx2 hvi hvz hvs hvb hii hiz his hib
        have hUy := (HC.out _ hg.kp).1
        have hUz := heap_set_same (i := 6) (heap_set_same (i := 5) hUy (.slice e5a e5m e5c)) (.slice e6a e6m e6c)
        obtain ⟨hR1, hR2, hR3⟩ := HF3.out.still (n0, zVal, 29) (by simp)
        have hR6 := (HK6.out.block n0 (lt_of_heap hR2) (fun x => x)).trans hR2
        have hn6 := lt_of_heap hR6
        have hRy := (hg.kp.block n0 hn6 (fun e => e.elim (fun e => (HMN.out n0 (.inr (.inl e))).2.2.1 (n0, zVal, 29) (by simp) rfl) (fun e => (HMN.out n0 (.inr (.inr e))).2.2.1 (n0, zVal, 29) (by simp) rfl))).trans hR6
        have hRz := (heap_set_other (p := ⟨n0 + 1, 6, none⟩) (b := n0) (.slice e6a e6m e6c) (by simp)).trans ((heap_set_other (p := ⟨n0 + 1, 5, none⟩) (b := n0) (.slice e5a e5m e5c) (by simp)).trans hRy)
        have hkz : Keep (fun i => n0 + 1 = i ∨ (Value.slice Ia Im Ic).ownBlock = some i ∨ (Value.slice La Lm Lc).ownBlock = some i) w3 ((wy.setCell ⟨n0 + 1, 5, none⟩ (.slice e5a e5m e5c)).setCell ⟨n0 + 1, 6, none⟩ (.slice e6a e6m e6c)) :=
          (((HK6.out.weak (fun _ _ x => x.elim)).then (hg.kp.weak (fun _ _ e => .inr e))).set (n0 + 1) 5 (fun _ => .inl rfl) _).set (n0 + 1) 6 (fun _ => .inl rfl) _
        by_cases hz3 : (gt K.pr d t (K.pr.fS s1)).1 = 0
        · have hev : ev = .nilIface := by have := HP3.out.err; rw [hz3] at this; exact this.isNil
          subst hev
          have i3 := HP3.out.inv hz3
          have hM6 := (K.turn h HF3.out.kp i3 HK6.out (fun _ x => x.elim)).2.2
          obtain ⟨F8, I8⟩ := Rp.Frame.two (x := (gt K.pr d t (K.pr.fS s1)).2.2) (id := id) h (Rp.Frame.fresh h HF3.out i3 HK6.out) (i3.fresh HK6.out)
            (((HVAL.out hz3).keep HK6.out (fun _ _ => (fun y => y))).weak (fun i _ hi => ⟨fun j hj e => by have := (HMN.out j hj).2.1; have := hi.1; omega, by have := hi.1; have := HF2.out.kp.size; omega, fun p hp e => by have := lt_of_heap (HF2.out.still p hp).2.1; have := hi.1; omega, fun m => hi.2 (hM6 i m)⟩)) hg
          have a1 := gt_len K.ok d _ _ hz3
          have a2 := gt_dep K.ok d _ _ hz3
          have HA := Lib.hid (And.intro a1 a2)
          have HZ3 := Lib.hid hz3
          clear hz3 hM6 a1 a2 hg hUy hRy hR6 hn6 hR1 hR2 hR3 hkz
          generalize (wy.setCell ⟨n0 + 1, 5, none⟩ (.slice e5a e5m e5c)).setCell ⟨n0 + 1, 6, none⟩ (.slice e6a e6m e6c) = wz at *
          have HF8 := Lib.hid F8
          have HI8 := Lib.hid I8
          clear F8 I8
          go_wp2_with fail
          go_cut [14] from 78 to 83 (fun s14 wx => s14 = .nilIface ∧ Rp.Post K wz.drew wx 0 .nilIface (K.pr.feS (gt K.pr d t (K.pr.fS s1)).2.1))
          case first =>
            go_region_with (first | (go_at_call 28; refine (ctx_at _).mono ?_; rintro e w' ⟨rfl, rfl⟩) | (refine (K.readFieldEnd (w := wz.drew) (HI8.out.fresh ((Keep.refl _ wz).drew))).mono ?_; rintro e w5 ⟨rfl, hp5⟩; have HP5 := Lib.hid hp5; clear hp5))
            all_goals
              go_wp2_with fail
              go_simp
              go_meet
              exact ⟨rfl, HP5.out⟩
          case rest =>
          obtain ⟨rfl, hp5⟩ := hcut
          have HF9 := Lib.hid ((Rp.Frame.fresh h HF8.out HI8.out ((Keep.refl _ wz).drew)).call hp5.keep)
          have HI9 := Lib.hid (hp5.inv rfl)
          clear hp5
          go_wp2_with fail
          go_roundg k
          case measure => exact Nat.lt_succ_self _
          case rel =>
            have ok := K.ok
            have a1 := HA.out
            have a2 := HNUM.out
            have a3 := ok.fe (gt K.pr d t (K.pr.fS s1)).2.1
            have a4 := ok.dfe (gt K.pr d t (K.pr.fS s1)).2.1
            have a5 := ok.f s1 HZ.out
            have a6 := ok.df s1 HZ.out
            refine ⟨_, _, _, _, _, _, HI9.out, HF9.out, by omega, ?_, by omega, by omega, by simp; omega, by simp; omega⟩
            rw [← HF.out]
            have e0 := gflds_ok (p := K.pr) (f := gt K.pr d) (n := k) (s := s1) (ids := ids) (l := vs) HZ.out HNE.out (by rw [← HTT.out]; exact HZ3.out)
            rw [← HTT.out, ← HID.out] at e0
            exact e0.symm
        · obtain ⟨tt, x, rfl⟩ := HP3.out.err.held hz3
          have HZ3 := Lib.hid hz3
          have HKZ := Lib.hid hkz
          have HRZ := Lib.hid hRz
          clear hz3 hg hUy hRy hR6 hn6 hR1 hR2 hR3 hkz
          generalize (wy.setCell ⟨n0 + 1, 5, none⟩ (.slice e5a e5m e5c)).setCell ⟨n0 + 1, 6, none⟩ (.slice e6a e6m e6c) = wz at *
          obtain ⟨x0, x1, x2, x3, x4, x5, x6⟩ := got_cells hUz
          obtain ⟨r0, r1, r2, r3, r4, r5, r6⟩ := got_cells hRz
          obtain ⟨z0, z1, z2, z3, z4, z5, z6⟩ := got_free hRz
          clear hUz hRz
          go_wp2_with fail
          have hk9 := val_keep (M := fun i => n0 + 1 = i ∨ ((Value.slice Ia Im Ic).ownBlock = some i ∨ (Value.slice La Lm Lc).ownBlock = some i) ∨ n0 = i) (HKZ.out.weak (fun i _ e => e.elim .inl (fun e => .inr (.inl e)))) (R := n0) (fun _ => .inr (.inr rfl)) (.int .i64 12) (.int .i64 0) (.slice none 0 0) (.int .i64 0) (.int .i64 0) (.slice e5a e5m e5c) (.slice e6a e6m e6c)
          refine ret_cell2 (U := n0) (T := 29) Tryz.results59 rfl rfl rfl (val_set HRZ.out (.int .i64 12) (.int .i64 0) (.slice none 0 0) (.int .i64 0) (.int .i64 0) (.slice e5a e5m e5c) (.slice e6a e6m e6c)) Tryz.underlying29 ival_size ?_
          have hth := K.thru h HF2.out.kp (HP2.out.inv HZ.out) HP3.out hk9 (fun i e => by
            rcases e with e | (e | e) | e
            · have := HMN.out i (.inl e); exact ⟨this.1, this.2.1, this.2.2.2⟩
            · have := HMN.out i (.inr (.inl e)); exact ⟨this.1, this.2.1, this.2.2.2⟩
            · have := HMN.out i (.inr (.inr e)); exact ⟨this.1, this.2.1, this.2.2.2⟩
            · subst e
              obtain ⟨q1, q2, q3⟩ := HF2.out.still (n0, zVal, 29) (by simp)
              exact ⟨q1, lt_of_heap q2, q3⟩)
          have e1 : tot = ((gt K.pr d t (K.pr.fS s1)).1, (gt K.pr d t (K.pr.fS s1)).2.1, V.zero) := by
            rw [← HF.out]
            have e0 := gflds_bad (p := K.pr) (f := gt K.pr d) (n := k) (s := s1) (ids := ids) (l := vs) HZ.out HNE.out (by rw [← HTT.out]; exact HZ3.out)
            rw [← HTT.out] at e0
            exact e0
          rw [e1]
          exact ⟨12, 0, none, 0, 0, 0, 0, e5a, e5m, e5c, e6a, e6m, e6c, _, rfl, hth.1, fun hz => absurd hz HZ3.out⟩
    · obtain ⟨tt, x, rfl⟩ := HP2.out.err.held hz
      have HZ := Lib.hid hz
      obtain ⟨x0, x1, x2, x3, x4, x5, x6⟩ := got_cells HF2.out.vb.blk
      obtain ⟨r0, r1, r2, r3, r4, r5, r6⟩ := got_cells hR2
      obtain ⟨z0, z1, z2, z3, z4, z5, z6⟩ := got_free hR2
      clear hz hv2 hR1 hR2 hR3
      go_wp2_with fail
      have hk9 := val_keep (M := fun i => n0 = i) (Keep.refl _ wc) (R := n0) (fun _ => rfl) (.int .i64 12) (.int .i64 0) (.slice none 0 0) (.int .i64 0) (.int .i64 0) (.slice Ia Im Ic) (.slice La Lm Lc)
      refine ret_cell2 (U := n0) (T := 29) Tryz.results59 rfl rfl rfl (val_set HR2.out (.int .i64 12) (.int .i64 0) (.slice none 0 0) (.int .i64 0) (.int .i64 0) (.slice Ia Im Ic) (.slice La Lm Lc)) Tryz.underlying29 ival_size ?_
      have hth := K.thru h HFD.out.kp (hi1.fresh ((Keep.refl _ wr).drew)) HP2.out hk9 (fun i e => by
        subst e
        obtain ⟨q1, q2, q3⟩ := HFD.out.still (n0, zVal, 29) (by simp)
        exact ⟨q1, lt_of_heap q2, q3⟩)
      have e1 : tot = (K.pr.fK s1, K.pr.fS s1, V.zero) := by
        rw [← HF.out]
        exact gflds_err HZ.out
      rw [e1]
      exact ⟨12, 0, none, 0, 0, 0, 0, Ia, Im, Ic, La, Lm, Lc, _, rfl, hth.1, fun hz => absurd hz HZ.out⟩
end Go.Proofs.YthehmlbolajljaaGreatDoor
