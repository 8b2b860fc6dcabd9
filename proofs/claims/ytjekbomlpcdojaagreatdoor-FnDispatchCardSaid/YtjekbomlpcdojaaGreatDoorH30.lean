/- Part 30 of the proof: AnyP. -/
import Derived.OrdersHeld
import Derived.Deep.RegionHeldLaw
import Derived.Maps.AppendAt
set_option linter.unusedVariables false
set_option linter.unusedSimpArgs false
set_option linter.unusedSectionVars false
set_option maxHeartbeats 16000000
namespace Go.Proofs.YtjekbomlpcdojaaGreatDoor
open Go
section
variable {P : Program} {ops : Array Oper} {Q : Exit → Act → World → Prop} {md : Region.Mode} {C : World → Prop} {st : List Nat}
def quiet (st : List Nat) (listed : Array Bool) : Bool := st.all fun j => !listed.getD j true
def waits (md : Region.Mode) (ops : Array Oper) (B : List Nat) (i : Nat) : Bool :=
 B.all fun j => match ops[j]? with
  | some o => o.after.toList.any fun e => Region.binds md e && (e.on == i || B.contains e.on)
  | none => true
theorem quiet_at {listed : Array Bool} (h : quiet st listed = true) {j : Nat} (hj : j ∈ st) : listed.getD j true = false := by
 have := List.all_eq_true.1 h j hj
 simpa using this
theorem quiet_of {listed : Array Bool} (h : ∀ j ∈ st, listed.getD j true = false) : quiet st listed = true :=
 List.all_eq_true.2 (fun j hj => by simpa using h j hj)
theorem quiet_set {listed : Array Bool} (h : quiet st listed = true) {i : Nat} (hi : i ∉ st) : quiet st (listed.setIfInBounds i true) = true :=
 quiet_of (fun j hj => by rw [getD_set_ne true (fun e => hi (by subst e; exact hj))]; exact quiet_at h hj)
theorem quiet_sub {B : List Nat} {listed : Array Bool} (h : quiet B listed = true) (hs : ∀ j ∈ st, j ∈ B) : quiet st listed = true :=
 quiet_of (fun j hj => quiet_at h (hs j hj))
theorem getD_no {listed : Array Bool} {k : Nat} (h0 : listed.getD k true = false) (h1 : listed.getD k false = true) : False := by
 rcases Nat.lt_or_ge k listed.size with h' | h'
 ·simp [h'] at h0 h1; rw [h0] at h1; cases h1
 ·simp [Array.getElem?_eq_none h'] at h1
def wpAnyP (P : Program) (md : Region.Mode) (ops : Array Oper) (Q : Exit → Act → World → Prop) (C : World → Prop) (st : List Nat) : Nat → Array Bool → Act → World → Prop
 | 0, listed, a, w => Region.ready md ops listed = [] ∧ Q .normal a w
 | fuel + 1, listed, a, w =>
  (Region.ready md ops listed = [] → Q .normal a w) ∧
  ∀ i ∈ Region.ready md ops listed, wpOp P ops Q i (fun a' w' => (quiet st (listed.setIfInBounds i true) = true → C w') ∧ wpAnyP P md ops Q C st fuel (listed.setIfInBounds i true) a' w') a w
theorem wpAny_of_quiet : ∀ (fuel : Nat) (listed : Array Bool) (a : Act) (w : World), wpAnyP P md ops Q C st fuel listed a w → wpAny P md ops Q fuel listed a w
 | 0, _, _, _, h => h
 | fuel + 1, _, _, _, h => ⟨h.1, fun i hi => wpOp_mono (fun a' w' h' => wpAny_of_quiet fuel _ a' w' h'.2) (h.2 i hi)⟩
theorem wpAnyP_first {i : Nat} {oi : Oper} {v : Value} (hi : ops[i]? = some oi) (hsel : ∀ (j : Nat) (o : Oper) cs b, ops[j]? = some o → o.op ≠ .select cs b)
  (hQ : ∀ c a w, Q (.panic c) (a.put oi.dst v) w → Q (.panic c) a w) (B : List Nat) (hB : waits md ops B i = true) (hst : ∀ j ∈ st, j ∈ B) (hiB : i ∉ B) :
  ∀ (fuel : Nat) (listed : Array Bool) (a : Act) (w : World),
   (∀ j oj, ops[j]? = some oj → j ≠ i → listed.getD j true = false → (∀ e ∈ oj.after, Region.binds md e = true → e.on ≠ i) → oi.apart ops oj = true) →
   i ∈ Region.ready md ops listed → quiet B listed = true → YieldsIf P ops C oi v a → C w →
   wpAnyP P md ops Q C st fuel (listed.setIfInBounds i true) (a.put oi.dst v) w → wpAnyP P md ops Q C st (fuel + 1) listed a w := by
 intro fuel
 induction fuel with
 | zero =>
  intro listed a w _ hr _ hy hS H
  refine ⟨fun h => (by rw [h] at hr; cases hr), fun j hj => ?_⟩
  by_cases hji : j = i
  ·subst hji; exact hy.wpOp hi hS ⟨fun _ => hS, H⟩
  ·have := ready_mono hj hji
   rw [H.1] at this
   cases this
 | succ fuel ih =>
  intro listed a w hfree hr hq hy hS H
  refine ⟨fun h => (by rw [h] at hr; cases hr), fun j hj => ?_⟩
  by_cases hji : j = i
  ·subst hji; exact hy.wpOp hi hS ⟨fun _ => hS, H⟩
  ·have h1 := H.2 j (ready_mono hj hji)
   obtain ⟨hjun, oj, hoj, hall⟩ := mem_ready.1 hj
   have hnot : ∀ e ∈ oj.after, Region.binds md e = true → e.on ≠ i := fun e he hb heq => by
    have h1 := hall e he hb
    rw [heq] at h1
    exact getD_no (mem_ready.1 hr).1 h1
   have hjB : j ∉ B := fun hjb => by
    have h5 := List.all_eq_true.1 hB j hjb
    rw [hoj] at h5
    obtain ⟨e, he, h6⟩ := List.any_eq_true.1 h5
    have he := Array.mem_toList_iff.1 he
    simp only [Bool.and_eq_true, Bool.or_eq_true, beq_iff_eq] at h6
    rcases h6.2 with h7 | h7
    ·exact hnot e he h6.1 h7
    ·exact getD_no (quiet_at hq (by simpa using h7)) (hall e he h6.1)
   have h2 := wpOp_putIf hoj (hfree j oj hoj hji hjun hnot) (fun cs b => hsel i oi cs b hi) (fun cs b => hsel j oj cs b hoj) hQ hy h1
   have hfree' : ∀ k ok, ops[k]? = some ok → k ≠ i → (listed.setIfInBounds j true).getD k true = false →
     (∀ e ∈ ok.after, Region.binds md e = true → e.on ≠ i) → oi.apart ops ok = true := fun k ok hk hki hun hno => by
    refine hfree k ok hk hki ?_ hno
    by_cases hjk : j = k
    ·subst hjk; exact hjun
    ·rw [getD_set_ne true hjk] at hun; exact hun
   have hq2 := quiet_set hq hjB
   have hq3 : quiet st ((listed.setIfInBounds i true).setIfInBounds j true) = true := quiet_sub (quiet_set (quiet_set hq hiB) hjB) hst
   refine wpOp_mono (fun a' w' h3 => ?_) h2
   have hC := h3.2.1 hq3
   refine ⟨fun _ => hC, ih (listed.setIfInBounds j true) a' w' hfree' (ready_mono hr (Ne.symm hji)) hq2 h3.1 hC ?_⟩
   rw [Array.setIfInBounds_comm _ _ hji]
   exact h3.2.2
theorem wpAnyP_firstY {i : Nat} {oi : Oper} {v : Value} (hi : ops[i]? = some oi) (hsel : ∀ (j : Nat) (o : Oper) cs b, ops[j]? = some o → o.op ≠ .select cs b)
  (hQ : ∀ c a w, Q (.panic c) (a.put oi.dst v) w → Q (.panic c) a w) (his : i ∉ st) :
  ∀ (fuel : Nat) (listed : Array Bool) (a : Act) (w : World),
   (∀ j oj, ops[j]? = some oj → j ≠ i → listed.getD j true = false → (∀ e ∈ oj.after, Region.binds md e = true → e.on ≠ i) → oi.apart ops oj = true) →
   i ∈ Region.ready md ops listed → Yields P ops oi v a → (quiet st listed = true → C w) →
   wpAnyP P md ops Q C st fuel (listed.setIfInBounds i true) (a.put oi.dst v) w → wpAnyP P md ops Q C st (fuel + 1) listed a w := by
 have hqq : ∀ {l : Array Bool}, quiet st (l.setIfInBounds i true) = true → quiet st l = true := fun {l} h =>
  quiet_of (fun j hj => by have := quiet_at h hj; rwa [getD_set_ne true (fun e => his (by subst e; exact hj))] at this)
 intro fuel
 induction fuel with
 | zero =>
  intro listed a w _ hr hy hS H
  refine ⟨fun h => (by rw [h] at hr; cases hr), fun j hj => ?_⟩
  by_cases hji : j = i
  ·subst hji; exact hy.wpOp hi ⟨fun q => hS (hqq q), H⟩
  ·have := ready_mono hj hji
   rw [H.1] at this
   cases this
 | succ fuel ih =>
  intro listed a w hfree hr hy hS H
  refine ⟨fun h => (by rw [h] at hr; cases hr), fun j hj => ?_⟩
  by_cases hji : j = i
  ·subst hji; exact hy.wpOp hi ⟨fun q => hS (hqq q), H⟩
  ·have h1 := H.2 j (ready_mono hj hji)
   obtain ⟨hjun, oj, hoj, hall⟩ := mem_ready.1 hj
   have hnot : ∀ e ∈ oj.after, Region.binds md e = true → e.on ≠ i := fun e he hb heq => by
    have h1 := hall e he hb
    rw [heq] at h1
    exact getD_no (mem_ready.1 hr).1 h1
   have h2 := wpOp_put hoj (hfree j oj hoj hji hjun hnot) (fun cs b => hsel i oi cs b hi) (fun cs b => hsel j oj cs b hoj) hQ hy h1
   have hfree' : ∀ k ok, ops[k]? = some ok → k ≠ i → (listed.setIfInBounds j true).getD k true = false →
     (∀ e ∈ ok.after, Region.binds md e = true → e.on ≠ i) → oi.apart ops ok = true := fun k ok hk hki hun hno => by
    refine hfree k ok hk hki ?_ hno
    by_cases hjk : j = k
    ·subst hjk; exact hjun
    ·rw [getD_set_ne true hjk] at hun; exact hun
   refine wpOp_mono (fun a' w' h3 => ?_) h2
   have hC : quiet st (listed.setIfInBounds j true) = true → C w' := fun q => h3.2.1 (by
    rw [Array.setIfInBounds_comm _ _ (Ne.symm hji)]
    exact quiet_set q his)
   refine ⟨hC, ih (listed.setIfInBounds j true) a' w' hfree' (ready_mono hr (Ne.symm hji)) h3.1 hC ?_⟩
   rw [Array.setIfInBounds_comm _ _ hji]
   exact h3.2.2
theorem wpAnyP_take {i : Nat} {oi : Oper} {v : Value} {fuel : Nat} {listed : Array Bool} {a : Act} {w : World} (B : List Nat) (hi : ops[i]? = some oi)
  (hs : Region.noSelect ops = true) (hf : Region.free md ops listed i = true) (hr : (Region.ready md ops listed).contains i = true)
  (hb : (waits md ops B i && quiet B listed && st.all (B.contains ·) && !B.contains i) = true)
  (hQ : ∀ c a w, Q (.panic c) (a.put oi.dst v) w → Q (.panic c) a w) (hy : YieldsIf P ops C oi v a) (hS : C w)
  (h : wpAnyP P md ops Q C st fuel (listed.setIfInBounds i true) (a.put oi.dst v) w) : wpAnyP P md ops Q C st (fuel + 1) listed a w := by
 simp only [Bool.and_eq_true, Bool.not_eq_true'] at hb
 obtain ⟨⟨⟨h1, h2⟩, h3⟩, h4⟩ := hb
 exact wpAnyP_first hi (Region.noSelect_spec hs) hQ B h1 (fun j hj => by simpa using List.all_eq_true.1 h3 j hj) (by simpa using h4) fuel listed a w (Region.free_spec hi hf) (by simpa using hr) h2 hy hS h
theorem wpAnyP_takeY {i : Nat} {oi : Oper} {v : Value} {fuel : Nat} {listed : Array Bool} {a : Act} {w : World} (hi : ops[i]? = some oi)
  (hs : Region.noSelect ops = true) (hf : Region.free md ops listed i = true) (hr : (Region.ready md ops listed).contains i = true)
  (hb : st.contains i = false)
  (hQ : ∀ c a w, Q (.panic c) (a.put oi.dst v) w → Q (.panic c) a w) (hy : Yields P ops oi v a) (hS : quiet st listed = true → C w)
  (h : wpAnyP P md ops Q C st fuel (listed.setIfInBounds i true) (a.put oi.dst v) w) : wpAnyP P md ops Q C st (fuel + 1) listed a w :=
 wpAnyP_firstY hi (Region.noSelect_spec hs) hQ (by simpa using hb) fuel listed a w (Region.free_spec hi hf) (by simpa using hr) hy hS h
theorem wpAnyP_done {listed : Array Bool} {a : Act} {w : World} (hr : Region.ready md ops listed = []) (h : Q .normal a w) :
  ∀ fuel, wpAnyP P md ops Q C st fuel listed a w
 | 0 => ⟨hr, h⟩
 | _ + 1 => ⟨fun _ => h, by rw [hr]; simp⟩
def AllReadyP (P : Program) (md : Region.Mode) (ops : Array Oper) (Q : Exit → Act → World → Prop) (C : World → Prop) (st : List Nat) (fuel : Nat) (listed : Array Bool) (a : Act) (w : World) (rs : List Nat) : Prop :=
 ∀ i ∈ rs, wpOp P ops Q i (fun a' w' => (quiet st (listed.setIfInBounds i true) = true → C w') ∧ wpAnyP P md ops Q C st fuel (listed.setIfInBounds i true) a' w') a w
theorem AllReadyP.nil {fuel : Nat} {listed : Array Bool} {a : Act} {w : World} : AllReadyP P md ops Q C st fuel listed a w [] := fun _ h => by cases h
theorem AllReadyP.cons {fuel : Nat} {listed : Array Bool} {a : Act} {w : World} {i : Nat} {o : Oper} {rs : List Nat} (ho : ops[i]? = some o)
  (h : ∀ K' : Act → World → Prop, Shut (∀ a w, (quiet st (listed.setIfInBounds i true) = true → C w) → wpAnyP P md ops Q C st fuel (listed.setIfInBounds i true) a w → K' a w) → if Region.wanted o (yielded ops a.tmps) = true then Oper.wp P o a w K' Q else K' (a.put o.dst undef) w)
  (hs : AllReadyP P md ops Q C st fuel listed a w rs) : AllReadyP P md ops Q C st fuel listed a w (i :: rs) := fun j hj => by
 rcases List.mem_cons.1 hj with rfl | hj
 ·exact wpOp_step ho (fun K' hK => h K' (fun a w hS hW => hK a w ⟨hS, hW⟩))
 ·exact hs j hj
theorem wpAnyP_ready (rs : List Nat) {fuel : Nat} {listed : Array Bool} {a : Act} {w : World} (hr : Region.ready md ops listed = rs) (hne : rs ≠ [])
  (h : AllReadyP P md ops Q C st fuel listed a w rs) : wpAnyP P md ops Q C st (fuel + 1) listed a w :=
 ⟨fun h0 => absurd (hr ▸ h0) hne, hr ▸ h⟩
theorem wpAnyP_load (i : Nat) (B : List Nat) (dst : Option Tmp) (v : Value) {op : Op} {ty : TypeId} {pos : String} {after : Array Edge} {fuel : Nat} {listed : Array Bool} {a : Act} {w : World} (hi : ops[i]? = some ⟨dst, op, ty, pos, after, none⟩)
  (hs : Region.noSelect ops = true) (hf : Region.free md ops listed i = true) (hr : (Region.ready md ops listed).contains i = true)
  (hb : (waits md ops B i && quiet B listed && st.all (B.contains ·) && !B.contains i) = true)
  (hQ : ∀ c a w, Q (.panic c) (a.put dst v) w → Q (.panic c) a w) (hy : ∀ w, C w → (execOp a.eval ⟨dst, op, ty, pos, after, none⟩).run P w = .ok (.value v) w) (hS : C w)
  (h : wpAnyP P md ops Q C st fuel (listed.setIfInBounds i true) (a.put dst v) w) : wpAnyP P md ops Q C st (fuel + 1) listed a w :=
 wpAnyP_take B hi hs hf hr hb hQ (.inl ⟨rfl, hy⟩) hS h
theorem wpAnyP_plain (i : Nat) (dst : Option Tmp) (v : Value) {op : Op} {ty : TypeId} {pos : String} {after : Array Edge} {fuel : Nat} {listed : Array Bool} {a : Act} {w : World} (hi : ops[i]? = some ⟨dst, op, ty, pos, after, none⟩)
  (hs : Region.noSelect ops = true) (hf : Region.free md ops listed i = true) (hr : (Region.ready md ops listed).contains i = true)
  (hb : st.contains i = false)
  (hQ : ∀ c a w, Q (.panic c) (a.put dst v) w → Q (.panic c) a w) (hy : ∀ w, (execOp a.eval ⟨dst, op, ty, pos, after, none⟩).run P w = .ok (.value v) w) (hS : quiet st listed = true → C w)
  (h : wpAnyP P md ops Q C st fuel (listed.setIfInBounds i true) (a.put dst v) w) : wpAnyP P md ops Q C st (fuel + 1) listed a w :=
 wpAnyP_takeY hi hs hf hr hb hQ (.inl ⟨rfl, hy⟩) hS h
theorem quiet_no {p : Prop} {l : Array Bool} (q : quiet st l = true) (h : quiet st l = false) : p := by rw [h] at q; cases q
theorem wp_region_quiet (C : World → Prop) (st : List Nat) {id : Nat} {a : Act} {w : World} (hm : P.follows .mixedOrders = true)
  (h : wpAnyP P .any ops Q C st ops.size (Array.replicate ops.size false) a w.drew) : (Code.region id ops true).wp P Q a w :=
 wp_region_any hm (wpAny_of_quiet _ _ _ _ h)
theorem step_append_own_at {o : Oper} {a : Act} {w : World} {K : Act → World → Prop} {E : Prop} (hgd : o.guard = none) (s x : Operand) (t : TypeId)
  (ho : o.op = .call { callee := .builtin .append, args := #[s, x], argTypes := #[t, t] })
  (base : Nat) (e : TypeId) (i : TypeInfo) (z : Value) (size bytes : Nat) (ht : P.underlying t = some (.slice e)) (hi : P.info? e = some i) (hz : i.zero = some z)
  (hsize : i.size = size) (hby : i.bytes = bytes) (hzs : z.cells.size = size) (hsz : 0 < size)
  (v : Value) (n : Nat) (xs : List Value) (hs : a.eval s = v) (hown : w.ownsRow base e size v n xs)
  (ad : Addr) (m c : Nat) (news : List Value) (hx : a.eval x = .slice (some ad) m c) (hl : news.length = m * size) (hnews : ∀ j u, news[j]? = some u → w.cell? (ad.add j) = some u) (h1 : ∀ u ∈ news, u.oneCell' = true)
  (h63 : n + m ≤ maxLen) (hbytes : (n + m) * bytes ≤ 140737488355328) (hbase : base ≤ w.heap.size)
  (h : ∀ v' w', w'.ownsRow base e size v' (n + m) (xs ++ news) → w.grownBy w' v.ownBlock → (v'.ownBlock = v.ownBlock ∨ v'.ownBlock = some w.heap.size) → K (a.put o.dst v') w') :
  if Region.wanted o (yielded ops a.tmps) = true then Oper.wp P o a w K Q else E := by
 have hw : Region.wanted o (yielded ops a.tmps) = true := by simp [Region.wanted, hgd]
 rw [if_pos hw]
 obtain ⟨v', w', hr, h2, h3, _, h5⟩ := run_append_own_at (P := P) w base t o.type e i z size bytes ht hi hz hsize hby hzs hsz v n xs hown ad m c news hl hnews h1 h63 hbytes hbase
 unfold Oper.wp execOp
 simp only [ho, resolve, invoke, builtin, Sem.run_bind, Sem.run_pure, Result.andThen_ok, List.map_toArray, List.map_cons, List.map_nil, hs, hx, hr]
 exact h v' w' h2 h3 h5
end
end Go.Proofs.YtjekbomlpcdojaaGreatDoor
