/-
  A region that draws its order, whose LAST operation (number c) writes a cell that an earlier one of the same region reads ('x.f = g(x.f)'): Derived/OrdersHeld.lean's law, with S owed behind every operation BUT c, for operations that c itself waits for.
-/
import Derived.Deep.RegionHeld3
namespace Go.Proofs.Qxb6604686a
section
variable {P : Program} {ops : Array Oper} {Q : Exit → Act → World → Prop} {md : Region.Mode} {S : World → Prop} {c : Nat}

/-- Does number c wait for number i, by an edge of its own? -/
def waits (md : Region.Mode) (ops : Array Oper) (c i : Nat) : Bool :=
  match ops[c]? with
  | some oc => oc.after.any fun e => Region.binds md e && e.on == i
  | none => false

/-- Whatever order is picked from here on, and S holds behind every operation that is carried out, but for c. -/
def wpAnyB (P : Program) (md : Region.Mode) (ops : Array Oper) (Q : Exit → Act → World → Prop) (S : World → Prop) (c : Nat) : Nat → Array Bool → Act → World → Prop
  | 0, listed, a, w => Region.ready md ops listed = [] ∧ Q .normal a w
  | fuel + 1, listed, a, w =>
    (Region.ready md ops listed = [] → Q .normal a w) ∧
    ∀ i ∈ Region.ready md ops listed, wpOp P ops Q i (fun a' w' => (i = c ∨ S w') ∧ wpAnyB P md ops Q S c fuel (listed.setIfInBounds i true) a' w') a w

theorem wpAny_of_but : ∀ (fuel : Nat) (listed : Array Bool) (a : Act) (w : World), wpAnyB P md ops Q S c fuel listed a w → wpAny P md ops Q fuel listed a w
  | 0, _, _, _, h => h
  | fuel + 1, _, _, _, h => ⟨h.1, fun i hi => wpOp_mono (fun a' w' h' => wpAny_of_but fuel _ a' w' h'.2) (h.2 i hi)⟩

theorem wpAnyB_first {i : Nat} {oi : Oper} {v : Value} (hi : ops[i]? = some oi) (hsel : ∀ (j : Nat) (o : Oper) cs b, ops[j]? = some o → o.op ≠ .select cs b)
    (hQ : ∀ c a w, Q (.panic c) (a.put oi.dst v) w → Q (.panic c) a w) (hc : waits md ops c i = true) :
    ∀ (fuel : Nat) (listed : Array Bool) (a : Act) (w : World),
      (∀ j oj, ops[j]? = some oj → j ≠ i → listed.getD j true = false → (∀ e ∈ oj.after, Region.binds md e = true → e.on ≠ i) → oi.apart ops oj = true) →
      i ∈ Region.ready md ops listed → YieldsIf P ops S oi v a → S w →
      wpAnyB P md ops Q S c fuel (listed.setIfInBounds i true) (a.put oi.dst v) w → wpAnyB P md ops Q S c (fuel + 1) listed a w := by
  have hnc : ∀ oj, ops[c]? = some oj → ¬ ∀ e ∈ oj.after, Region.binds md e = true → e.on ≠ i := fun oj hoj hall => by
    unfold waits at hc
    rw [hoj] at hc
    replace hc : (oj.after.any fun e => Region.binds md e && e.on == i) = true := hc
    rw [← Array.any_toList] at hc
    obtain ⟨e, he, h2⟩ := List.any_eq_true.1 hc
    rw [Bool.and_eq_true, beq_iff_eq] at h2
    exact hall e (Array.mem_toList_iff.1 he) h2.1 h2.2
  intro fuel
  induction fuel with
  | zero =>
    intro listed a w _ hr hy hS H
    refine ⟨fun h => (by rw [h] at hr; cases hr), fun j hj => ?_⟩
    by_cases hji : j = i
    · subst hji; exact hy.wpOp hi hS ⟨.inr hS, H⟩
    · have := ready_mono hj hji
      rw [H.1] at this
      cases this
  | succ fuel ih =>
    intro listed a w hfree hr hy hS H
    refine ⟨fun h => (by rw [h] at hr; cases hr), fun j hj => ?_⟩
    by_cases hji : j = i
    · subst hji; exact hy.wpOp hi hS ⟨.inr hS, H⟩
    · have h1 := H.2 j (ready_mono hj hji)
      obtain ⟨hjun, oj, hoj, hall⟩ := mem_ready.1 hj
      have hnot : ∀ e ∈ oj.after, Region.binds md e = true → e.on ≠ i := fun e he hb heq => by
        have h1 := hall e he hb
        have h0 := (mem_ready.1 hr).1
        rw [heq] at h1
        rcases Nat.lt_or_ge i listed.size with h' | h'
        · simp [h'] at h0 h1; rw [h0] at h1; cases h1
        · simp [Array.getElem?_eq_none h'] at h1
      have hjc : j ≠ c := fun e => hnc oj (e ▸ hoj) hnot
      have h2 := wpOp_putIf hoj (hfree j oj hoj hji hjun hnot) (fun cs b => hsel i oi cs b hi) (fun cs b => hsel j oj cs b hoj) hQ hy h1
      have hfree' : ∀ k ok, ops[k]? = some ok → k ≠ i → (listed.setIfInBounds j true).getD k true = false →
          (∀ e ∈ ok.after, Region.binds md e = true → e.on ≠ i) → oi.apart ops ok = true := fun k ok hk hki hun hno => by
        refine hfree k ok hk hki ?_ hno
        by_cases hjk : j = k
        · subst hjk; exact hjun
        · rw [getD_set_ne true hjk] at hun; exact hun
      refine wpOp_mono (fun a' w' h3 => ?_) h2
      have hS' : S w' := h3.2.1.resolve_left hjc
      refine ⟨.inr hS', ih (listed.setIfInBounds j true) a' w' hfree' (ready_mono hr (Ne.symm hji)) h3.1 hS' ?_⟩
      rw [Array.setIfInBounds_comm _ _ hji]
      exact h3.2.2

theorem wpAnyB_take {i : Nat} {oi : Oper} {v : Value} {fuel : Nat} {listed : Array Bool} {a : Act} {w : World} (hi : ops[i]? = some oi)
    (hs : Region.noSelect ops = true) (hf : Region.free md ops listed i = true) (hr : (Region.ready md ops listed).contains i = true) (hc : waits md ops c i = true)
    (hQ : ∀ c a w, Q (.panic c) (a.put oi.dst v) w → Q (.panic c) a w) (hy : YieldsIf P ops S oi v a) (hS : S w)
    (h : wpAnyB P md ops Q S c fuel (listed.setIfInBounds i true) (a.put oi.dst v) w) : wpAnyB P md ops Q S c (fuel + 1) listed a w :=
  wpAnyB_first hi (Region.noSelect_spec hs) hQ hc fuel listed a w (Region.free_spec hi hf) (by simpa using hr) hy hS h

/-- The same, the slot written out. -/
theorem wpAnyB_slot {i dd : Nat} {oi : Oper} {v : Value} {fuel : Nat} {listed : Array Bool} {tmps : Array Value} {defers : List Deferred} {w : World} (hi : ops[i]? = some oi) (hd : oi.dst = some dd)
    (hs : Region.noSelect ops = true) (hf : Region.free md ops listed i = true) (hr : (Region.ready md ops listed).contains i = true) (hc : waits md ops c i = true)
    (hQ : ∀ c a w, Q (.panic c) (a.put oi.dst v) w → Q (.panic c) a w) (hwa : Region.wanted oi (yielded ops tmps) = true) (hy : ∀ w, S w → (execOp (Act.eval ⟨tmps, defers⟩) oi).run P w = .ok (.value v) w) (hS : S w)
    (h : wpAnyB P md ops Q S c fuel (listed.setIfInBounds i true) ⟨tmps.setIfInBounds dd v, defers⟩ w) : wpAnyB P md ops Q S c (fuel + 1) listed ⟨tmps, defers⟩ w := by
  refine wpAnyB_take hi hs hf hr hc hQ (.inl ⟨hwa, hy⟩) hS ?_
  rw [hd]
  exact h

/-- One alone may come up, and it is not c. -/
theorem wpAnyB_one {i : Nat} {o : Oper} {fuel : Nat} {listed : Array Bool} {a : Act} {w : World} (hr : Region.ready md ops listed = [i]) (ho : ops[i]? = some o)
    (h : ∀ K' : Act → World → Prop, Shut (∀ a w, S w → (S w → wpAnyB P md ops Q S c fuel (listed.setIfInBounds i true) a w) → K' a w) → if Region.wanted o (yielded ops a.tmps) = true then Oper.wp P o a w K' Q else K' (a.put o.dst undef) w) : wpAnyB P md ops Q S c (fuel + 1) listed a w := by
  refine ⟨fun h0 => ?_, fun j hj => ?_⟩
  · rw [hr] at h0; cases h0
  · rw [hr] at hj
    obtain rfl := List.mem_singleton.1 hj
    exact wpOp_step ho (fun K' hK => h K' (fun a w hS hW => hK a w ⟨.inr hS, hW hS⟩))

/-- c alone may come up, and behind it nothing. -/
theorem wpAnyB_last {o : Oper} {fuel : Nat} {listed : Array Bool} {a : Act} {w : World} (hr : Region.ready md ops listed = [c]) (hl : Region.ready md ops (listed.setIfInBounds c true) = []) (ho : ops[c]? = some o)
    (h : ∀ K' : Act → World → Prop, Shut (∀ a w, Q .normal a w → K' a w) → if Region.wanted o (yielded ops a.tmps) = true then Oper.wp P o a w K' Q else K' (a.put o.dst undef) w) : wpAnyB P md ops Q S c (fuel + 1) listed a w := by
  refine ⟨fun h0 => ?_, fun j hj => ?_⟩
  · rw [hr] at h0; cases h0
  · rw [hr] at hj
    obtain rfl := List.mem_singleton.1 hj
    refine wpOp_step ho (fun K' hK => h K' (fun a w hq => hK a w ⟨.inl rfl, ?_⟩))
    cases fuel with
    | zero => exact ⟨hl, hq⟩
    | succ f => exact ⟨fun _ => hq, by rw [hl]; simp⟩

theorem wp_region_but {id : Nat} {a : Act} {w : World} (c : Nat) (hm : P.follows .mixedOrders = true) (hS : S w.drew)
    (h : S w.drew → wpAnyB P .any ops Q S c ops.size (Array.replicate ops.size false) a w.drew) : (Code.region id ops true).wp P Q a w :=
  wp_region_any hm (wpAny_of_but _ _ _ _ (h hS))
end
end Go.Proofs.Qxb6604686a
