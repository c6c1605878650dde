import Derived.Test.Qxb6604686aM2
namespace Go.Proofs.Qxb6604686a
open Go.ChangeShapes Go.WideShapes Go.ChangeAt Go.RowKit
set_option linter.unusedVariables false

theorem make91 (n : Nat) (hn : n ≤ 1048576) (w : World) : (Instr.makeSlice 91 (.int .i64 (n : Int)) (.int .i64 (n : Int))).run Try.prog w = .ok (.slice (some ⟨w.heap.size, 0, none⟩) n n) (w.alloc (.cells (List.replicate n (.bool false)).toArray 4)) :=
  make_any w 91 4 (.bool false) 1 Try.underlying91 (by kernel_rfl) rfl (by decide) n hn

/-- What the model reads. -/
structure Md (w : World) (m : SpD) : Prop where
  held : Ws Any w m.aH m.held
  revoke : Rs Any w m.aR m.revoke
  assign : As Any w m.aS m.assign
  js : Rs Any w m.aJ m.js
  es : Es Any w m.aE m.es
  broken : Is Any w m.aB m.broken
theorem Md.keep {w w' : World} {m : SpD} (h : Md w m) (k : Below w.heap.size w w') : Md w' m :=
  ⟨h.held.keep (keepsB k _), h.revoke.keep (keepsB k _), h.assign.keep (keepsB k _), h.js.keep (keepsB k _), h.es.keep (keepsB k _), h.broken.keep (keepsB k _)⟩

theorem OwnI.pop {w : World} {base : Nat} {a : Option Addr} {cap : Nat} {xs : List Int} {y : Int} (h : OwnI w base ⟨a, cap, xs ++ [y]⟩) : OwnI w base ⟨a, cap, xs⟩ := by
  obtain ⟨h1, h2⟩ := h
  refine ⟨by simp, ?_⟩
  rcases h2 with ⟨_, h2⟩ | ⟨g, c, cur, hv, hb, hg, hn, hc, hs, ht⟩
  · simp at h2
  · refine .inr ⟨g, c, cur, ?_, hb, hg, ?_, hc, hs, ?_⟩
    · simp only [IRow.val, Value.slice.injEq] at hv ⊢
      exact ⟨hv.1, trivial, hv.2.2⟩
    · simp only [List.length_append, List.length_singleton] at hn
      dsimp only; omega
    · have := congrArg (List.take xs.length) ht
      simp only [List.length_append, List.length_singleton, Nat.mul_one, List.take_take, List.map_append] at this
      rw [Nat.min_eq_left (by omega)] at this
      dsimp only
      rw [Nat.mul_one, this]
      rw [List.take_left' (by simp)]
theorem OwnI.cap {w : World} {base : Nat} {r : IRow} (h : OwnI w base r) : r.xs.length ≤ r.cap := by
  obtain ⟨h1, h2⟩ := h
  rcases h2 with ⟨h2, h3⟩ | ⟨g, c, cur, hv, hb, hg, hn, hc, hs, ht⟩
  · omega
  · simp only [IRow.val, Value.slice.injEq] at hv
    rw [hv.2.2]; exact hn

/-- The state of the search. -/
structure Srch (J : Nat → List Int) (n r bF : Nat) (w wr : World) (fs : List Bool) (td : IRow) (c : Nat) (ex : Option Nat) : Prop where
  stk : Stk J n r fs td.xs c ex
  blk : Blk wr bF 4 (fs.map Value.bool)
  own : OwnI wr (bF + 1) td
  bel : Below w.heap.size w wr
  low : w.heap.size ≤ bF

/-- A role counts: flagged, or authorized. -/
def Qm (fs : List Bool) (au : List Nat) (y : Int) : Bool := fs.getD y.toNat false || bit au y.toNat
def cq (fs : List Bool) (au : List Nat) (xs : List Int) (k : Nat) : Nat := ((xs.take k).filter (Qm fs au)).length
theorem cq_succ {fs : List Bool} {au : List Nat} {xs : List Int} {k : Nat} {y : Int} (hy : xs[k]? = some y) : cq fs au xs (k + 1) = cq fs au xs k + if Qm fs au y then 1 else 0 := by
  unfold cq
  rw [List.take_add_one, hy]
  simp only [Option.toList_some, List.filter_append, List.length_append]
  congr 1
  cases h : Qm fs au y <;> simp [h]
theorem cq_le (fs : List Bool) (au : List Nat) (xs : List Int) (k : Nat) : cq fs au xs k ≤ xs.length := by
  unfold cq
  exact Nat.le_trans (List.length_filter_le _ _) (by rw [List.length_take]; omega)
theorem cq_all {fs : List Bool} {au : List Nat} {xs : List Int} {k : Nat} (hk : xs.length ≤ k) : cq fs au xs k = (xs.filter (Qm fs au)).length := by
  unfold cq; rw [List.take_of_length_le hk]
theorem getD_flag {fs : List Bool} {b : Nat} : fs.getD b false = true ↔ fs[b]? = some true := by
  rw [List.getD_eq_getElem?_getD]
  cases fs[b]? with
  | none => simp
  | some v => simp

/-- Relevant so far: the first k roles looked at. -/
def RelTo (fs : List Bool) (au : List Nat) (xs : List Int) (b0 : Bool) (k : Nat) : Prop := b0 = true ∨ ∃ (p b : Nat), p < k ∧ xs[p]? = some (b : Int) ∧ fs[b]? = some true ∧ bit au b = false
theorem RelTo.succ {fs : List Bool} {au : List Nat} {xs : List Int} {b0 : Bool} {k t : Nat} (ht : xs[k]? = some (t : Int)) : RelTo fs au xs b0 (k + 1) ↔ RelTo fs au xs b0 k ∨ (fs[t]? = some true ∧ bit au t = false) := by
  constructor
  · rintro (h | ⟨p, b, hp, hx, hf, ha⟩)
    · exact .inl (.inl h)
    · by_cases hpk : p = k
      · subst hpk
        rw [ht] at hx
        have : b = t := by injection hx; omega
        subst this
        exact .inr ⟨hf, ha⟩
      · exact .inl (.inr ⟨p, b, by omega, hx, hf, ha⟩)
  · rintro ((h | ⟨p, b, hp, hx, hf, ha⟩) | ⟨hf, ha⟩)
    · exact .inl h
    · exact .inr ⟨p, b, by omega, hx, hf, ha⟩
    · exact .inr ⟨k, t, by omega, ht, hf, ha⟩

def RelB (fs : List Bool) (au : List Nat) (xs : List Int) (b0 : Bool) (k : Nat) (b : Bool) : Prop := b = true ↔ RelTo fs au xs b0 k
theorem RelB.start (fs : List Bool) (au : List Nat) (xs : List Int) (b0 : Bool) : RelB fs au xs b0 0 b0 := ⟨.inl, fun h => h.elim id fun ⟨p, _, hp, _⟩ => by omega⟩
theorem RelB.yes {fs : List Bool} {au : List Nat} {xs : List Int} {b0 : Bool} {k t : Nat} (ht : xs[k]? = some (t : Int)) (h1 : fs[t]? = some true) (h2 : bit au t = false) : RelB fs au xs b0 (k + 1) true := ⟨fun _ => (RelTo.succ ht).2 (.inr ⟨h1, h2⟩), fun _ => rfl⟩
theorem RelB.no {fs : List Bool} {au : List Nat} {xs : List Int} {b0 : Bool} {k t : Nat} {b : Bool} (h : RelB fs au xs b0 k b) (ht : xs[k]? = some (t : Int)) (h1 : ¬ (fs[t]? = some true ∧ bit au t = false)) : RelB fs au xs b0 (k + 1) b :=
  h.trans ⟨fun h => (RelTo.succ ht).2 (.inl h), fun h => ((RelTo.succ ht).1 h).resolve_right h1⟩

/-- Constraint k is relevant, and broken. -/
def Bad (J : Nat → List Int) (r : Nat) (au : List Nat) (broken : List Int) (k : Nat) (ex : Excl) : Prop :=
  ((k : Int) ∈ broken ∨ ∃ b : Nat, (b : Int) ∈ ex.roles.xs ∧ Reach J r b ∧ bit au b = false) ∧ AtLeast (fun y => bit au y.toNat = true ∨ Reach J r y.toNat) ex.roles.xs ex.limit
theorem bad_iff {J : Nat → List Int} {r : Nat} {au : List Nat} {broken : List Int} {k : Nat} {ex : Excl} {fs : List Bool} {b0 : Bool} (hf : ∀ b, fs[b]? = some true ↔ Reach J r b) (h0 : b0 = true ↔ (k : Int) ∈ broken) (hx : ∀ y ∈ ex.roles.xs, 0 ≤ y) :
    Bad J r au broken k ex ↔ RelTo fs au ex.roles.xs b0 ex.roles.xs.length ∧ ex.limit ≤ (cq fs au ex.roles.xs ex.roles.xs.length : Int) := by
  unfold Bad
  rw [AtLeast.iff (Qm fs au) (fun y hy => by unfold Qm; rw [Bool.or_eq_true, getD_flag, hf, Or.comm]), cq_all (Nat.le_refl _)]
  refine and_congr_left fun _ => ?_
  unfold RelTo
  rw [h0]
  refine or_congr_right ⟨?_, ?_⟩
  · rintro ⟨b, hm, hR, ha⟩
    obtain ⟨p, hp⟩ := List.getElem?_of_mem hm
    exact ⟨p, b, (List.getElem?_eq_some_iff.1 hp).1, hp, (hf b).2 hR, ha⟩
  · rintro ⟨p, b, _, hp, hfl, ha⟩
    exact ⟨b, List.mem_of_getElem? hp, (hf b).1 hfl, ha⟩

/-- The flags of the constraints broken from the start. -/
def BrkTo (bs : List Bool) (broken : List Int) (k : Nat) : Prop := ∀ q : Nat, bs[q]? = some true ↔ ∃ p, p < k ∧ broken[p]? = some (q : Int)
theorem BrkTo.start (n : Nat) (broken : List Int) : BrkTo (List.replicate n false) broken 0 := fun q => by
  constructor
  · intro h; simp [List.getElem?_replicate] at h
  · rintro ⟨p, hp, _⟩; omega
theorem BrkTo.succ {bs : List Bool} {broken : List Int} {k t : Nat} (h : BrkTo bs broken k) (ht : broken[k]? = some (t : Int)) (hl : t < bs.length) : BrkTo (bs.set t true) broken (k + 1) := fun q => by
  rw [flag_set hl, h q]
  constructor
  · rintro (rfl | ⟨p, hp, hq⟩)
    · exact ⟨k, by omega, ht⟩
    · exact ⟨p, by omega, hq⟩
  · rintro ⟨p, hp, hq⟩
    by_cases hpk : p = k
    · subst hpk
      rw [ht] at hq
      injection hq
      exact .inl (by omega)
    · exact .inr ⟨p, by omega, hq⟩
theorem BrkTo.all {bs : List Bool} {broken : List Int} {k : Nat} (h : BrkTo bs broken k) (hk : broken.length ≤ k) (q : Nat) : bs[q]? = some true ↔ (q : Int) ∈ broken := by
  rw [h q]
  constructor
  · rintro ⟨p, _, hp⟩; exact List.mem_of_getElem? hp
  · intro hm
    obtain ⟨p, hp⟩ := List.getElem?_of_mem hm
    exact ⟨p, by have := (List.getElem?_eq_some_iff.1 hp).1; omega, hp⟩

/-- The rules, as the model asks. -/
theorem serves_bits {n N : Nat} {m : SpD} {au : List Nat} (ok : SpOk n N m) (hauN : au.length = N) {w : World} (M : Md w m) (hwi : ∀ row ∈ m.assign, ∀ x ∈ row.xs, Within n x.req.xs ∧ Within n x.forb.xs) {r : Nat} {row : LRow} (hrow : m.assign[r]? = some row) {x : Rule} (hx : x ∈ row.xs) :
    Serves m.held au x ↔ bit m.held x.admin.toNat = true ∧ BitsTo n au x.req.xs x.forb.xs := by
  have hR := (ok.assignIn row (List.mem_of_getElem? hrow)).2 x hx
  obtain ⟨i, hi⟩ := List.getElem?_of_mem hx
  obtain ⟨_, h1, h2⟩ := (M.assign r row hrow).2 i x hi
  have hw := hwi row (List.mem_of_getElem? hrow) x hx
  unfold Serves
  rw [hauN, cond_bits ok.words hR.req hR.forb hauN h1.word h2.word hw.1 hw.2]

end Go.Proofs.Qxb6604686a
