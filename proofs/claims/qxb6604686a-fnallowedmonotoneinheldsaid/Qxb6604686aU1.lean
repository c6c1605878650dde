import Derived.Test.Qxb6604686aF5
import Derived.Test.Qxb6604686aW16
import Derived.Test.Qxb6604686aW4
namespace Go.Proofs.Qxb6604686a
open Go.ChangeShapes Go.WideShapes Go.ChangeAt Go.RowKit
set_option linter.unusedVariables false

/-! ### What a copy holds -/
theorem map_len {α β : Type} {f : α → β} {xs ys : List α} (h : xs.map f = ys.map f) : xs.length = ys.length := by
  have := congrArg List.length h
  simpa using this
theorem map_all {α β : Type} {f : α → β} {xs ys : List α} (h : xs.map f = ys.map f) (P : β → Prop) (hy : ∀ y ∈ ys, P (f y)) : ∀ x ∈ xs, P (f x) := fun x hx => by
  have h1 : f x ∈ xs.map f := List.mem_map_of_mem hx
  rw [h] at h1
  obtain ⟨y, hy', e⟩ := List.mem_map.1 h1
  rw [← e]; exact hy y hy'
theorem jun_map (js : List IRow) (i : Nat) : jun js i = ((js.map IRow.xs)[i]?).getD [] := by
  unfold jun
  rw [List.getElem?_map]
  cases js[i]? <;> rfl
theorem jun_eq {js js0 : List IRow} (h : js.map IRow.xs = js0.map IRow.xs) : jun js = jun js0 := funext fun i => by rw [jun_map, jun_map, h]

/-- What was given, as far as the law needs it. -/
structure Given (n N : Nat) (aJ0 : Option Addr) (js0 : List IRow) (au : List Nat) (revoke0 : List IRow) (assign0 : List LRow) (es0 : List Excl) (broken : List Int) : Prop where
  words : n ≤ 64 * N
  n17 : n ≤ 65536
  N17 : N ≤ 131072
  revokeL : revoke0.length = n
  assignL : assign0.length = n
  esL : es0.length ≤ 65536
  brokenL : broken.length ≤ 131072
  jsL : aJ0 = none ∨ js0.length = n
  revokeR : ∀ row ∈ revoke0, row.xs.length ≤ 131072
  assignR : ∀ row ∈ assign0, row.xs.length ≤ 131072
  jsR : ∀ row ∈ js0, row.xs.length ≤ 131072
  esR : ∀ ex ∈ es0, ex.roles.xs.length ≤ 131072
  revokeIn : ∀ row ∈ revoke0, ∀ y ∈ row.xs, InR n y
  assignIn : ∀ row ∈ assign0, ∀ x ∈ row.xs, RuleIn n N x
  jsIn : ∀ row ∈ js0, ∀ y ∈ row.xs, InR n y
  esIn : ∀ ex ∈ es0, ∀ y ∈ ex.roles.xs, InR n y
  brokenIn : ∀ y ∈ broken, InR es0.length y
  closed : aJ0 ≠ none → CloTo js0 au n
  nil : aJ0 = none → js0 = []

theorem Given.of {nH nG nU nX nS nB : Nat} {aJ0 : Option Addr} {js0 : List IRow} {au : List Nat} {revoke0 : List IRow} {assign0 : List LRow} {es0 : List Excl} {broken : List Int} {r : Int} {n nE : Nat}
    (F : Fit nH nG nU nX nB revoke0 assign0 js0 es0) (Dm : Dom n nH nG nU nS nE aJ0 js0 r au revoke0 assign0 es0 broken) (lr : revoke0.length = n) (ls : assign0.length = nS) (le : es0.length = nE) (lb : broken.length = nB) (hnil : aJ0 = none → js0 = []) : Given n nH aJ0 js0 au revoke0 assign0 es0 broken where
  words := Dm.words
  n17 := by rw [← lr]; exact F.revokeL
  N17 := F.held
  revokeL := lr
  assignL := ls.trans Dm.eS
  esL := F.esL
  brokenL := by rw [lb]; exact F.broken
  jsL := Dm.jsL
  revokeR := all_of (P := fun y : IRow => y.xs.length ≤ 131072) F.revoke (Nat.le_refl _)
  assignR := all_of (P := fun y : LRow => y.xs.length ≤ 131072) F.assign (Nat.le_refl _)
  jsR := all_of (P := fun y : IRow => y.xs.length ≤ 131072) F.js (Nat.le_refl _)
  esR := all_of (P := fun y : Excl => y.roles.xs.length ≤ 131072) F.es (Nat.le_refl _)
  revokeIn := Dm.revokeIn
  assignIn := Dm.assignIn
  jsIn := fun row hrow => by
    by_cases h : aJ0 = none
    · rw [hnil h] at hrow; simp at hrow
    · exact Dm.jsIn row hrow h
  esIn := Dm.esIn
  brokenIn := by rw [le]; exact Dm.brokenIn
  closed := Dm.closed
  nil := hnil

theorem Given.hier {n N : Nat} {aJ0 : Option Addr} {js0 : List IRow} {au : List Nat} {revoke0 : List IRow} {assign0 : List LRow} {es0 : List Excl} {broken : List Int} (g : Given n N aJ0 js0 au revoke0 assign0 es0 broken) {js : List IRow} (hj : js.map IRow.xs = js0.map IRow.xs) : Hier (jun js) n au := by
  rw [jun_eq hj]
  have key : ∀ (i : Nat) (y : Int), y ∈ jun js0 i → ∃ row, js0[i]? = some row ∧ y ∈ row.xs := fun i y hy => by
    unfold jun at hy
    cases hc : js0[i]? with
    | none => rw [hc] at hy; simp at hy
    | some row => rw [hc] at hy; exact ⟨row, rfl, hy⟩
  refine ⟨fun i y hy => ?_, fun i j hi hb hj => ?_⟩
  · obtain ⟨row, hrow, hy⟩ := key i y hy
    exact g.jsIn row (List.mem_of_getElem? hrow) y hy
  · obtain ⟨row, hrow, hy⟩ := key i _ hj
    have hne : aJ0 ≠ none := fun e => by rw [g.nil e] at hrow; simp at hrow
    have := g.closed hne i row hi hrow hb _ hy
    simpa using this

theorem Given.ok {n N : Nat} {aJ0 : Option Addr} {js0 : List IRow} {au : List Nat} {revoke0 : List IRow} {assign0 : List LRow} {es0 : List Excl} {broken : List Int} (g : Given n N aJ0 js0 au revoke0 assign0 es0 broken) {d : SpD}
    (h1 : d.held.length = N) (hr : d.revoke.map IRow.xs = revoke0.map IRow.xs) (hs : d.assign.map LRow.data = assign0.map LRow.data) (hj : d.js.map IRow.xs = js0.map IRow.xs) (hjn : d.aJ = none ↔ aJ0 = none) (he : d.es.map Excl.data = es0.map Excl.data) (hl : d.listing.length = n) (hL : Lst d.es d.es.length 0 d.listing) (hb : d.broken = broken) : SpOk n N d where
  words := g.words
  n17 := Nat.le_trans g.n17 (by decide)
  N17 := g.N17
  held := h1
  revoke := (map_len hr).trans g.revokeL
  revokeIn := map_all hr (fun xs => xs.length ≤ 131072 ∧ ∀ y ∈ xs, 0 ≤ y ∧ y < (n : Int)) fun y hy => ⟨g.revokeR y hy, g.revokeIn y hy⟩
  assign := (map_len hs).trans g.assignL
  assignIn := fun row hrow => by
    have h := map_all hs (fun xs => xs.length ≤ 131072 ∧ ∀ x ∈ xs, InR n x.1 ∧ x.2.1.length = N ∧ x.2.2.length = N) (fun y hy => ⟨by unfold LRow.data; rw [List.length_map]; exact g.assignR y hy, fun x hx => by
      obtain ⟨ru, hru, rfl⟩ := List.mem_map.1 hx
      have := g.assignIn y hy ru hru
      exact ⟨this.admin, this.req, this.forb⟩⟩) row hrow
    refine ⟨by have := h.1; unfold LRow.data at this; rwa [List.length_map] at this, fun x hx => ?_⟩
    obtain ⟨h2, h3, h4⟩ := h.2 x.data (List.mem_map_of_mem hx)
    have hw := g.words
    exact ⟨h2.1, by have h5 := h2.1; have h6 := h2.2; unfold Rule.data at h5 h6; dsimp only at h5 h6; omega, h3, h4⟩
  js := by
    rcases g.jsL with h | h
    · exact .inl (hjn.2 h)
    · exact .inr ((map_len hj).trans h)
  jsIn := map_all hj (fun xs => xs.length ≤ 131072 ∧ ∀ y ∈ xs, 0 ≤ y ∧ y < (n : Int)) fun y hy => ⟨g.jsR y hy, g.jsIn y hy⟩
  es := by rw [map_len he]; exact Nat.le_trans g.esL (by decide)
  esIn := map_all he (fun x => x.1.length ≤ 131072 ∧ ∀ y ∈ x.1, 0 ≤ y ∧ y < (n : Int)) fun y hy => ⟨g.esR y hy, g.esIn y hy⟩
  listing := hl
  lst := hL
  broken := by rw [hb, map_len he]; exact ⟨g.brokenL, g.brokenIn⟩

theorem Given.within {n N : Nat} {aJ0 : Option Addr} {js0 : List IRow} {au : List Nat} {revoke0 : List IRow} {assign0 : List LRow} {es0 : List Excl} {broken : List Int} (g : Given n N aJ0 js0 au revoke0 assign0 es0 broken) {assign : List LRow} (hs : assign.map LRow.data = assign0.map LRow.data) : ∀ row ∈ assign, ∀ x ∈ row.xs, Within n x.req.xs ∧ Within n x.forb.xs := fun row hrow x hx => by
  have h := map_all hs (fun xs => ∀ x ∈ xs, Within n x.2.1 ∧ Within n x.2.2) (fun y hy x hx => by
    obtain ⟨ru, hru, rfl⟩ := List.mem_map.1 hx
    have := g.assignIn y hy ru hru
    exact ⟨this.reqW, this.forbW⟩) row hrow
  exact h x.data (List.mem_map_of_mem hx)

/-- Two spaces that differ in where their rules lie. -/
theorem allowed_congr {d m : SpD} (hh : d.held = m.held) (hr : d.revoke = m.revoke) (hs : d.assign.map LRow.xs = m.assign.map LRow.xs) (hj : d.js = m.js) (he : d.es = m.es) (hb : d.broken = m.broken) (r : Nat) (asg au : List Nat) : AllowedS d r asg au ↔ AllowedS m r asg au := by
  have key : Rules d r = Rules m r := by
    have e : ∀ x : SpD, Rules x r = ((x.assign.map LRow.xs)[r]?).getD [] := fun x => by
      unfold Rules
      rw [List.getElem?_map]
      cases x.assign[r]? <;> rfl
    rw [e, e, hs]
  unfold AllowedS AssignOk
  rw [key, hh, hr, hj, he, hb]
/-- More held, more allowed. -/
theorem allowed_mono {d m : SpD} (hh : ∀ i, bit d.held i = true → bit m.held i = true) (hr : d.revoke = m.revoke) (hs : d.assign.map LRow.xs = m.assign.map LRow.xs) (hj : d.js = m.js) (he : d.es = m.es) (hb : d.broken = m.broken) (r : Nat) (asg au : List Nat) : AllowedS d r asg au → AllowedS m r asg au := by
  have key : Rules d r = Rules m r := by
    have e : ∀ x : SpD, Rules x r = ((x.assign.map LRow.xs)[r]?).getD [] := fun x => by
      unfold Rules
      rw [List.getElem?_map]
      cases x.assign[r]? <;> rfl
    rw [e, e, hs]
  unfold AllowedS AssignOk
  rw [key, hr, hj, he, hb]
  rintro (⟨h1, row, h2, y, hy, hy2⟩ | ⟨h1, ⟨x, hx, hx1, hx2⟩, h3⟩)
  · exact .inl ⟨h1, row, h2, y, hy, hh _ hy2⟩
  · exact .inr ⟨h1, ⟨x, hx, hh _ hx1, hx2⟩, h3⟩
theorem bit_or {xs ys : List Nat} (hl : ys.length = xs.length) (i : Nat) (h : bit xs i = true) : bit (List.zipWith (· ||| ·) xs ys) i = true := by
  unfold bit at *
  rw [List.getD_eq_getElem?_getD] at *
  cases hx : xs[i / 64]? with
  | none => rw [hx] at h; simp at h
  | some x =>
    have hlt := (List.getElem?_eq_some_iff.1 hx).1
    rw [List.getElem?_zipWith, hx, List.getElem?_eq_getElem (show i / 64 < ys.length by omega)]
    rw [hx] at h
    simp only [Option.getD_some] at h
    simp [Nat.testBit_or, h]
end Go.Proofs.Qxb6604686a
