/-
  The arguments, opened: from what the row reads to what the walks read.
-/
import Derived.Test.Qxb6604686aU2
import Derived.Deep.Slices
import Derived.Deep.SlicePairs
import Derived.Deep.Strs
import Derived.Carry
import Derived.ChangeSlices
namespace Go.Proofs.Qxb6604686a
open Go.ChangeShapes Go.WideShapes Go.ChangeAt Go.RowKit Go.Deep
set_option linter.unusedVariables false


theorem cells3' : Try.prog.cellsOf 3 = 1 := by kernel_rfl
theorem cells67' : Try.prog.cellsOf 67 = 1 := by kernel_rfl
theorem cells45' : Try.prog.cellsOf 45 = 1 := by kernel_rfl
theorem cells41' : Try.prog.cellsOf 41 = 1 := by kernel_rfl
theorem cells74' : Try.prog.cellsOf 74 = 1 := by kernel_rfl
theorem cells76' : Try.prog.cellsOf 76 = 3 := by kernel_rfl
theorem cells78' : Try.prog.cellsOf 78 = 2 := by kernel_rfl

/-- An address whose first cell is there is plain. -/
theorem plain_of {w : World} {a : Addr} {v : Value} (h : w.cell? (a.add 0) = some v) : a = ⟨a.block, a.off, none⟩ := by
  have := World.cell?_spot h
  obtain ⟨b, off, s⟩ := a
  simp [Addr.add] at this
  subst this
  rfl
theorem range_at {α : Type} (f : Nat → α) {n i : Nat} {x : α} (h : ((List.range n).map f)[i]? = some x) : i < n ∧ f i = x := by
  rw [List.getElem?_map, Option.map_eq_some_iff] at h
  obtain ⟨j, hj, e⟩ := h
  obtain ⟨hlt, hj'⟩ := List.getElem?_eq_some_iff.1 hj
  rw [List.length_range] at hlt
  rw [List.getElem_range] at hj'
  subst hj'
  exact ⟨hlt, e⟩
theorem word_wf {n : Int} (h : (Lit.int IntKind.u64 n).wf = true) : 0 ≤ n ∧ n.toNat < 2 ^ 64 := by
  simp only [Lit.wf, Bool.and_eq_true, decide_eq_true_eq] at h
  have h1 : (0 : Int) ≤ n := h.1
  have h2 : n ≤ 18446744073709551615 := h.2
  exact ⟨h1, by omega⟩

theorem three {l : List Value} (h : l.length = 3) : ∃ a b c, l = [a, b, c] := by
  match l, h with
  | [a, b, c], _ => exact ⟨a, b, c, rfl⟩

section
variable {H : Type} {enc : TypeId × Value → H} {w : World}

/-- []int. -/
theorem to_is {fuel : Nat} {cs : List Value} {x : DataW H × List MemPlace} (h : DataW.trod enc Try.prog w 0 (fun _ => true) true fuel 45 cs = some x) : ∃ r : IRow, cs = [r.val] ∧ Is Any w r.a r.xs := by
  rcases open_ints Try.underlying45 Try.underlying3 cells3' h with ⟨hc, _⟩ | ⟨a, len, cap, zs, hc, _, hl, _, hz, _, hcell, _⟩
  · exact ⟨⟨none, 0, []⟩, hc, fun i x hx => by simp at hx⟩
  · simp only [if_true] at hz
    refine ⟨⟨some a, cap, zs.take len⟩, by rw [hc]; unfold IRow.val; rw [List.length_take, Nat.min_eq_left (by omega)], fun i y hy => ?_⟩
    rw [List.getElem?_take] at hy
    split at hy
    · rename_i hi
      have h0 := hcell 0 (by omega)
      have hp := plain_of h0
      have hi' := hcell i (by omega)
      rw [hp, add_plain] at hi'
      refine ⟨a.block, a.off, by dsimp only; rw [← hp], trivial, ?_⟩
      rw [hi', List.getD_eq_getElem?_getD, hy]; rfl
    · cases hy
/-- []uint64. -/
theorem to_ws {fuel : Nat} {cs : List Value} {x : DataW H × List MemPlace} (h : DataW.trod enc Try.prog w 0 (fun _ => true) true fuel 41 cs = some x) : ∃ r : WRow, cs = [r.val] ∧ Ws Any w r.a r.xs := by
  rcases open_ints Try.underlying41 Try.underlying67 cells67' h with ⟨hc, _⟩ | ⟨a, len, cap, zs, hc, _, hl, _, hz, _, hcell, hw⟩
  · exact ⟨⟨none, 0, []⟩, hc, fun i x hx => by simp at hx⟩
  · simp only [if_true] at hz
    refine ⟨⟨some a, cap, (zs.take len).map Int.toNat⟩, by rw [hc]; unfold WRow.val; rw [List.length_map, List.length_take, Nat.min_eq_left (by omega)], fun i y hy => ?_⟩
    dsimp only at hy
    rw [List.getElem?_map, Option.map_eq_some_iff] at hy
    obtain ⟨z, hy, rfl⟩ := hy
    rw [List.getElem?_take] at hy
    split at hy
    · rename_i hi
      have h0 := hcell 0 (by omega)
      have hp := plain_of h0
      have hi' := hcell i (by omega)
      rw [hp, add_plain] at hi'
      obtain ⟨z0, z1⟩ := word_wf (hw z (List.mem_of_getElem? hy))
      refine ⟨z1, a.block, a.off, by dsimp only; rw [← hp], trivial, ?_⟩
      rw [hi', List.getD_eq_getElem?_getD, hy]
      simp only [Option.getD_some]
      rw [Int.toNat_of_nonneg z0]
    · cases hy
/-- [][]int. -/
theorem to_rs {fuel : Nat} {cs : List Value} {x : DataW H × List MemPlace} (h : DataW.trod enc Try.prog w 0 (fun _ => true) true fuel 42 cs = some x) : ∃ (a : Option Addr) (cap : Nat) (rows : List IRow), cs = [.slice a rows.length cap] ∧ Rs Any w a rows := by
  rcases open_slice1 Try.underlying42 cells45' h with ⟨hc, _⟩ | ⟨a, len, cap, m, n, V, D, Pl, hc, _, hl, _, hm, _, hx⟩
  · exact ⟨none, 0, [], hc, fun i x hx => by simp at hx⟩
  · simp only [if_true] at hm
    have : Inhabited IRow := ⟨⟨none, 0, []⟩⟩
    obtain ⟨R, hR⟩ := choose_lt (α := IRow) (n := m) (p := fun i r => V i = r.val ∧ Is Any w r.a r.xs) (fun i hi => by
      obtain ⟨r, h1, h2⟩ := to_is (hx i hi).2
      exact ⟨r, by simpa using h1, h2⟩)
    refine ⟨some a, cap, (List.range len).map R, by rw [hc]; simp, fun i r hr => ?_⟩
    obtain ⟨hi, rfl⟩ := range_at R hr
    have hp := plain_of (hx 0 (by omega)).1
    have hi' := (hx i (by omega)).1
    obtain ⟨hv, hs⟩ := hR i (by omega)
    rw [hp, add_plain, hv] at hi'
    exact ⟨⟨a.block, a.off, by rw [← hp], trivial, hi'⟩, hs⟩
/-- []AssignRuleBits. -/
theorem to_ls {fuel : Nat} {cs : List Value} {x : DataW H × List MemPlace} (h : DataW.trod enc Try.prog w 0 (fun _ => true) true fuel 74 cs = some x) : ∃ r : LRow, cs = [r.val] ∧ Ls Any w r.a r.xs := by
  rcases open_slice Try.underlying74 h with ⟨hc, _⟩ | ⟨a, len, cap, m, n, D, Pl, hc, _, hl, _, hm, _, hx⟩
  · exact ⟨⟨none, 0, []⟩, hc, fun i x hx => by simp at hx⟩
  · simp only [if_true] at hm
    rw [cells76'] at hx
    have : Inhabited Rule := ⟨⟨0, ⟨none, 0, []⟩, ⟨none, 0, []⟩⟩⟩
    obtain ⟨R, hR⟩ := choose_lt (α := Rule) (n := m) (p := fun i r => w.cell? (a.add (i * 3)) = some (.int .i64 r.admin) ∧ w.cell? (a.add (i * 3 + 1)) = some r.req.val ∧ w.cell? (a.add (i * 3 + 2)) = some r.forb.val ∧ Ws Any w r.req.a r.req.xs ∧ Ws Any w r.forb.a r.forb.xs) (fun i hi => by
      obtain ⟨cs', h1, h2⟩ := hx i hi
      obtain ⟨_, hlen, hcell⟩ := World.cells?_some h1
      obtain ⟨y0, y1, y2, k, _, _, g0, g1, g2⟩ := trod_struct3 Try.underlying76 h2
      obtain ⟨v0, v1, v2, rfl⟩ := three hlen
      simp only [cells3', cells41', List.drop_zero, List.drop_succ_cons, List.take_succ_cons, List.take_zero] at g0 g1 g2
      obtain ⟨z, e0, _, _⟩ := DataW.trod_int Try.underlying3 g0
      obtain ⟨r1, e1, i1⟩ := to_ws g1
      obtain ⟨r2, e2, i2⟩ := to_ws g2
      simp only [List.cons.injEq, and_true] at e0 e1 e2
      subst e0 e1 e2
      have c0 := hcell 0 (by omega)
      have c1 := hcell 1 (by omega)
      have c2 := hcell 2 (by omega)
      rw [add_add] at c0 c1 c2
      exact ⟨⟨z, r1, r2⟩, by simpa using c0, by simpa using c1, by simpa using c2, i1, i2⟩)
    refine ⟨⟨some a, cap, (List.range len).map R⟩, by rw [hc]; simp [LRow.val], fun i r hr => ?_⟩
    obtain ⟨hi, rfl⟩ := range_at R hr
    have hp := plain_of (a := a) (by have := (hR 0 (by omega)).1; simpa using this)
    obtain ⟨k0, k1, k2, i1, i2⟩ := hR i (by omega)
    rw [hp, add_plain] at k0 k1 k2
    exact ⟨⟨a.block, a.off, by dsimp only; rw [← hp], trivial, k0, by rw [Nat.add_assoc]; exact k1, by rw [Nat.add_assoc]; exact k2⟩, i1, i2⟩
/-- [][]AssignRuleBits. -/
theorem to_as {fuel : Nat} {cs : List Value} {x : DataW H × List MemPlace} (h : DataW.trod enc Try.prog w 0 (fun _ => true) true fuel 43 cs = some x) : ∃ (a : Option Addr) (cap : Nat) (rows : List LRow), cs = [.slice a rows.length cap] ∧ As Any w a rows := by
  rcases open_slice1 Try.underlying43 cells74' h with ⟨hc, _⟩ | ⟨a, len, cap, m, n, V, D, Pl, hc, _, hl, _, hm, _, hx⟩
  · exact ⟨none, 0, [], hc, fun i x hx => by simp at hx⟩
  · simp only [if_true] at hm
    have : Inhabited LRow := ⟨⟨none, 0, []⟩⟩
    obtain ⟨R, hR⟩ := choose_lt (α := LRow) (n := m) (p := fun i r => V i = r.val ∧ Ls Any w r.a r.xs) (fun i hi => by
      obtain ⟨r, h1, h2⟩ := to_ls (hx i hi).2
      exact ⟨r, by simpa using h1, h2⟩)
    refine ⟨some a, cap, (List.range len).map R, by rw [hc]; simp, fun i r hr => ?_⟩
    obtain ⟨hi, rfl⟩ := range_at R hr
    have hp := plain_of (hx 0 (by omega)).1
    have hi' := (hx i (by omega)).1
    obtain ⟨hv, hs⟩ := hR i (by omega)
    rw [hp, add_plain, hv] at hi'
    exact ⟨⟨a.block, a.off, by rw [← hp], trivial, hi'⟩, hs⟩
/-- []ExclusionRule. -/
theorem to_es {fuel : Nat} {cs : List Value} {x : DataW H × List MemPlace} (h : DataW.trod enc Try.prog w 0 (fun _ => true) true fuel 44 cs = some x) : ∃ (a : Option Addr) (cap : Nat) (xs : List Excl), cs = [.slice a xs.length cap] ∧ Es Any w a xs := by
  rcases open_slice_pairs Try.underlying44 Try.underlying78 cells78' rfl rfl cells45' cells3' h with ⟨hc, _⟩ | ⟨a, len, cap, m, n, V0, V1, D0, D1, P0, P1, hc, _, hl, _, hm, _, hx⟩
  · exact ⟨none, 0, [], hc, fun i x hx => by simp at hx⟩
  · simp only [if_true] at hm
    have : Inhabited Excl := ⟨⟨⟨none, 0, []⟩, 0⟩⟩
    obtain ⟨R, hR⟩ := choose_lt (α := Excl) (n := m) (p := fun i r => V0 i = r.roles.val ∧ V1 i = .int .i64 r.limit ∧ Is Any w r.roles.a r.roles.xs) (fun i hi => by
      obtain ⟨_, _, g0, g1⟩ := hx i hi
      obtain ⟨r, e0, i0⟩ := to_is g0
      obtain ⟨z, e1, _, _⟩ := DataW.trod_int Try.underlying3 g1
      exact ⟨⟨r, z⟩, by simpa using e0, by simpa using e1, i0⟩)
    refine ⟨some a, cap, (List.range len).map R, by rw [hc]; simp, fun i r hr => ?_⟩
    obtain ⟨hi, rfl⟩ := range_at R hr
    have hp := plain_of (a := a) (by have := (hx 0 (by omega)).1; simpa using this)
    obtain ⟨k0, k1, _, _⟩ := hx i (by omega)
    obtain ⟨hv0, hv1, hs⟩ := hR i (by omega)
    rw [hp, add_plain] at k0 k1
    rw [hv0] at k0
    rw [hv1] at k1
    exact ⟨⟨a.block, a.off, by rw [← hp], trivial, k0, by rw [Nat.add_assoc]; exact k1⟩, hs⟩
end
end Go.Proofs.Qxb6604686a
