import Derived.Test.Qxb6604686aW13
import Derived.Test.Qxb6604686aW12
import Derived.Test.Qxb6604686aW8
import Derived.Laws.CopyOwn
namespace Go.Proofs.Qxb6604686a
open Go.ChangeShapes Go.WideShapes Go.ChangeAt Go.RowKit
set_option linter.unusedVariables false

/-! ### copy -/
theorem run_copyW {D : Nat → Prop} (w : World) (bA N cA : Nat) (aU : Option Addr) (cU : Nat) (vs : List Value) (hB : Blk w bA 67 vs) (hv : vs.length = N) (au : List Nat) (hu : Ws D w aU au) (hl : au.length = N) (hpos : 0 < N) :
    ∃ w2, (Builtin.copy_ #[41, 41] 3 #[.slice (some ⟨bA, 0, none⟩) N cA, .slice aU N cU]).run Try.prog w = .ok (goInt N) w2 ∧ Blk w2 bA 67 (au.map fun x : Nat => Value.int .u64 (x : Int)) ∧ Kept (· = bA) w w2 := by
  obtain ⟨_, b, off, e0, _, _⟩ := hu 0 _ (List.getElem?_eq_getElem (by omega))
  subst e0
  have hcl : (au.map fun x : Nat => Value.int .u64 (x : Int)).length = N := by simpa using hl
  have hr := run_copy_row (P := Try.prog) w 41 41 3 67 bA 0 N cA ⟨b, off, none⟩ N cU vs.toArray 67 (au.map fun x : Nat => Value.int .u64 (x : Int)) Try.underlying41 (by kernel_rfl) hB (by rw [hcl]; exact (Nat.min_self N).symm) ?_ ?_ ?_
  · rw [hcl] at hr
    have e : (vs.toArray.toList.take 0 ++ (au.map fun x : Nat => Value.int .u64 (x : Int)) ++ vs.toArray.toList.drop (0 + N)) = au.map fun x : Nat => Value.int .u64 (x : Int) := by
      simp [List.drop_of_length_le (Nat.le_of_eq hv)]
    rw [e] at hr
    exact ⟨_, hr, setRow_heap w bA _ _ 67 (0, 0) hB, ⟨rfl, rfl, rfl, by simp [World.setRow], fun k hk hS => setRow_other w bA k _ hS⟩⟩
  · intro j v hj
    rw [List.getElem?_map] at hj
    obtain ⟨x, hx, rfl⟩ := Option.map_eq_some_iff.1 hj
    obtain ⟨_, b', off', e1, _, hc⟩ := hu j x hx
    cases e1
    have hadd : (⟨b, off, none⟩ : Addr).add j = ⟨b, off + j, none⟩ := by unfold Addr.add; split <;> simp_all
    rw [hadd]
    exact hc
  · rw [hcl]; simp [hv]
  · intro v hv
    obtain ⟨x, _, rfl⟩ := List.mem_map.1 hv
    rfl

/-! ### The space -/
structure SpD where
  aH : Option Addr
  cH : Nat
  held : List Nat
  aR : Option Addr
  cR : Nat
  revoke : List IRow
  aS : Option Addr
  cS : Nat
  assign : List LRow
  aJ : Option Addr
  cJ : Nat
  js : List IRow
  aE : Option Addr
  cE : Nat
  es : List Excl
  aL : Option Addr
  cL : Nat
  listing : List IRow
  aB : Option Addr
  cB : Nat
  broken : List Int
  cA : Nat

/-- What the space holds, read in a world. -/
structure Sp (w : World) (bS bA : Nat) (d : SpD) (N : Nat) (after : List Nat) (added : Value) : Prop where
  blk : Blk w bS 93 (spCells (.slice d.aH d.held.length d.cH) (.slice d.aR d.revoke.length d.cR) (.slice d.aS d.assign.length d.cS) (.slice d.aJ d.js.length d.cJ) (.slice d.aE d.es.length d.cE) (.slice d.aL d.listing.length d.cL) (.slice d.aB d.broken.length d.cB) (.slice (some ⟨bA, 0, none⟩) N d.cA) added)
  aft : Blk w bA 67 (after.map fun x : Nat => Value.int .u64 (x : Int))
  ne : bA ≠ bS
  held : Ws (Not2 bA bS) w d.aH d.held
  revoke : Rs (Not2 bA bS) w d.aR d.revoke
  assign : As (Not2 bA bS) w d.aS d.assign
  js : Rs (Not2 bA bS) w d.aJ d.js
  es : Es (Not2 bA bS) w d.aE d.es
  listing : Rs (Not2 bA bS) w d.aL d.listing
  broken : Is (Not2 bA bS) w d.aB d.broken

/-- The plain conditions: n roles, N words. -/
structure SpOk (n N : Nat) (d : SpD) : Prop where
  words : n ≤ 64 * N
  n17 : n ≤ 131072
  N17 : N ≤ 131072
  held : d.held.length = N
  revoke : d.revoke.length = n
  revokeIn : ∀ r ∈ d.revoke, r.xs.length ≤ 131072 ∧ ∀ y ∈ r.xs, 0 ≤ y ∧ y < (n : Int)
  assign : d.assign.length = n
  assignIn : ∀ r ∈ d.assign, r.xs.length ≤ 131072 ∧ ∀ x ∈ r.xs, RuleOk N x
  js : d.aJ = none ∨ d.js.length = n
  jsIn : ∀ r ∈ d.js, r.xs.length ≤ 131072 ∧ ∀ y ∈ r.xs, 0 ≤ y ∧ y < (n : Int)
  es : d.es.length ≤ 131072
  esIn : ∀ r ∈ d.es, r.roles.xs.length ≤ 131072 ∧ ∀ y ∈ r.roles.xs, 0 ≤ y ∧ y < (n : Int)
  listing : d.listing.length = n
  lst : Lst d.es d.es.length 0 d.listing
  broken : d.broken.length ≤ 131072 ∧ ∀ y ∈ d.broken, 0 ≤ y ∧ y < (d.es.length : Int)

theorem Sp.keep {w w' : World} {bS bA : Nat} {d : SpD} {N : Nat} {after after' : List Nat} {added : Value} (h : Sp w bS bA d N after added) (hk : Kept (· = bA) w w') (ha : Blk w' bA 67 (after'.map fun x : Nat => Value.int .u64 (x : Int))) : Sp w' bS bA d N after' added := by
  have kp : Keeps (Not2 bA bS) w w' := hk.keeps fun b hb hS => hb.1 hS
  exact ⟨h.blk.keep hk.keepsNe (fun e => h.ne e.symm), ha, h.ne, h.held.keep kp, h.revoke.keep kp, h.assign.keep kp, h.js.keep kp, h.es.keep kp, h.listing.keep kp, h.broken.keep kp⟩
theorem Sp.below {w w' : World} {bS bA : Nat} {d : SpD} {N : Nat} {after : List Nat} {added : Value} (h : Sp w bS bA d N after added) (hk : Below w.heap.size w w') : Sp w' bS bA d N after added := h.keep (.of_below hk) (h.aft.below hk h.aft.lt)
theorem spCells_set (held revoke assign juniors exclusions listing broken after added u : Value) : (spCells held revoke assign juniors exclusions listing broken after added).set 17 u = spCells held revoke assign juniors exclusions listing broken after u := rfl
theorem Sp.store {w : World} {bS bA : Nat} {d : SpD} {N : Nat} {after : List Nat} {added : Value} (h : Sp w bS bA d N after added) (u : Value) : Sp (w.setCell ⟨bS, 17, none⟩ u) bS bA d N after u := by
  have kp : Keeps (Not2 bA bS) w (w.setCell ⟨bS, 17, none⟩ u) := keeps_set w (fun hb => hb.2 rfl) u
  refine ⟨?_, h.aft.other h.ne u, h.ne, h.held.keep kp, h.revoke.keep kp, h.assign.keep kp, h.js.keep kp, h.es.keep kp, h.listing.keep kp, h.broken.keep kp⟩
  have := h.blk.set 17 u
  rwa [spCells_set] at this

/-- Constraint k (a number) is broken by the set ws. -/
def Broken (es : List Excl) (ws : List Nat) (v : Int) : Prop := ∃ ex, es[v.toNat]? = some ex ∧ ex.limit ≤ (cnt ws ex.roles.xs : Int)
/-- What excluded asks once the set is closed. -/
def ExLow (d : SpD) (ws : List Nat) (ad : List Int) : Prop := (∃ y ∈ ad, ∃ row, d.listing[y.toNat]? = some row ∧ ∃ v ∈ row.xs, Broken d.es ws v) ∨ ∃ v ∈ d.broken, Broken d.es ws v

theorem lit_call {w : World} {bS bA bx : Nat} {d : SpD} {n N : Nat} {after : List Nat} {added : Value} (h : Sp w bS bA d N after added) (ok : SpOk n N d) (hN : after.length = N) (hw : ∀ x ∈ after, Word x) (hx : w.cell? ⟨bx, 0, none⟩ = some (.pointer (some ⟨bS, 0, none⟩)))
    (v : Int) (h0 : 0 ≤ v) (h1 : v < (d.es.length : Int)) (wr : World) (hbl : Below w.heap.size w wr) :
    Calls Try.prog 57 #[.int .i64 v, .pointer (some ⟨bx, 0, none⟩)] wr fun e w' => RetIff (Broken d.es after v) e ∧ Below wr.heap.size wr w' := by
  obtain ⟨k, rfl⟩ := Int.eq_ofNat_of_zero_le h0
  have hk : k < d.es.length := by omega
  have h' := h.below hbl
  have hc9 : wr.cell? ⟨bS, 9, none⟩ = some (.slice d.aE d.es.length d.cE) := h'.blk.cell 9
  have hc16 : wr.cell? ⟨bS, 16, none⟩ = some (.slice (some ⟨bA, 0, none⟩) after.length d.cA) := by rw [hN]; exact h'.blk.cell 16
  obtain ⟨l1, l2⟩ := ok.esIn _ (List.getElem_mem hk)
  have hwd := ok.words
  refine (exLit_any (D := Not2 bA bS) (D' := (· = bA)) bx bS d.aE (some ⟨bA, 0, none⟩) d.cE d.cA d.es after k d.es[k] wr ((keepsB hbl Any).cell (p := ⟨bx, 0, none⟩) trivial hx) hc9 hc16 h'.es (h'.aft.ws hw rfl) (List.getElem?_eq_getElem hk) (fun y hy => ?_) l1 (by rw [hN]; exact ok.N17)).mono ?_
  · obtain ⟨y0, y1⟩ := l2 y hy
    exact ⟨y0, by rw [hN]; omega⟩
  · rintro e w' ⟨⟨b, rfl, hb⟩, hbl'⟩
    refine ⟨⟨b, rfl, hb.trans ?_⟩, hbl'⟩
    unfold Broken
    rw [Int.toNat_natCast, List.getElem?_eq_getElem hk]
    exact ⟨fun h => ⟨_, rfl, h⟩, fun ⟨ex, e, h⟩ => by cases e; exact h⟩
end Go.Proofs.Qxb6604686a
