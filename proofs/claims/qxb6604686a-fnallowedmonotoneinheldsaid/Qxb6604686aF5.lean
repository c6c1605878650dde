import Derived.Test.Qxb6604686aF4
import Derived.Laws.Cover3
namespace Go.Proofs.Qxb6604686a
open Go.ChangeShapes Go.WideShapes Go.ChangeAt Go.RowKit
set_option linter.unusedVariables false

def InR (n : Nat) (y : Int) : Prop := 0 ≤ y ∧ y < (n : Int)
theorem all_of {α : Type} {P : α → Prop} {xs : List α} {k : Nat} (h : ∀ (q : Nat) (y : α), q < k → xs[q]? = some y → P y) (hk : xs.length ≤ k) : ∀ y ∈ xs, P y := fun y hy => by
  obtain ⟨q, hq⟩ := List.getElem?_of_mem hy
  exact h q y (by have := (List.getElem?_eq_some_iff.1 hq).1; omega) hq
def InTo (n : Nat) (xs : List Int) (k : Nat) : Prop := ∀ (q : Nat) (y : Int), q < k → xs[q]? = some y → InR n y
theorem InTo.succ {n : Nat} {xs : List Int} {k : Nat} (h : InTo n xs k) {y : Int} (hy : xs[k]? = some y) (hP : InR n y) : InTo n xs (k + 1) := below_succ (P := InR n) h hy hP
theorem InTo.all {n : Nat} {xs : List Int} {k : Nat} (h : InTo n xs k) (hk : xs.length ≤ k) : ∀ y ∈ xs, InR n y := all_of (P := InR n) h hk
def RowsTo (n : Nat) (xs : List IRow) (k : Nat) : Prop := ∀ (q : Nat) (y : IRow), q < k → xs[q]? = some y → ∀ z ∈ y.xs, InR n z
theorem RowsTo.succ {n : Nat} {xs : List IRow} {k : Nat} (h : RowsTo n xs k) {y : IRow} (hy : xs[k]? = some y) (hP : ∀ z ∈ y.xs, InR n z) : RowsTo n xs (k + 1) := below_succ (P := fun y : IRow => ∀ z ∈ y.xs, InR n z) h hy hP
theorem RowsTo.all {n : Nat} {xs : List IRow} {k : Nat} (h : RowsTo n xs k) (hk : xs.length ≤ k) : ∀ y ∈ xs, ∀ z ∈ y.xs, InR n z := all_of (P := fun y : IRow => ∀ z ∈ y.xs, InR n z) h hk
/-- What is asked of a rule. -/
structure RuleIn (n N : Nat) (x : Rule) : Prop where
  admin : InR n x.admin
  req : x.req.xs.length = N
  forb : x.forb.xs.length = N
  reqW : Within n x.req.xs
  forbW : Within n x.forb.xs
def RuleTo (n N : Nat) (xs : List Rule) (k : Nat) : Prop := ∀ (q : Nat) (y : Rule), q < k → xs[q]? = some y → RuleIn n N y
theorem RuleTo.succ {n N : Nat} {xs : List Rule} {k : Nat} (h : RuleTo n N xs k) {y : Rule} (hy : xs[k]? = some y) (hP : RuleIn n N y) : RuleTo n N xs (k + 1) := below_succ (P := RuleIn n N) h hy hP
theorem RuleTo.all {n N : Nat} {xs : List Rule} {k : Nat} (h : RuleTo n N xs k) (hk : xs.length ≤ k) : ∀ y ∈ xs, RuleIn n N y := all_of (P := RuleIn n N) h hk
def RulesTo (n N : Nat) (xs : List LRow) (k : Nat) : Prop := ∀ (q : Nat) (y : LRow), q < k → xs[q]? = some y → ∀ z ∈ y.xs, RuleIn n N z
theorem RulesTo.succ {n N : Nat} {xs : List LRow} {k : Nat} (h : RulesTo n N xs k) {y : LRow} (hy : xs[k]? = some y) (hP : ∀ z ∈ y.xs, RuleIn n N z) : RulesTo n N xs (k + 1) := below_succ (P := fun y : LRow => ∀ z ∈ y.xs, RuleIn n N z) h hy hP
theorem RulesTo.all {n N : Nat} {xs : List LRow} {k : Nat} (h : RulesTo n N xs k) (hk : xs.length ≤ k) : ∀ y ∈ xs, ∀ z ∈ y.xs, RuleIn n N z := all_of (P := fun y : LRow => ∀ z ∈ y.xs, RuleIn n N z) h hk
def ExclTo (n : Nat) (xs : List Excl) (k : Nat) : Prop := ∀ (q : Nat) (y : Excl), q < k → xs[q]? = some y → ∀ z ∈ y.roles.xs, InR n z
theorem ExclTo.succ {n : Nat} {xs : List Excl} {k : Nat} (h : ExclTo n xs k) {y : Excl} (hy : xs[k]? = some y) (hP : ∀ z ∈ y.roles.xs, InR n z) : ExclTo n xs (k + 1) := below_succ (P := fun y : Excl => ∀ z ∈ y.roles.xs, InR n z) h hy hP
theorem ExclTo.all {n : Nat} {xs : List Excl} {k : Nat} (h : ExclTo n xs k) (hk : xs.length ≤ k) : ∀ y ∈ xs, ∀ z ∈ y.roles.xs, InR n z := all_of (P := fun y : Excl => ∀ z ∈ y.roles.xs, InR n z) h hk
def SetTo (au : List Nat) (xs : List Int) (k : Nat) : Prop := ∀ (q : Nat) (y : Int), q < k → xs[q]? = some y → bit au y.toNat = true
theorem SetTo.succ {au : List Nat} {xs : List Int} {k : Nat} (h : SetTo au xs k) {y : Int} (hy : xs[k]? = some y) (hP : bit au y.toNat = true) : SetTo au xs (k + 1) := below_succ (P := fun y : Int => bit au y.toNat = true) h hy hP
theorem SetTo.all {au : List Nat} {xs : List Int} {k : Nat} (h : SetTo au xs k) (hk : xs.length ≤ k) : ∀ y ∈ xs, bit au y.toNat = true := all_of (P := fun y : Int => bit au y.toNat = true) h hk
/-- The first k roles: closed. -/
def CloTo (js : List IRow) (au : List Nat) (k : Nat) : Prop := ∀ (q : Nat) (row : IRow), q < k → js[q]? = some row → bit au q = true → ∀ y ∈ row.xs, bit au y.toNat = true
theorem CloTo.succ {js : List IRow} {au : List Nat} {k : Nat} (h : CloTo js au k) {row : IRow} (hy : js[k]? = some row) (hP : bit au k = true → ∀ y ∈ row.xs, bit au y.toNat = true) : CloTo js au (k + 1) := by
  intro q row' hq hr
  by_cases hqk : q = k
  · subst hqk; rw [hy] at hr; cases hr; exact hP
  · exact h q row' (by omega) hr

/-- What allowedDomain says. -/
structure Dom (n N nG nU nS nE : Nat) (aJ : Option Addr) (js : List IRow) (r : Int) (au : List Nat) (revoke : List IRow) (assign : List LRow) (es : List Excl) (broken : List Int) : Prop where
  pos : 0 ≤ r
  lt : r < (n : Int)
  eS : nS = n
  eG : nG = N
  eU : nU = N
  words : n ≤ 64 * N
  jsL : aJ = none ∨ js.length = n
  revokeIn : ∀ row ∈ revoke, ∀ y ∈ row.xs, InR n y
  assignIn : ∀ row ∈ assign, ∀ x ∈ row.xs, RuleIn n N x
  jsIn : ∀ row ∈ js, aJ ≠ none → ∀ y ∈ row.xs, InR n y
  esIn : ∀ ex ∈ es, ∀ y ∈ ex.roles.xs, InR n y
  brokenIn : ∀ y ∈ broken, InR nE y
  closed : aJ ≠ none → CloTo js au n
end Go.Proofs.Qxb6604686a
