import Derived.Test.Qxb6604686aW3
import Derived.Deep.QuietTactic
import Derived.BigQuiet
import Derived.WalkSmall
namespace Go.Proofs.Qxb6604686a
open Go.ChangeShapes Go.WideShapes Go.ChangeAt Go.RowKit
set_option linter.unusedVariables false

/-! ### setBit -/
def setW (ws : List Nat) (i : Nat) : List Nat := ws.set (i / 64) ((ws.getD (i / 64) 0) ||| 2 ^ (i % 64))

theorem shl_word (k : Nat) (hk : k < 64) : Word (2 ^ k) := Nat.pow_lt_pow_right (by decide) hk
theorem or_form {x : Nat} (h : Word x) (k : Nat) (hk : k < 64) : bits BinOp.or IntKind.u64 (x : Int) (IntKind.u64.wrap (2 ^ k)) = ((x ||| 2 ^ k : Nat) : Int) := by
  have h2 : (2 : Nat) ^ k < 18446744073709551616 := shl_word k hk
  have e : IntKind.u64.wrap (2 ^ k) = ((2 ^ k : Nat) : Int) := by
    rw [IntKind.wrap_u64]
    have : ((2 : Int) ^ k) = ((2 ^ k : Nat) : Int) := by simp
    rw [this]
    generalize (2 : Nat) ^ k = m at h2
    omega
  rw [e]
  exact u64_or_nat x (2 ^ k) h h2
theorem setW_word {ws : List Nat} (hw : ∀ x ∈ ws, Word x) (i : Nat) (hi : i / 64 < ws.length) : ∀ x ∈ setW ws i, Word x := by
  intro x hx
  rcases List.mem_or_eq_of_mem_set hx with hx | rfl
  · exact hw x hx
  · refine Nat.or_lt_two_pow ?_ (shl_word _ (Nat.mod_lt _ (by decide)))
    rw [List.getD_eq_getElem?_getD, List.getElem?_eq_getElem hi]
    exact hw _ (List.getElem_mem hi)
theorem setW_len (ws : List Nat) (i : Nat) : (setW ws i).length = ws.length := by simp [setW]
theorem setW_bit (ws : List Nat) (i : Nat) (hi : i / 64 < ws.length) (j : Nat) : bit (setW ws i) j = (bit ws j || decide (i = j)) := by
  unfold bit setW
  rw [List.getD_eq_getElem?_getD, List.getElem?_set]
  by_cases hq : i / 64 = j / 64
  · rw [if_pos hq, if_pos (hq ▸ hi), Option.getD_some, Nat.testBit_or, Nat.testBit_two_pow, hq]
    congr 1
    rw [Bool.eq_iff_iff]; simp; omega
  · rw [if_neg hq, ← List.getD_eq_getElem?_getD]
    have : ¬ i = j := by rintro rfl; exact hq rfl
    simp [this]

set_option maxHeartbeats 1000000 in
theorem setBit_any (bA cap i : Nat) (ws : List Nat) (w : World) (h : Blk w bA 67 (ws.map fun x : Nat => Value.int .u64 (x : Int))) (hw : ∀ x ∈ ws, Word x) (hi : i / 64 < ws.length) (hn : ws.length ≤ 131072) :
    Calls Try.prog 59 #[.slice (some ⟨bA, 0, none⟩) ws.length cap, .int .i64 (i : Int)] w fun e w' => e = .returned (.tuple #[]) ∧ Blk w' bA 67 ((setW ws i).map fun x : Nat => Value.int .u64 (x : Int)) ∧ Kept (· = bA) w w' := by
  have hc : w.cell? ⟨bA, i / 64, none⟩ = some (.int .u64 (ws[i / 64] : Int)) := by rw [h.cell]; simp [hi]
  have hf := h.frozen (i / 64)
  have hx := hw ws[i / 64] (List.getElem_mem hi)
  generalize hxe : ws[i / 64] = x at *
  have Hxe : Hid (ws.getD (i / 64) 0 = x) := by rw [List.getD_eq_getElem?_getD, List.getElem?_eq_getElem hi]; exact hxe
  clear hxe
  have hlt : ((i / 64 : Nat) : Int) < (ws.length : Int) := by omega
  go_enter Try.func59, Try.ntmps59
  go_wp2_with fail
  have HB : Hid (Blk (w.setCell ⟨bA, i / 64, none⟩ (.int .u64 (bits BinOp.or IntKind.u64 (x : Int) (IntKind.u64.wrap (2 ^ (i % 64)))))) bA 67 ((setW ws i).map fun x : Nat => Value.int .u64 (x : Int))) := by
    rw [or_form hx _ (Nat.mod_lt _ (by decide))]
    unfold setW
    rw [Hxe.out, List.map_set]
    exact h.set _ _
  go_region
  go_end0
  exact ⟨rfl, HB.out.drew, (Kept.setCell (S := (· = bA)) (Kept.refl _ w) (.inl rfl) _).drew⟩

set_option maxHeartbeats 1000000 in
theorem isHeld_any {D : Nat → Prop} (bS : Nat) (aH : Option Addr) (cH i : Nat) (hs : List Nat) (w : World) (hc : w.cell? ⟨bS, 13, none⟩ = some (.slice aH hs.length cH)) (h : Ws D w aH hs) (hi : i / 64 < hs.length) (hn : hs.length ≤ 131072) :
    Calls Try.prog 49 #[.pointer (some ⟨bS, 0, none⟩), .int .i64 (i : Int)] w fun e w' => e = .returned (.bool (bit hs i)) ∧ w' = w := by
  go_enter Try.func49, Try.ntmps49
  go_wp2_with fail
  refine (hasBit_any aH cH i hs _ h hi hn).mono ?_
  rintro e w' ⟨rfl, rfl⟩
  go_wp2
  go_ret
  exact ⟨rfl, rfl⟩

/-! ### Answers -/
def RetIff (p : Prop) (e : Ending) : Prop := ∃ b : Bool, e = .returned (.bool b) ∧ (b = true ↔ p)
theorem RetIff.mk {p : Prop} {e : Ending} (b : Bool) (h : e = .returned (.bool b)) (hp : b = true ↔ p) : RetIff p e := ⟨b, h, hp⟩
/-- An index, or -1. -/
def RetIdx (p : Prop) (e : Ending) : Prop := ∃ i : Int, e = .returned (.int .i64 i) ∧ (0 ≤ i ↔ p)

/-! ### holds -/
/-- One word of the precondition. -/
def CondW (x r f : Nat) : Prop := x &&& r = r ∧ x &&& f = 0
def CondTo (k : Nat) (au rq fb : List Nat) : Prop := ∀ i x r f, i < k → au[i]? = some x → rq[i]? = some r → fb[i]? = some f → CondW x r f

theorem and_form {x r : Nat} (hx : Word x) (hr : Word r) : bits BinOp.and IntKind.u64 (x : Int) (r : Int) = ((x &&& r : Nat) : Int) := u64_and_nat x r hx hr

theorem CondTo.succ {k : Nat} {au rq fb : List Nat} (h : CondTo k au rq fb) {x r f : Nat} (hx : au[k]? = some x) (hr : rq[k]? = some r) (hf : fb[k]? = some f) (hc : CondW x r f) : CondTo (k + 1) au rq fb := by
  intro i x' r' f' hi h1 h2 h3
  by_cases hik : i = k
  · subst hik
    rw [hx] at h1; rw [hr] at h2; rw [hf] at h3
    cases h1; cases h2; cases h3
    exact hc
  · exact h i x' r' f' (by omega) h1 h2 h3

set_option maxHeartbeats 2000000 in
theorem holds_any {D : Nat → Prop} (aR aF aU : Option Addr) (cR cF cU : Nat) (rq fb au : List Nat) (w : World) (hr : Ws D w aR rq) (hf : Ws D w aF fb) (hu : Ws D w aU au) (l1 : rq.length = au.length) (l2 : fb.length = au.length) (hn : au.length ≤ 131072) :
    Calls Try.prog 54 #[.agg #[.slice aR au.length cR, .slice aF au.length cF], .slice aU au.length cU] w fun e w' => RetIff (CondTo au.length au rq fb) e ∧ Below w.heap.size w w' := by
  have L1 : Hid (rq.length = au.length) := l1
  have L2 : Hid (fb.length = au.length) := l2
  clear l1 l2
  go_enter Try.func54, Try.ntmps54
  go_wp2
  go_loopg [9] au.length (fun g i wr => ∃ k : Nat, k + g = au.length ∧ i = .int .i64 k ∧ CondTo k au rq fb ∧ Blk wr w.heap.size 83 [.slice aR au.length cR, .slice aF au.length cF] ∧ Below w.heap.size w wr)
  case atStart => exact ⟨0, by omega, rfl, fun i _ _ _ hi => by omega, Blk.new w 83 _, (Below.refl _ _).alloc (Nat.le_refl _) _⟩
  case round =>
    obtain ⟨k, hk, rfl, hco, hb, hbl⟩ := hrel
    by_cases hlt : k < au.length
    · have hk1 : k < rq.length := by rw [L1.out]; exact hlt
      have hk2 : k < fb.length := by rw [L2.out]; exact hlt
      have G0 : Hid (au[k]? = some au[k]) := List.getElem?_eq_getElem hlt
      have G1 : Hid (rq[k]? = some rq[k]) := List.getElem?_eq_getElem hk1
      have G2 : Hid (fb[k]? = some fb[k]) := List.getElem?_eq_getElem hk2
      obtain ⟨w0, b0, o0, e0, _, c0⟩ := (hu.keep (keepsB hbl D)) k _ G0.out
      obtain ⟨w1, b1, o1, e1, _, c1⟩ := (hr.keep (keepsB hbl D)) k _ G1.out
      obtain ⟨w2, b2, o2, e2, _, c2⟩ := (hf.keep (keepsB hbl D)) k _ G2.out
      subst e0 e1 e2
      have q0 : wr.cell? ⟨w.heap.size, 0, none⟩ = some (.slice (some ⟨b1, o1, none⟩) au.length cR) := hb.cell 0
      have q1 : wr.cell? ⟨w.heap.size, 1, none⟩ = some (.slice (some ⟨b2, o2, none⟩) au.length cF) := hb.cell 1
      have hlt' : (k : Int) < (au.length : Int) := by omega
      have h0' : (0 : Int) ≤ (k : Int) := by omega
      have A1 := and_form w0 w1
      have A2 := and_form w0 w2
      generalize au[k] = x at *
      generalize rq[k] = r at *
      generalize fb[k] = f at *
      by_cases t1 : x &&& r = r
      · have T1 : (bits BinOp.and IntKind.u64 (x : Int) (r : Int) != (r : Int)) = false := by rw [A1, t1]; simp
        by_cases t2 : x &&& f = 0
        · have T2 : (bits BinOp.and IntKind.u64 (x : Int) (f : Int) != 0) = false := by rw [A2, t2]; simp
          have CS := hco.succ G0.out G1.out G2.out ⟨t1, t2⟩
          clear A1 A2 t1 t2 w0 w1 w2
          go_wp2_with fail
          go_quiet (fail)
          go_wp2
          go_roundg (gk - 1)
          case measure => omega
          case rel => exact ⟨k + 1, by omega, by go_num, CS, hb, below_drewN hbl nq⟩
        · have T2 : (bits BinOp.and IntKind.u64 (x : Int) (f : Int) != 0) = true := by rw [A2, bne_iff_ne]; omega
          have NC : Hid (¬ CondTo au.length au rq fb) := fun h => t2 (h k x r f hlt G0.out G1.out G2.out).2
          clear A1 A2 t1 t2 w0 w1 w2
          go_wp2_with fail
          go_quiet (fail)
          go_wp2
          go_ret
          exact ⟨.mk false rfl ⟨fun h => (Bool.noConfusion h), fun h => absurd h NC.out⟩, below_drewN hbl nq⟩
      · have T1 : (bits BinOp.and IntKind.u64 (x : Int) (r : Int) != (r : Int)) = true := by rw [A1, bne_iff_ne]; omega
        have NC : Hid (¬ CondTo au.length au rq fb) := fun h => t1 (h k x r f hlt G0.out G1.out G2.out).1
        clear A1 A2 t1 w0 w1 w2
        go_wp2_with fail
        go_quiet (fail)
        go_wp2
        go_ret
        exact ⟨.mk false rfl ⟨fun h => (Bool.noConfusion h), fun h => absurd h NC.out⟩, below_drewN hbl nq⟩
    · have hke : k = au.length := by omega
      subst hke
      go_wp2
      go_ret
      exact ⟨.mk true rfl ⟨fun _ => hco, fun _ => rfl⟩, hbl⟩
end Go.Proofs.Qxb6604686a
