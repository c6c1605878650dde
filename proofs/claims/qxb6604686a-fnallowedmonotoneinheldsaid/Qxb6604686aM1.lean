import Derived.Test.Qxb6604686aW16
namespace Go.Proofs.Qxb6604686a
open Go.ChangeShapes Go.WideShapes Go.ChangeAt Go.RowKit
set_option linter.unusedVariables false

/-! ### conditionHolds -/
/-- The precondition, bit by bit, up to k. -/
def BitsTo (k : Nat) (au rq fb : List Nat) : Prop := ∀ i, i < k → (bit rq i = true → bit au i = true) ∧ (bit fb i = true → bit au i = false)

theorem bitOf_len {D : Nat → Prop} (a : Option Addr) (cap i N : Nat) (xs : List Nat) (hN : xs.length = N) (w : World) (h : Ws D w a xs) (hi : i / 64 < N) (hn : N ≤ 131072) :
    Calls Try.prog 43 #[.slice a N cap, .int .i64 (i : Int)] w fun e w' => e = .returned (.bool (bit xs i)) ∧ w' = w := by
  subst hN
  exact bitOf_any a cap i xs w (h.mono fun _ _ _ => trivial) hi hn

theorem BitsTo.succ {k : Nat} {au rq fb : List Nat} (h : BitsTo k au rq fb) (h1 : bit rq k = true → bit au k = true) (h2 : bit fb k = true → bit au k = false) : BitsTo (k + 1) au rq fb := by
  intro i hi
  by_cases hik : i = k
  · subst hik; exact ⟨h1, h2⟩
  · exact h i (by omega)

set_option maxHeartbeats 2000000 in
theorem condition_any {D : Nat → Prop} (adm : Int) (aR aF aU : Option Addr) (cR cF cU n N : Nat) (rq fb au : List Nat) (w : World) (hr : Ws D w aR rq) (hf : Ws D w aF fb) (hu : Ws D w aU au) (l1 : rq.length = N) (l2 : fb.length = N) (l3 : au.length = N) (hN : N ≤ 131072) (hn : n ≤ 64 * N) :
    Calls Try.prog 45 #[.agg #[.int .i64 adm, .slice aR N cR, .slice aF N cF], .slice aU N cU, .int .i64 (n : Int)] w fun e w' => RetIff (BitsTo n au rq fb) e ∧ Below w.heap.size w w' := by
  have L1 : Hid (rq.length = N) := l1
  have L2 : Hid (fb.length = N) := l2
  have L3 : Hid (au.length = N) := l3
  clear l1 l2 l3
  go_enter Try.func45, Try.ntmps45
  go_wp2_with fail
  go_loopg [7] n (fun g i wr => ∃ k : Nat, k + g = n ∧ i = .int .i64 k ∧ BitsTo k au rq fb ∧ Blk wr w.heap.size 76 [.int .i64 adm, .slice aR N cR, .slice aF N cF] ∧ Below w.heap.size w wr)
  case atStart => exact ⟨0, by omega, rfl, fun i hi => by omega, Blk.new w 76 _, (Below.refl _ _).alloc (Nat.le_refl _) _⟩
  case round =>
    obtain ⟨k, hk, rfl, hco, hb, hbl⟩ := hrel
    by_cases hlt : k < n
    · have hkN : k / 64 < N := by omega
      have q1 : wr.cell? ⟨w.heap.size, 1, none⟩ = some (.slice aR N cR) := hb.cell 1
      have q2 : wr.cell? ⟨w.heap.size, 2, none⟩ = some (.slice aF N cF) := hb.cell 2
      go_wp2_with fail
      refine (bitOf_len (D := D) aR cR k N rq L1.out wr (hr.keep (keepsB hbl D)) hkN hN).mono ?_
      rintro e w1 ⟨rfl, hw1⟩
      subst hw1
      cases hb1 : bit rq k with
      | false =>
        go_wp2_with fail
        refine (bitOf_len (D := D) aF cF k N fb L2.out w1 (hf.keep (keepsB hbl D)) hkN hN).mono ?_
        rintro e w2 ⟨rfl, hw2⟩
        subst hw2
        cases hb2 : bit fb k with
        | false =>
          have CS := hco.succ (k := k) (fun h => by rw [hb1] at h; cases h) (fun h => by rw [hb2] at h; cases h)
          clear hb1 hb2
          go_wp2
          go_roundg (gk - 1)
          case measure => omega
          case rel => exact ⟨k + 1, by omega, by go_num, CS, hb, hbl⟩
        | true =>
          go_wp2_with fail
          refine (bitOf_len (D := D) aU cU k N au L3.out w2 (hu.keep (keepsB hbl D)) hkN hN).mono ?_
          rintro e w3 ⟨rfl, hw3⟩
          subst hw3
          cases hb3 : bit au k with
          | false =>
            have CS := hco.succ (k := k) (fun h => by rw [hb1] at h; cases h) (fun _ => hb3)
            clear hb1 hb2 hb3
            go_wp2
            go_roundg (gk - 1)
            case measure => omega
            case rel => exact ⟨k + 1, by omega, by go_num, CS, hb, hbl⟩
          | true =>
            have NC : Hid (¬ BitsTo n au rq fb) := fun h => by have := (h k hlt).2 hb2; rw [hb3] at this; cases this
            clear hb1 hb2 hb3
            go_wp2
            go_ret
            exact ⟨.mk false rfl ⟨fun h => (Bool.noConfusion h), fun h => absurd h NC.out⟩, hbl⟩
      | true =>
        go_wp2_with fail
        refine (bitOf_len (D := D) aU cU k N au L3.out w1 (hu.keep (keepsB hbl D)) hkN hN).mono ?_
        rintro e w4 ⟨rfl, hw4⟩
        subst hw4
        cases hb4 : bit au k with
        | false =>
          have NC : Hid (¬ BitsTo n au rq fb) := fun h => by have := (h k hlt).1 hb1; rw [hb4] at this; cases this
          clear hb1 hb4
          go_wp2
          go_ret
          exact ⟨.mk false rfl ⟨fun h => (Bool.noConfusion h), fun h => absurd h NC.out⟩, hbl⟩
        | true =>
          have HB4 : Hid (bit au k = true) := hb4
          clear hb4
          go_wp2_with fail
          refine (bitOf_len (D := D) aF cF k N fb L2.out w4 (hf.keep (keepsB hbl D)) hkN hN).mono ?_
          rintro e w2 ⟨rfl, hw2⟩
          subst hw2
          cases hb2 : bit fb k with
          | false =>
            have CS := hco.succ (k := k) (fun h => HB4.out) (fun h => by rw [hb2] at h; cases h)
            clear hb1 hb2
            go_wp2
            go_roundg (gk - 1)
            case measure => omega
            case rel => exact ⟨k + 1, by omega, by go_num, CS, hb, hbl⟩
          | true =>
            go_wp2_with fail
            refine (bitOf_len (D := D) aU cU k N au L3.out w2 (hu.keep (keepsB hbl D)) hkN hN).mono ?_
            rintro e w3 ⟨rfl, hw3⟩
            subst hw3
            cases hb3 : bit au k with
            | false =>
              have CS := hco.succ (k := k) (fun h => HB4.out) (fun _ => hb3)
              clear hb1 hb2 hb3
              go_wp2
              go_roundg (gk - 1)
              case measure => omega
              case rel => exact ⟨k + 1, by omega, by go_num, CS, hb, hbl⟩
            | true =>
              have NC : Hid (¬ BitsTo n au rq fb) := fun h => by have := (h k hlt).2 hb2; rw [hb3] at this; cases this
              clear hb1 hb2 hb3
              go_wp2
              go_ret
              exact ⟨.mk false rfl ⟨fun h => (Bool.noConfusion h), fun h => absurd h NC.out⟩, hbl⟩
    · have hke : k = n := by omega
      subst hke
      go_wp2
      go_ret
      exact ⟨.mk true rfl ⟨fun _ => hco, fun _ => rfl⟩, hbl⟩
end Go.Proofs.Qxb6604686a
