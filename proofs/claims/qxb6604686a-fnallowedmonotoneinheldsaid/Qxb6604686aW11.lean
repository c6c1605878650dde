import Derived.Test.Qxb6604686aW10
namespace Go.Proofs.Qxb6604686a
open Go.ChangeShapes Go.WideShapes Go.ChangeAt Go.RowKit
set_option linter.unusedVariables false

set_option maxHeartbeats 1000000 in
theorem indexHeld_any {D : Nat → Prop} (bS : Nat) (a : Option Addr) (cap : Nat) (xs : List Int) (p : Int → Prop) (w : World) (hx : Is D w a xs) (hn : xs.length ≤ 1099511627776)
    (H : Hid (∀ y ∈ xs, ∀ wr, Below w.heap.size w wr → Calls Try.prog 49 #[.pointer (some ⟨bS, 0, none⟩), .int .i64 y] wr fun e w' => RetIff (p y) e ∧ Below wr.heap.size wr w')) :
    Calls Try.prog 51 #[.slice a xs.length cap, .func (.func 49) #[.pointer (some ⟨bS, 0, none⟩)] #[]] w fun e w' => RetIdx (∃ y ∈ xs, p y) e ∧ Below w.heap.size w w' := by
  go_enter Try.func51, Try.ntmps51
  go_wp2
  go_loopg [8] xs.length (fun g i wr => ∃ k : Nat, k + g = xs.length ∧ i = .int .i64 k ∧ (∀ (j : Nat) (y : Int), j < k → xs[j]? = some y → ¬ p y) ∧ Below w.heap.size w wr)
  case atStart => exact ⟨0, by omega, rfl, fun j _ hj => by omega, Below.refl _ _⟩
  case round =>
    obtain ⟨k, hk, rfl, hno, hbl⟩ := hrel
    have HN : Hid (∀ (j : Nat) (y : Int), j < k → xs[j]? = some y → ¬ p y) := hno
    clear hno
    by_cases hlt : k < xs.length
    · have G0 : Hid (xs[k]? = some xs[k]) := List.getElem?_eq_getElem hlt
      obtain ⟨b0, o0, e0, _, c0⟩ := (hx.keep (keepsB hbl D)) k _ G0.out
      subst e0
      have hlt' : (k : Int) < (xs.length : Int) := by omega
      have h0' : (0 : Int) ≤ (k : Int) := by omega
      have HM : Hid (xs[k] ∈ xs) := List.getElem_mem hlt
      generalize xs[k] = y at *
      go_wp2_with fail
      refine (H.out y HM.out _ hbl).mono ?_
      rintro e w' ⟨⟨b, rfl, hb⟩, hbl'⟩
      have hbl2 : Below w.heap.size w w' := hbl.trans (hbl'.mono hbl.size)
      cases b with
      | true =>
        have HP : Hid (p y) := hb.1 rfl
        clear hb
        go_wp2
        go_ret
        exact ⟨⟨(k : Int), rfl, fun _ => ⟨y, HM.out, HP.out⟩, fun _ => h0'⟩, hbl2⟩
      | false =>
        have HP : Hid (¬ p y) := fun h => Bool.noConfusion (hb.2 h)
        clear hb
        go_wp2
        go_roundg (gk - 1)
        case measure => omega
        case rel =>
          refine ⟨k + 1, by omega, by go_num, fun j z hj hz => ?_, hbl2⟩
          by_cases hjk : j = k
          · subst hjk
            rw [G0.out] at hz
            cases hz
            exact HP.out
          · exact HN.out j z (by omega) hz
    · go_wp2
      go_ret
      refine ⟨⟨-1, rfl, fun h => by omega, fun ⟨y, hy, hp⟩ => ?_⟩, hbl⟩
      obtain ⟨j, hj⟩ := List.getElem?_of_mem hy
      have := (List.getElem?_eq_some_iff.1 hj).1
      exact absurd hp (HN.out j y (by omega) hj)

set_option maxHeartbeats 1000000 in
theorem containsHeld_any {D : Nat → Prop} (bS : Nat) (a : Option Addr) (cap : Nat) (xs : List Int) (p : Int → Prop) (w : World) (hx : Is D w a xs) (hn : xs.length ≤ 1099511627776)
    (H : Hid (∀ y ∈ xs, ∀ wr, Below w.heap.size w wr → Calls Try.prog 49 #[.pointer (some ⟨bS, 0, none⟩), .int .i64 y] wr fun e w' => RetIff (p y) e ∧ Below wr.heap.size wr w')) :
    Calls Try.prog 48 #[.slice a xs.length cap, .func (.func 49) #[.pointer (some ⟨bS, 0, none⟩)] #[]] w fun e w' => RetIff (∃ y ∈ xs, p y) e ∧ Below w.heap.size w w' := by
  go_enter Try.func48, Try.ntmps48
  go_wp2_with fail
  refine (indexHeld_any bS a cap xs p w hx hn H).mono ?_
  rintro e w' ⟨⟨i, rfl, hi⟩, hbl⟩
  have HI : Hid (0 ≤ i ↔ ∃ y ∈ xs, p y) := hi
  clear hi
  go_wp2
  go_ret
  exact ⟨.mk _ rfl (by rw [decide_eq_true_iff]; exact HI.out), hbl⟩

set_option maxHeartbeats 1000000 in
theorem indexLit_any {D : Nat → Prop} (bx : Nat) (a : Option Addr) (cap : Nat) (xs : List Int) (p : Int → Prop) (w : World) (hx : Is D w a xs) (hn : xs.length ≤ 1099511627776)
    (H : Hid (∀ y ∈ xs, ∀ wr, Below w.heap.size w wr → Calls Try.prog 57 #[.int .i64 y, .pointer (some ⟨bx, 0, none⟩)] wr fun e w' => RetIff (p y) e ∧ Below wr.heap.size wr w')) :
    Calls Try.prog 51 #[.slice a xs.length cap, .func (.func 57) #[] #[.pointer (some ⟨bx, 0, none⟩)]] w fun e w' => RetIdx (∃ y ∈ xs, p y) e ∧ Below w.heap.size w w' := by
  go_enter Try.func51, Try.ntmps51
  go_wp2
  go_loopg [8] xs.length (fun g i wr => ∃ k : Nat, k + g = xs.length ∧ i = .int .i64 k ∧ (∀ (j : Nat) (y : Int), j < k → xs[j]? = some y → ¬ p y) ∧ Below w.heap.size w wr)
  case atStart => exact ⟨0, by omega, rfl, fun j _ hj => by omega, Below.refl _ _⟩
  case round =>
    obtain ⟨k, hk, rfl, hno, hbl⟩ := hrel
    have HN : Hid (∀ (j : Nat) (y : Int), j < k → xs[j]? = some y → ¬ p y) := hno
    clear hno
    by_cases hlt : k < xs.length
    · have G0 : Hid (xs[k]? = some xs[k]) := List.getElem?_eq_getElem hlt
      obtain ⟨b0, o0, e0, _, c0⟩ := (hx.keep (keepsB hbl D)) k _ G0.out
      subst e0
      have hlt' : (k : Int) < (xs.length : Int) := by omega
      have h0' : (0 : Int) ≤ (k : Int) := by omega
      have HM : Hid (xs[k] ∈ xs) := List.getElem_mem hlt
      generalize xs[k] = y at *
      go_wp2_with fail
      refine (H.out y HM.out _ hbl).mono ?_
      rintro e w' ⟨⟨b, rfl, hb⟩, hbl'⟩
      have hbl2 : Below w.heap.size w w' := hbl.trans (hbl'.mono hbl.size)
      cases b with
      | true =>
        have HP : Hid (p y) := hb.1 rfl
        clear hb
        go_wp2
        go_ret
        exact ⟨⟨(k : Int), rfl, fun _ => ⟨y, HM.out, HP.out⟩, fun _ => h0'⟩, hbl2⟩
      | false =>
        have HP : Hid (¬ p y) := fun h => Bool.noConfusion (hb.2 h)
        clear hb
        go_wp2
        go_roundg (gk - 1)
        case measure => omega
        case rel =>
          refine ⟨k + 1, by omega, by go_num, fun j z hj hz => ?_, hbl2⟩
          by_cases hjk : j = k
          · subst hjk
            rw [G0.out] at hz
            cases hz
            exact HP.out
          · exact HN.out j z (by omega) hz
    · go_wp2
      go_ret
      refine ⟨⟨-1, rfl, fun h => by omega, fun ⟨y, hy, hp⟩ => ?_⟩, hbl⟩
      obtain ⟨j, hj⟩ := List.getElem?_of_mem hy
      have := (List.getElem?_eq_some_iff.1 hj).1
      exact absurd hp (HN.out j y (by omega) hj)

set_option maxHeartbeats 1000000 in
theorem containsLit_any {D : Nat → Prop} (bx : Nat) (a : Option Addr) (cap : Nat) (xs : List Int) (p : Int → Prop) (w : World) (hx : Is D w a xs) (hn : xs.length ≤ 1099511627776)
    (H : Hid (∀ y ∈ xs, ∀ wr, Below w.heap.size w wr → Calls Try.prog 57 #[.int .i64 y, .pointer (some ⟨bx, 0, none⟩)] wr fun e w' => RetIff (p y) e ∧ Below wr.heap.size wr w')) :
    Calls Try.prog 48 #[.slice a xs.length cap, .func (.func 57) #[] #[.pointer (some ⟨bx, 0, none⟩)]] w fun e w' => RetIff (∃ y ∈ xs, p y) e ∧ Below w.heap.size w w' := by
  go_enter Try.func48, Try.ntmps48
  go_wp2_with fail
  refine (indexLit_any bx a cap xs p w hx hn H).mono ?_
  rintro e w' ⟨⟨i, rfl, hi⟩, hbl⟩
  have HI : Hid (0 ≤ i ↔ ∃ y ∈ xs, p y) := hi
  clear hi
  go_wp2
  go_ret
  exact ⟨.mk _ rfl (by rw [decide_eq_true_iff]; exact HI.out), hbl⟩
end Go.Proofs.Qxb6604686a
