import Derived.Test.Qxb6604686aF1
namespace Go.Proofs.Qxb6604686a
open Go.ChangeShapes Go.WideShapes Go.ChangeAt Go.RowKit
set_option linter.unusedVariables false

/-! ### bitsWithin -/
/-- No bit at or beyond n, in the first k words. -/
def WinTo (n k : Nat) (ws : List Nat) : Prop := ∀ i x t, i < k → ws[i]? = some x → t < 64 → n ≤ 64 * i + t → x.testBit t = false
theorem WinTo.all {n k : Nat} {ws : List Nat} (h : WinTo n k ws) (hk : ws.length ≤ k) : Within n ws := fun j hj => by
  unfold bit
  rw [List.getD_eq_getElem?_getD]
  cases hc : ws[j / 64]? with
  | none => simp
  | some x =>
    have := (List.getElem?_eq_some_iff.1 hc).1
    exact h (j / 64) x (j % 64) (by omega) hc (Nat.mod_lt _ (by decide)) (by omega)
theorem WinTo.succ {n k : Nat} {ws : List Nat} (h : WinTo n k ws) {x : Nat} (hx : ws[k]? = some x) (hb : ∀ t, t < 64 → n ≤ 64 * k + t → x.testBit t = false) : WinTo n (k + 1) ws := by
  intro i x' t hi hx' ht hn
  by_cases hik : i = k
  · subst hik
    rw [hx] at hx'
    cases hx'
    exact hb t ht hn
  · exact h i x' t (by omega) hx' ht hn
theorem shr_bits {x s t : Nat} (h : x / 2 ^ s = 0) (ht : s ≤ t) : x.testBit t = false := by
  refine Nat.testBit_lt_two_pow (Nat.lt_of_lt_of_le ?_ (Nat.pow_le_pow_right (by decide) ht))
  rcases Nat.div_eq_zero_iff.1 h with h | h
  · exact absurd h (Nat.ne_of_gt (Nat.pow_pos (by decide)))
  · exact h

set_option maxHeartbeats 2000000 in
theorem within_any {D : Nat → Prop} (a : Option Addr) (cap n N : Nat) (ws : List Nat) (w : World) (h : Ws D w a ws) (hl : ws.length = N) (hN : N ≤ 131072) (hn : n ≤ 131072) :
    Calls Try.prog 34 #[.slice a N cap, .int .i64 (n : Int)] w fun e w' => RetImp (Within n ws) e ∧ Below w.heap.size w w' := by
  have HL : Hid (ws.length = N) := hl
  clear hl
  go_enter Try.func34, Try.ntmps34
  go_wp2_with fail
  go_loopg [5] N (fun g i wr => ∃ k : Nat, k + g = N ∧ i = .int .i64 k ∧ WinTo n k ws ∧ Below w.heap.size w wr)
  case atStart => exact ⟨0, by omega, rfl, fun i x t hi => by omega, Below.refl _ _⟩
  case round =>
    obtain ⟨k, hk, rfl, hwt, hbl⟩ := hrel
    by_cases hlt : k < N
    · have hk1 : k < ws.length := by rw [HL.out]; exact hlt
      have G0 : Hid (ws[k]? = some ws[k]) := List.getElem?_eq_getElem hk1
      obtain ⟨w0, b0, o0, e0, _, c0⟩ := (h.keep (keepsB hbl D)) k _ G0.out
      generalize ws[k] = x at *
      subst e0
      have q1 : (k : Int) < (N : Int) := by omega
      have q2 : (0 : Int) ≤ (k : Int) := by omega
      by_cases hge : (n : Int) ≤ (k : Int) * 64
      · by_cases hx : x = 0
        · subst hx
          have WS := hwt.succ G0.out (fun t _ _ => Nat.zero_testBit t)
          go_wp2_with fail
          go_roundg (gk - 1)
          case measure => omega
          case rel => exact ⟨k + 1, by omega, by go_num, WS, hbl⟩
        · have T1 : ((x : Int) != 0) = true := by rw [bne_iff_ne]; omega
          go_wp2_with fail
          go_ret
          exact ⟨RetImp.no _, hbl⟩
      · by_cases hs : (n : Int) - (k : Int) * 64 < 64
        · cases hT : ((x : Int) / 2 ^ (n - k * 64) != 0) with
          | false =>
            have WS : WinTo n (k + 1) ws := hwt.succ G0.out (fun t ht hn' => by
              have h0 : ((x / 2 ^ (n - k * 64) : Nat) : Int) = 0 := by
                have := hT
                simp only [bne_eq_false_iff_eq] at this
                rw [← this]; simp
              exact shr_bits (s := n - k * 64) (by omega) (by omega))
            go_wp2_with fail
            go_roundg (gk - 1)
            case measure => omega
            case rel => exact ⟨k + 1, by omega, by go_num, WS, hbl⟩
          | true =>
            go_wp2_with fail
            go_ret
            exact ⟨RetImp.no _, hbl⟩
        · have WS := hwt.succ G0.out (fun t _ _ => by omega)
          go_wp2_with fail
          go_roundg (gk - 1)
          case measure => omega
          case rel => exact ⟨k + 1, by omega, by go_num, WS, hbl⟩
    · have HW : Hid (Within n ws) := hwt.all (by rw [HL.out]; omega)
      clear hwt
      go_wp2_with fail
      go_ret
      exact ⟨RetImp.yes HW.out, hbl⟩
end Go.Proofs.Qxb6604686a
