import Derived.Test.Qxb6604686aW9
namespace Go.Proofs.Qxb6604686a
open Go.ChangeShapes Go.WideShapes Go.ChangeAt Go.RowKit
set_option linter.unusedVariables false

/-! ### brokenBy -/
def cnt (ws : List Nat) (xs : List Int) : Nat := (xs.filter fun y => bit ws y.toNat).length
theorem cnt_le (ws : List Nat) (xs : List Int) : cnt ws xs ≤ xs.length := List.length_filter_le _ _
theorem cnt_snoc (ws : List Nat) (xs : List Int) (k : Nat) (y : Int) (h : xs[k]? = some y) : cnt ws (xs.take (k + 1)) = cnt ws (xs.take k) + if bit ws y.toNat then 1 else 0 := by
  unfold cnt
  rw [List.take_add_one, h, List.filter_append, List.length_append]
  cases hb : bit ws y.toNat <;> simp [hb]

set_option maxHeartbeats 1000000 in
theorem brokenBy_any {D D' : Nat → Prop} (aR aU : Option Addr) (cR cU : Nat) (xs : List Int) (lim : Int) (ws : List Nat) (w : World) (hr : Is D w aR xs) (hu : Ws D' w aU ws) (hx : ∀ y ∈ xs, 0 ≤ y ∧ y.toNat / 64 < ws.length) (hn : xs.length ≤ 131072) (hn2 : ws.length ≤ 131072) :
    Calls Try.prog 58 #[.agg #[.slice aR xs.length cR, .int .i64 lim], .slice aU ws.length cU] w fun e w' => RetIff (lim ≤ (cnt ws xs : Int)) e ∧ Below w.heap.size w w' := by
  go_enter Try.func58, Try.ntmps58
  go_wp2
  go_loopg [5, 11] xs.length (fun g c i wr => ∃ k : Nat, k + g = xs.length ∧ i = .int .i64 k ∧ c = .int .i64 (cnt ws (xs.take k) : Nat) ∧ Blk wr w.heap.size 88 [.slice aR xs.length cR, .int .i64 lim] ∧ Below w.heap.size w wr)
  case atStart => exact ⟨0, by omega, rfl, rfl, Blk.new w 88 _, (Below.refl _ _).alloc (Nat.le_refl _) _⟩
  case round =>
    obtain ⟨k, hk, rfl, rfl, hb, hbl⟩ := hrel
    have hcl : cnt ws (xs.take k) ≤ k := Nat.le_trans (cnt_le _ _) (List.length_take_le _ _)
    by_cases hlt : k < xs.length
    · have G0 : Hid (xs[k]? = some xs[k]) := List.getElem?_eq_getElem hlt
      obtain ⟨b0, o0, e0, _, c0⟩ := (hr.keep (keepsB hbl D)) k _ G0.out
      subst e0
      obtain ⟨hy0, hy1⟩ := hx xs[k] (List.getElem_mem hlt)
      have hlt' : (k : Int) < (xs.length : Int) := by omega
      have h0' : (0 : Int) ≤ (k : Int) := by omega
      generalize xs[k] = y at *
      obtain ⟨j, rfl⟩ := Int.eq_ofNat_of_zero_le hy0
      have CS : Hid (cnt ws (xs.take (k + 1)) = cnt ws (xs.take k) + if bit ws j then 1 else 0) := cnt_snoc ws xs k _ G0.out
      go_wp2_with fail
      refine (hasBit_any aU cU j ws _ (hu.keep (keepsB hbl D')) hy1 hn2).mono ?_
      rintro e w' ⟨rfl, rfl⟩
      cases hbit : bit ws j with
      | false =>
        have CS' : Hid (cnt ws (xs.take (k + 1)) = cnt ws (xs.take k)) := by
          show _ = _
          have := CS.out
          rw [hbit] at this
          simpa using this
        clear hbit CS
        go_wp2
        go_roundg (gk - 1)
        case measure => omega
        case rel => exact ⟨k + 1, by omega, by go_num, by rw [CS'.out], hb, hbl⟩
      | true =>
        have CS' : Hid (cnt ws (xs.take (k + 1)) = cnt ws (xs.take k) + 1) := by
          show _ = _
          have := CS.out
          rw [hbit] at this
          simpa using this
        clear hbit CS
        go_wp2
        go_roundg (gk - 1)
        case measure => omega
        case rel => exact ⟨k + 1, by omega, by go_num, by rw [CS'.out]; go_num, hb, hbl⟩
    · have hke : xs.take k = xs := List.take_of_length_le (by omega)
      have q1 : wr.cell? ⟨w.heap.size, 1, none⟩ = some (.int .i64 lim) := hb.cell 1
      have CK : Hid (cnt ws (xs.take k) = cnt ws xs) := by rw [hke]; rfl
      clear hke
      go_wp2
      go_ret
      refine ⟨.mk _ rfl ?_, hbl⟩
      rw [← CK.out]
      simp

/-! ### excluded's literal: constraint k, broken by the scratch set -/
set_option maxHeartbeats 2000000 in
theorem exLit_any {D D' : Nat → Prop} (bx bS : Nat) (aE aU : Option Addr) (cE cU : Nat) (es : List Excl) (ws : List Nat) (k : Nat) (ex : Excl) (w : World) (hbx : w.cell? ⟨bx, 0, none⟩ = some (.pointer (some ⟨bS, 0, none⟩)))
    (h9 : w.cell? ⟨bS, 9, none⟩ = some (.slice aE es.length cE)) (h16 : w.cell? ⟨bS, 16, none⟩ = some (.slice aU ws.length cU)) (he : Es D w aE es) (hu : Ws D' w aU ws) (hk : es[k]? = some ex)
    (hx : ∀ y ∈ ex.roles.xs, 0 ≤ y ∧ y.toNat / 64 < ws.length) (hn : ex.roles.xs.length ≤ 131072) (hn2 : ws.length ≤ 131072) :
    Calls Try.prog 57 #[.int .i64 (k : Int), .pointer (some ⟨bx, 0, none⟩)] w fun e w' => RetIff (ex.limit ≤ (cnt ws ex.roles.xs : Int)) e ∧ Below w.heap.size w w' := by
  obtain ⟨⟨b0, o0, e0, _, c0, c1⟩, hi⟩ := he k ex hk
  subst e0
  have hlt : k < es.length := (List.getElem?_eq_some_iff.1 hk).1
  have hlt' : (k : Int) < (es.length : Int) := by omega
  have h0' : (0 : Int) ≤ (k : Int) := by omega
  have Hk : Hid (es[k]? = some ex) := hk
  clear hk
  unfold IRow.val at c0
  go_enter Try.func57, Try.ntmps57
  go_wp2_with fail
  go_region_held3 (fun w' => w'.cell? ⟨bx, 0, none⟩ = some (.pointer (some ⟨bS, 0, none⟩)) ∧ w'.cell? ⟨bS, 9, none⟩ = some (.slice (some ⟨b0, o0, none⟩) es.length cE) ∧ w'.cell? ⟨bS, 16, none⟩ = some (.slice aU ws.length cU) ∧ w'.cell? ⟨b0, o0 + k * 2, none⟩ = some (.slice ex.roles.a ex.roles.xs.length ex.roles.cap) ∧ w'.cell? ⟨b0, o0 + k * 2 + 1, none⟩ = some (.int .i64 ex.limit)) (go_keep)
    (first | (go_at_call 58; refine (brokenBy_any (D := D) (D' := D') ex.roles.a aU ex.roles.cap cU ex.roles.xs ex.limit ws _ ?_ ?_ hx hn hn2).mono ?_; exact hi; exact hu; rintro e w1 ⟨⟨b, rfl, hb⟩, hbl⟩;
                    have z1 := (keepsB hbl Any).cell (p := ⟨bx, 0, none⟩) trivial hbx;
                    have z2 := (keepsB hbl Any).cell (p := ⟨bS, 9, none⟩) trivial h9;
                    have z3 := (keepsB hbl Any).cell (p := ⟨bS, 16, none⟩) trivial h16;
                    have z4 := (keepsB hbl Any).cell (p := ⟨b0, o0 + k * 2, none⟩) trivial c0;
                    have z5 := (keepsB hbl Any).cell (p := ⟨b0, o0 + k * 2 + 1, none⟩) trivial c1))
  have HB : Hid (b = true ↔ ex.limit ≤ (cnt ws ex.roles.xs : Int)) := hb
  clear hb
  go_wp2
  go_ret
  exact ⟨.mk b rfl HB.out, (Below.refl _ w).drew.trans hbl⟩
end Go.Proofs.Qxb6604686a
