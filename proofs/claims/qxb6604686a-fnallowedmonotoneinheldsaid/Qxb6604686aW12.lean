import Derived.Test.Qxb6604686aW11
namespace Go.Proofs.Qxb6604686a
open Go.ChangeShapes Go.WideShapes Go.ChangeAt Go.RowKit
set_option linter.unusedVariables false

/-- A rule serves: its administrator is held, its precondition met. -/
def Serves (hs au : List Nat) (x : Rule) : Prop := bit hs x.admin.toNat = true ∧ CondTo au.length au x.req.xs x.forb.xs
/-- What is asked of a rule, so that it can be looked at. -/
structure RuleOk (n : Nat) (x : Rule) : Prop where
  pos : 0 ≤ x.admin
  lt : x.admin.toNat / 64 < n
  req : x.req.xs.length = n
  forb : x.forb.xs.length = n

set_option maxHeartbeats 2000000 in
theorem ruleLit_any {D D2 D3 : Nat → Prop} (b1 b2 bS : Nat) (aH aU : Option Addr) (cH cU : Nat) (hs au : List Nat) (x : Rule) (w : World)
    (h1 : w.cell? ⟨b1, 0, none⟩ = some (.pointer (some ⟨bS, 0, none⟩))) (h2 : w.cell? ⟨b2, 0, none⟩ = some (.slice aU au.length cU)) (hc : w.cell? ⟨bS, 13, none⟩ = some (.slice aH hs.length cH))
    (hh : Ws D w aH hs) (hu : Ws D2 w aU au) (hr : Ws D3 w x.req.a x.req.xs) (hf : Ws D3 w x.forb.a x.forb.xs) (hl : au.length = hs.length) (hn : hs.length ≤ 131072) (ok : RuleOk hs.length x) :
    Calls Try.prog 53 #[.agg #[.int .i64 x.admin, x.req.val, x.forb.val], .pointer (some ⟨b1, 0, none⟩), .pointer (some ⟨b2, 0, none⟩)] w fun e w' => RetIff (Serves hs au x) e ∧ Below w.heap.size w w' := by
  obtain ⟨adm, ⟨ra, rc, rx⟩, ⟨fa, fc, fx⟩⟩ := x
  obtain ⟨ok1, ok2, ok3, ok4⟩ := ok
  dsimp only at ok1 ok2 ok3 ok4 hr hf
  obtain ⟨j, rfl⟩ := Int.eq_ofNat_of_zero_le ok1
  have ok2' : j / 64 < hs.length := by simpa using ok2
  have L1 : Hid (rx.length = au.length ∧ fx.length = au.length ∧ au.length = hs.length) := ⟨by omega, by omega, hl⟩
  have e1 : WRow.val ⟨ra, rc, rx⟩ = .slice ra au.length rc := by simp only [WRow.val]; rw [L1.out.1]
  have e2 : WRow.val ⟨fa, fc, fx⟩ = .slice fa au.length fc := by simp only [WRow.val]; rw [L1.out.2.1]
  rw [e1, e2]
  have b1w := cell_lt h1
  have b2w := cell_lt h2
  have bSw := cell_lt hc
  dsimp only at b1w b2w bSw
  clear ok3 ok4 hl e1 e2 ok1 ok2
  go_enter Try.func53, Try.ntmps53
  go_wp2_with fail
  refine (isHeld_any (D := D) bS aH cH j hs _ ?_ ?_ ok2' hn).mono ?_
  · exact (World.cell?_alloc_past _ _ _ bSw).trans hc
  · exact hh.keep (keeps_alloc _ _ _)
  rintro e w' ⟨rfl, rfl⟩
  cases hb : bit hs j with
  | false =>
    go_wp2
    go_ret
    exact ⟨.mk false rfl ⟨fun h => Bool.noConfusion h, fun h => by have := h.1; simp at this; rw [hb] at this; exact absurd this (by decide)⟩, (Below.refl _ _).alloc (Nat.le_refl _) _⟩
  | true =>
    have HB : Hid (bit hs j = true) := hb
    clear hb
    go_wp2_with fail
    refine (holds_any (D := Any) ra fa aU rc fc cU rx fx au _ ?_ ?_ ?_ L1.out.1 L1.out.2.1 ?_).mono ?_
    · exact (hr.mono fun _ _ _ => trivial).keep (keeps_alloc _ _ _)
    · exact (hf.mono fun _ _ _ => trivial).keep (keeps_alloc _ _ _)
    · exact (hu.mono fun _ _ _ => trivial).keep (keeps_alloc _ _ _)
    · rw [L1.out.2.2]; exact hn
    rintro e w1 ⟨⟨b, rfl, hb⟩, hbl⟩
    have HC : Hid (b = true ↔ CondTo au.length au rx fx) := hb
    clear hb
    go_wp2
    go_ret
    refine ⟨.mk b rfl ⟨fun h => ⟨by simpa using HB.out, HC.out.1 h⟩, fun h => HC.out.2 h.2⟩, ?_⟩
    exact ((Below.refl _ w).alloc (Nat.le_refl _) _).trans (hbl.mono (by simp))

set_option maxHeartbeats 1000000 in
theorem indexRule_any {D : Nat → Prop} (b1 b2 : Nat) (a : Option Addr) (cap : Nat) (xs : List Rule) (p : Rule → Prop) (w : World) (hx : Ls D w a xs) (hn : xs.length ≤ 131072)
    (H : Hid (∀ y ∈ xs, ∀ wr, Below w.heap.size w wr → Calls Try.prog 53 #[.agg #[.int .i64 y.admin, y.req.val, y.forb.val], .pointer (some ⟨b1, 0, none⟩), .pointer (some ⟨b2, 0, none⟩)] wr fun e w' => RetIff (p y) e ∧ Below wr.heap.size wr w')) :
    Calls Try.prog 52 #[.slice a xs.length cap, .func (.func 53) #[] #[.pointer (some ⟨b1, 0, none⟩), .pointer (some ⟨b2, 0, none⟩)]] w fun e w' => RetIdx (∃ y ∈ xs, p y) e ∧ Below w.heap.size w w' := by
  go_enter Try.func52, Try.ntmps52
  go_wp2
  go_loopg [8] xs.length (fun g i wr => ∃ k : Nat, k + g = xs.length ∧ i = .int .i64 k ∧ (∀ (j : Nat) (y : Rule), j < k → xs[j]? = some y → ¬ p y) ∧ Below w.heap.size w wr)
  case atStart => exact ⟨0, by omega, rfl, fun j _ hj => by omega, Below.refl _ _⟩
  case round =>
    obtain ⟨k, hk, rfl, hno, hbl⟩ := hrel
    have HN : Hid (∀ (j : Nat) (y : Rule), j < k → xs[j]? = some y → ¬ p y) := hno
    clear hno
    by_cases hlt : k < xs.length
    · have G0 : Hid (xs[k]? = some xs[k]) := List.getElem?_eq_getElem hlt
      obtain ⟨⟨b0, o0, e0, _, c0, c1, c2⟩, _, _⟩ := (hx.keep (keepsB hbl D)) k _ G0.out
      subst e0
      have hlt' : (k : Int) < (xs.length : Int) := by omega
      have h0' : (0 : Int) ≤ (k : Int) := by omega
      have HM : Hid (xs[k] ∈ xs) := List.getElem_mem hlt
      generalize xs[k] = y at *
      obtain ⟨adm, rq, fb⟩ := y
      dsimp only at c0 c1 c2
      have HC := H.out _ HM.out _ hbl
      have HC' : Hid (Calls Try.prog 53 #[.agg #[.int .i64 adm, rq.val, fb.val], .pointer (some ⟨b1, 0, none⟩), .pointer (some ⟨b2, 0, none⟩)] wr fun e w' => RetIff (p ⟨adm, rq, fb⟩) e ∧ Below wr.heap.size wr w') := HC
      clear HC
      unfold WRow.val at c1 c2
      go_wp2_with fail
      refine (HC'.out).mono ?_
      rintro e w' ⟨⟨b, rfl, hb⟩, hbl'⟩
      have hbl2 : Below w.heap.size w w' := hbl.trans (hbl'.mono hbl.size)
      cases b with
      | true =>
        have HP : Hid (p ⟨adm, rq, fb⟩) := hb.1 rfl
        clear hb
        go_wp2
        go_ret
        exact ⟨⟨(k : Int), rfl, fun _ => ⟨_, HM.out, HP.out⟩, fun _ => h0'⟩, hbl2⟩
      | false =>
        have HP : Hid (¬ p ⟨adm, rq, fb⟩) := fun h => Bool.noConfusion (hb.2 h)
        clear hb
        go_wp2
        go_roundg (gk - 1)
        case measure => omega
        case rel =>
          refine ⟨k + 1, by omega, by go_num, fun j z hj hz => ?_, hbl2⟩
          by_cases hjk : j = k
          · subst hjk
            rw [G0.out] at hz
            cases hz
            exact HP.out
          · exact HN.out j z (by omega) hz
    · go_wp2
      go_ret
      refine ⟨⟨-1, rfl, fun h => by omega, fun ⟨y, hy, hp⟩ => ?_⟩, hbl⟩
      obtain ⟨j, hj⟩ := List.getElem?_of_mem hy
      have := (List.getElem?_eq_some_iff.1 hj).1
      exact absurd hp (HN.out j y (by omega) hj)
end Go.Proofs.Qxb6604686a
