import Derived.Test.Qxb6604686aF3
namespace Go.Proofs.Qxb6604686a
open Go.ChangeShapes Go.WideShapes Go.ChangeAt Go.RowKit
set_option linter.unusedVariables false

/-- What allowedBytesFit says. -/
structure Fit (nH nG nU nX nB : Nat) (revoke : List IRow) (assign : List LRow) (js : List IRow) (es : List Excl) : Prop where
  held : nH ≤ 131072
  asg : nG ≤ 131072
  au : nU ≤ 131072
  extra : nX ≤ 131072
  broken : nB ≤ 131072
  revokeL : revoke.length ≤ 65536
  assignL : assign.length ≤ 65536
  jsL : js.length ≤ 65536
  esL : es.length ≤ 65536
  revoke : ∀ (q : Nat) (y : IRow), q < revoke.length → revoke[q]? = some y → y.xs.length ≤ 131072
  assign : ∀ (q : Nat) (y : LRow), q < assign.length → assign[q]? = some y → y.xs.length ≤ 131072
  js : ∀ (q : Nat) (y : IRow), q < js.length → js[q]? = some y → y.xs.length ≤ 131072
  es : ∀ (q : Nat) (y : Excl), q < es.length → es[q]? = some y → y.roles.xs.length ≤ 131072
theorem below_succ {α : Type} {P : α → Prop} {xs : List α} {k : Nat} (h : ∀ (q : Nat) (y : α), q < k → xs[q]? = some y → P y) {x : α} (hx : xs[k]? = some x) (hP : P x) : ∀ (q : Nat) (y : α), q < k + 1 → xs[q]? = some y → P y := by
  intro q y hq hy
  by_cases hqk : q = k
  · subst hqk; rw [hx] at hy; cases hy; exact hP
  · exact h q y (by omega) hy

set_option maxRecDepth 100000 in
set_option maxHeartbeats 8000000 in
theorem fit_any (anH anG anU anX aR aS aJ aE aB : Option Addr) (cnH cnG cnU cnX cR cS cJ cE cB nH nG nU nX nB : Nat) (revoke : List IRow) (assign : List LRow) (js : List IRow) (es : List Excl) (w : World) (hR : Rs Any w aR revoke) (hS : As Any w aS assign) (hJ : Rs Any w aJ js) (hE : Es Any w aE es) :
    Calls Try.prog 20 #[.slice anH nH cnH, .slice anG nG cnG, .slice anU nU cnU, .slice anX nX cnX, .slice aR revoke.length cR, .slice aS assign.length cS, .slice aJ js.length cJ, .slice aE es.length cE, .slice aB nB cB] w fun e w' => RetImp (Fit nH nG nU nX nB revoke assign js es) e ∧ Below w.heap.size w w' := by
  go_enter Try.func20, Try.ntmps20
  by_cases hc1 : (131072 : Int) < (nH : Int)
  · go_wp2_with fail
    go_ret
    exact ⟨RetImp.no _, Below.refl _ _⟩
  by_cases hc2 : (131072 : Int) < (nG : Int)
  · go_wp2_with fail
    go_ret
    exact ⟨RetImp.no _, Below.refl _ _⟩
  by_cases hc3 : (131072 : Int) < (nU : Int)
  · go_wp2_with fail
    go_ret
    exact ⟨RetImp.no _, Below.refl _ _⟩
  by_cases hc4 : (131072 : Int) < (nX : Int)
  · go_wp2_with fail
    go_ret
    exact ⟨RetImp.no _, Below.refl _ _⟩
  by_cases hc5 : (131072 : Int) < (nB : Int)
  · go_wp2_with fail
    go_ret
    exact ⟨RetImp.no _, Below.refl _ _⟩
  by_cases hc6 : (65536 : Int) < (revoke.length : Int)
  · go_wp2_with fail
    go_ret
    exact ⟨RetImp.no _, Below.refl _ _⟩
  by_cases hc7 : (65536 : Int) < (assign.length : Int)
  · go_wp2_with fail
    go_ret
    exact ⟨RetImp.no _, Below.refl _ _⟩
  by_cases hc8 : (65536 : Int) < (js.length : Int)
  · go_wp2_with fail
    go_ret
    exact ⟨RetImp.no _, Below.refl _ _⟩
  by_cases hc9 : (65536 : Int) < (es.length : Int)
  · go_wp2_with fail
    go_ret
    exact ⟨RetImp.no _, Below.refl _ _⟩
  by_cases hc10 : (1048576 : Int) < 8 * ((nH : Int) + (nG : Int) + (nU : Int) + (nX : Int) + (nB : Int)) + 24 * ((revoke.length : Int) + (assign.length : Int) + (js.length : Int)) + 32 * (es.length : Int)
  · go_wp2_with fail
    go_ret
    exact ⟨RetImp.no _, Below.refl _ _⟩
  have F0 : Hid (nH ≤ 131072) := show nH ≤ 131072 by omega
  have F1 : Hid (nG ≤ 131072) := show nG ≤ 131072 by omega
  have F2 : Hid (nU ≤ 131072) := show nU ≤ 131072 by omega
  have F3 : Hid (nX ≤ 131072) := show nX ≤ 131072 by omega
  have F4 : Hid (nB ≤ 131072) := show nB ≤ 131072 by omega
  have F5 : Hid (revoke.length ≤ 65536) := show revoke.length ≤ 65536 by omega
  have F6 : Hid (assign.length ≤ 65536) := show assign.length ≤ 65536 by omega
  have F7 : Hid (js.length ≤ 65536) := show js.length ≤ 65536 by omega
  have F8 : Hid (es.length ≤ 65536) := show es.length ≤ 65536 by omega
  go_wp2_with fail
  go_loopg [19, 104] revoke.length (fun g v i wr => ∃ (k z : Nat), k + g = revoke.length ∧ v = .int .i64 (z : Int) ∧ z ≤ 1048576 ∧ i = .int .i64 (k : Int) ∧ (∀ (q : Nat) (y : IRow), q < k → revoke[q]? = some y → y.xs.length ≤ 131072) ∧ Below w.heap.size w wr)
  case atStart => exact ⟨0, 8 * (nH + nG + nU + nX + nB) + 24 * (revoke.length + assign.length + js.length) + 32 * es.length, by omega, by first | rfl | simp, by omega, rfl, fun q y hq => by omega, Below.refl _ _⟩
  case round =>
    obtain ⟨k, z, hk, rfl, hz, rfl, hall, hbl⟩ := hrel
    by_cases hlt : k < revoke.length
    · have G0 : Hid (revoke[k]? = some revoke[k]) := List.getElem?_eq_getElem hlt
      obtain ⟨⟨b1, o1, e1, _, c1⟩, _⟩ := (hR.keep (keepsB hbl _)) k _ G0.out
      generalize revoke[k] = row at *
      obtain ⟨ra, rc, rx⟩ := row
      unfold IRow.val at c1
      dsimp only at c1
      subst e1
      have q1 : (k : Int) < (revoke.length : Int) := by omega
      have q2 : (0 : Int) ≤ (k : Int) := by omega
      by_cases hc11 : (131072 : Int) < (rx.length : Int)
      · go_wp2_with fail
        go_ret
        exact ⟨RetImp.no _, hbl⟩
      by_cases hc12 : (1048576 : Int) < (z : Int) + 8 * (rx.length : Int)
      · go_wp2_with fail
        go_ret
        exact ⟨RetImp.no _, hbl⟩
      have HN : ∀ (q : Nat) (y : IRow), q < k + 1 → revoke[q]? = some y → y.xs.length ≤ 131072 := below_succ (P := fun y : IRow => y.xs.length ≤ 131072) hall G0.out (by dsimp only; omega)
      clear hall
      go_wp2_with fail
      go_roundg (gk - 1)
      case measure => omega
      case rel => exact ⟨k + 1, z + 8 * rx.length, by omega, by first | rfl | simp, by omega, by go_num, HN, hbl⟩
    · have R1 : Hid (∀ (q : Nat) (y : IRow), q < revoke.length → revoke[q]? = some y → y.xs.length ≤ 131072) := fun q y hq => hall q y (by omega)
      clear hall hk
      go_wp2_with fail
      generalize gk = g1 at *
      go_loopg [19, 121] assign.length (fun g v i wr => ∃ (k z : Nat), k + g = assign.length ∧ v = .int .i64 (z : Int) ∧ z ≤ 1048576 ∧ i = .int .i64 (k : Int) ∧ (∀ (q : Nat) (y : LRow), q < k → assign[q]? = some y → y.xs.length ≤ 131072) ∧ Below w.heap.size w wr)
      case atStart => exact ⟨0, z, by omega, rfl, hz, rfl, fun q y hq => by omega, hbl⟩
      case round =>
        clear hz hbl
        obtain ⟨k, z, hk, rfl, hz, rfl, hall, hbl⟩ := hrel
        by_cases hlt : k < assign.length
        · have G0 : Hid (assign[k]? = some assign[k]) := List.getElem?_eq_getElem hlt
          obtain ⟨⟨b1, o1, e1, _, c1⟩, _⟩ := (hS.keep (keepsB hbl _)) k _ G0.out
          have hls := (hS k _ G0.out).2
          generalize assign[k] = row at *
          obtain ⟨ra, rc, rx⟩ := row
          unfold LRow.val at c1
          dsimp only at c1 hls
          subst e1
          have q1 : (k : Int) < (assign.length : Int) := by omega
          have q2 : (0 : Int) ≤ (k : Int) := by omega
          by_cases hc13 : (131072 : Int) < (rx.length : Int)
          · go_wp2_with fail
            go_ret
            exact ⟨RetImp.no _, hbl⟩
          by_cases hc14 : (1048576 : Int) < (z : Int) + 56 * (rx.length : Int)
          · go_wp2_with fail
            go_ret
            exact ⟨RetImp.no _, hbl⟩
          have HN : ∀ (q : Nat) (y : LRow), q < k + 1 → assign[q]? = some y → y.xs.length ≤ 131072 := below_succ (P := fun y : LRow => y.xs.length ≤ 131072) hall G0.out (by dsimp only; omega)
          clear hall
          go_wp2_with fail
          clear c1
          generalize wr = w3 at *
          generalize gk = g2 at *
          go_loopg [19, 137] rx.length (fun g v i wr => ∃ (k2 z : Nat), k2 + g = rx.length ∧ v = .int .i64 (z : Int) ∧ z ≤ 1048576 ∧ i = .int .i64 (k2 : Int) ∧ Below w.heap.size w wr)
          case atStart => exact ⟨0, z + 56 * rx.length, by omega, by first | rfl | simp, by omega, rfl, hbl⟩
          case round =>
            clear hbl
            obtain ⟨k2, z2, hk2, rfl, hz2, rfl, hbl⟩ := hrel
            by_cases hlt2 : k2 < rx.length
            · have G2 : Hid (rx[k2]? = some rx[k2]) := List.getElem?_eq_getElem hlt2
              obtain ⟨⟨b2, o2, e2, _, d0, d1, d2⟩, _, _⟩ := (hls.keep (keepsB hbl _)) k2 _ G2.out
              generalize rx[k2] = rule at *
              obtain ⟨adm, ⟨xa, xc, xx⟩, ⟨fa, fc, fx⟩⟩ := rule
              unfold WRow.val at d1 d2
              dsimp only at d0 d1 d2
              subst e2
              have q3 : (k2 : Int) < (rx.length : Int) := by omega
              have q4 : (0 : Int) ≤ (k2 : Int) := by omega
              by_cases hc15 : (131072 : Int) < (xx.length : Int)
              · go_wp2_with fail
                go_ret
                exact ⟨RetImp.no _, hbl.alloc hbl.size _⟩
              by_cases hc16 : (131072 : Int) < (fx.length : Int)
              · go_wp2_with fail
                go_ret
                exact ⟨RetImp.no _, hbl.alloc hbl.size _⟩
              by_cases hc17 : (1048576 : Int) < (z2 : Int) + 8 * ((xx.length : Int) + (fx.length : Int))
              · go_wp2_with fail
                go_ret
                exact ⟨RetImp.no _, hbl.alloc hbl.size _⟩
              go_wp2_with fail
              go_roundg (gk - 1)
              case measure => omega
              case rel => exact ⟨k2 + 1, z2 + 8 * (xx.length + fx.length), by omega, by first | rfl | simp, by omega, by go_num, hbl.alloc hbl.size _⟩
            · go_wp2_with fail
              go_roundg (g2 - 1)
              case measure => omega
              case rel => exact ⟨k + 1, z2, by omega, rfl, by omega, by go_num, HN, hbl⟩
        · have R2 : Hid (∀ (q : Nat) (y : LRow), q < assign.length → assign[q]? = some y → y.xs.length ≤ 131072) := fun q y hq => hall q y (by omega)
          clear hall hk
          go_wp2_with fail
          generalize gk = g3 at *
          go_loopg [19, 167] js.length (fun g v i wr => ∃ (k z : Nat), k + g = js.length ∧ v = .int .i64 (z : Int) ∧ z ≤ 1048576 ∧ i = .int .i64 (k : Int) ∧ (∀ (q : Nat) (y : IRow), q < k → js[q]? = some y → y.xs.length ≤ 131072) ∧ Below w.heap.size w wr)
          case atStart => exact ⟨0, z, by omega, by first | rfl | simp, by omega, rfl, fun q y hq => by omega, hbl⟩
          case round =>
            obtain ⟨k, z, hk, rfl, hz, rfl, hall, hbl⟩ := hrel
            by_cases hlt : k < js.length
            · have G0 : Hid (js[k]? = some js[k]) := List.getElem?_eq_getElem hlt
              obtain ⟨⟨b1, o1, e1, _, c1⟩, _⟩ := (hJ.keep (keepsB hbl _)) k _ G0.out
              generalize js[k] = row at *
              obtain ⟨ra, rc, rx⟩ := row
              unfold IRow.val at c1
              dsimp only at c1
              subst e1
              have q1 : (k : Int) < (js.length : Int) := by omega
              have q2 : (0 : Int) ≤ (k : Int) := by omega
              by_cases hc18 : (131072 : Int) < (rx.length : Int)
              · go_wp2_with fail
                go_ret
                exact ⟨RetImp.no _, hbl⟩
              by_cases hc19 : (1048576 : Int) < (z : Int) + 8 * (rx.length : Int)
              · go_wp2_with fail
                go_ret
                exact ⟨RetImp.no _, hbl⟩
              have HN : ∀ (q : Nat) (y : IRow), q < k + 1 → js[q]? = some y → y.xs.length ≤ 131072 := below_succ (P := fun y : IRow => y.xs.length ≤ 131072) hall G0.out (by dsimp only; omega)
              clear hall
              go_wp2_with fail
              go_roundg (gk - 1)
              case measure => omega
              case rel => exact ⟨k + 1, z + 8 * rx.length, by omega, by first | rfl | simp, by omega, by go_num, HN, hbl⟩
            · have R3 : Hid (∀ (q : Nat) (y : IRow), q < js.length → js[q]? = some y → y.xs.length ≤ 131072) := fun q y hq => hall q y (by omega)
              clear hall hk
              go_wp2_with fail
              generalize gk = g4 at *
              go_loopg [19, 184] es.length (fun g v i wr => ∃ (k z : Nat), k + g = es.length ∧ v = .int .i64 (z : Int) ∧ z ≤ 1048576 ∧ i = .int .i64 (k : Int) ∧ (∀ (q : Nat) (y : Excl), q < k → es[q]? = some y → y.roles.xs.length ≤ 131072) ∧ Below w.heap.size w wr)
              case atStart => exact ⟨0, z, by omega, by first | rfl | simp, by omega, rfl, fun q y hq => by omega, hbl⟩
              case round =>
                obtain ⟨k, z, hk, rfl, hz, rfl, hall, hbl⟩ := hrel
                by_cases hlt : k < es.length
                · have G0 : Hid (es[k]? = some es[k]) := List.getElem?_eq_getElem hlt
                  obtain ⟨⟨b1, o1, e1, _, c1, c2⟩, _⟩ := (hE.keep (keepsB hbl _)) k _ G0.out
                  generalize es[k] = row at *
                  obtain ⟨⟨ra, rc, rx⟩, lim⟩ := row
                  unfold IRow.val at c1
                  dsimp only at c1
                  subst e1
                  have q1 : (k : Int) < (es.length : Int) := by omega
                  have q2 : (0 : Int) ≤ (k : Int) := by omega
                  by_cases hc20 : (131072 : Int) < (rx.length : Int)
                  · go_wp2_with fail
                    go_ret
                    exact ⟨RetImp.no _, hbl.alloc hbl.size _⟩
                  by_cases hc21 : (1048576 : Int) < (z : Int) + 8 * (rx.length : Int)
                  · go_wp2_with fail
                    go_ret
                    exact ⟨RetImp.no _, hbl.alloc hbl.size _⟩
                  have HN : ∀ (q : Nat) (y : Excl), q < k + 1 → es[q]? = some y → y.roles.xs.length ≤ 131072 := below_succ (P := fun y : Excl => y.roles.xs.length ≤ 131072) hall G0.out (by dsimp only; omega)
                  clear hall
                  go_wp2_with fail
                  go_roundg (gk - 1)
                  case measure => omega
                  case rel => exact ⟨k + 1, z + 8 * rx.length, by omega, by first | rfl | simp, by omega, by go_num, HN, hbl.alloc hbl.size _⟩
                · have R4 : Hid (∀ (q : Nat) (y : Excl), q < es.length → es[q]? = some y → y.roles.xs.length ≤ 131072) := fun q y hq => hall q y (by omega)
                  clear hall hk
                  go_wp2_with fail
                  go_ret
                  exact ⟨RetImp.yes ⟨F0.out, F1.out, F2.out, F3.out, F4.out, F5.out, F6.out, F7.out, F8.out, R1.out, R2.out, R3.out, R4.out⟩, hbl⟩
end Go.Proofs.Qxb6604686a
