import Derived.Test.Qxb6604686aM3
namespace Go.Proofs.Qxb6604686a
open Go.ChangeShapes Go.WideShapes Go.ChangeAt Go.RowKit
set_option linter.unusedVariables false

/-- A Boolean; if it is true, p holds. -/
def RetImp (p : Prop) (e : Ending) : Prop := ∃ b : Bool, e = .returned (.bool b) ∧ (b = true → p)
theorem RetImp.no (p : Prop) : RetImp p (.returned (.bool false)) := ⟨false, rfl, fun h => by cases h⟩
theorem RetImp.yes {p : Prop} (h : p) : RetImp p (.returned (.bool true)) := ⟨true, rfl, fun _ => h⟩

set_option maxRecDepth 100000 in
set_option maxHeartbeats 8000000 in
theorem bytes_any (anH anG anU aR aS aJ aE aB : Option Addr) (cnH cnG cnU cR cS cJ cE cB nH nG nU nB : Nat) (r : Int) (revoke : List IRow) (assign : List LRow) (js : List IRow) (es : List Excl) (w : World) (hR : Rs Any w aR revoke) (hS : As Any w aS assign) (hJ : Rs Any w aJ js) (hE : Es Any w aE es) :
    Calls Try.prog 19 #[.slice anH nH cnH, .slice anG nG cnG, .slice anU nU cnU, .int .i64 r, .slice aR revoke.length cR, .slice aS assign.length cS, .slice aJ js.length cJ, .slice aE es.length cE, .slice aB nB cB] w fun e w' => RetImp True e ∧ Below w.heap.size w w' := by
  go_enter Try.func19, Try.ntmps19
  by_cases hc1 : (1048576 : Int) < (nH : Int)
  · go_wp2_with fail
    go_ret
    exact ⟨RetImp.no _, Below.refl _ _⟩
  by_cases hc2 : (1048576 : Int) < (nG : Int)
  · go_wp2_with fail
    go_ret
    exact ⟨RetImp.no _, Below.refl _ _⟩
  by_cases hc3 : (1048576 : Int) < (nH : Int) + (nG : Int)
  · go_wp2_with fail
    go_ret
    exact ⟨RetImp.no _, Below.refl _ _⟩
  by_cases hc4 : (1048576 : Int) < (nU : Int)
  · go_wp2_with fail
    go_ret
    exact ⟨RetImp.no _, Below.refl _ _⟩
  by_cases hc5 : (1048576 : Int) < (nH : Int) + (nG : Int) + (nU : Int)
  · go_wp2_with fail
    go_ret
    exact ⟨RetImp.no _, Below.refl _ _⟩
  by_cases hc6 : (1048576 : Int) < (revoke.length : Int)
  · go_wp2_with fail
    go_ret
    exact ⟨RetImp.no _, Below.refl _ _⟩
  by_cases hc7 : (1048576 : Int) < (nH : Int) + (nG : Int) + (nU : Int) + (revoke.length : Int)
  · go_wp2_with fail
    go_ret
    exact ⟨RetImp.no _, Below.refl _ _⟩
  go_wp2_with fail
  go_loopg [19, 20] revoke.length (fun g v i wr => ∃ (k z : Nat), k + g = revoke.length ∧ v = .int .i64 (z : Int) ∧ z ≤ 1048576 ∧ i = .int .i64 (k : Int) ∧ w = wr)
  case atStart => exact ⟨0, nH + nG + nU + revoke.length, by omega, by first | rfl | simp, by omega, rfl, rfl⟩
  case round =>
    obtain ⟨k, z, hk, rfl, hz, rfl, hwr⟩ := hrel
    subst hwr
    by_cases hlt : k < revoke.length
    · have G0 : Hid (revoke[k]? = some revoke[k]) := List.getElem?_eq_getElem hlt
      obtain ⟨⟨b1, o1, e1, _, c1⟩, _⟩ := hR k _ G0.out
      generalize revoke[k] = row at *
      obtain ⟨ra, rc, rx⟩ := row
      unfold IRow.val at c1
      dsimp only at *
      subst e1
      have q1 : (k : Int) < (revoke.length : Int) := by omega
      have q2 : (0 : Int) ≤ (k : Int) := by omega
      by_cases hc8 : (1048576 : Int) < (rx.length : Int)
      · go_wp2_with fail
        go_ret
        exact ⟨RetImp.no _, Below.refl _ _⟩
      by_cases hc9 : (1048576 : Int) < (z : Int) + (rx.length : Int)
      · go_wp2_with fail
        go_ret
        exact ⟨RetImp.no _, Below.refl _ _⟩
      go_wp2_with fail
      go_roundg (gk - 1)
      case measure => omega
      case rel => exact ⟨k + 1, z + rx.length, by omega, by first | rfl | simp, by omega, by go_num, rfl⟩
    · skip
      by_cases hc10 : (1048576 : Int) < (assign.length : Int)
      · go_wp2_with fail
        go_ret
        exact ⟨RetImp.no _, Below.refl _ _⟩
      by_cases hc11 : (1048576 : Int) < (z : Int) + (assign.length : Int)
      · go_wp2_with fail
        go_ret
        exact ⟨RetImp.no _, Below.refl _ _⟩
      go_wp2_with fail
      generalize gk = g1 at *
      go_loopg [19, 21] assign.length (fun g v i wr => ∃ (k z : Nat), k + g = assign.length ∧ v = .int .i64 (z : Int) ∧ z ≤ 1048576 ∧ i = .int .i64 (k : Int) ∧ w = wr)
      case atStart => exact ⟨0, z + assign.length, by omega, by first | rfl | simp, by omega, rfl, rfl⟩
      case round =>
        clear hk hz
        obtain ⟨k, z, hk, rfl, hz, rfl, hwr⟩ := hrel
        subst hwr
        by_cases hlt : k < assign.length
        · have G0 : Hid (assign[k]? = some assign[k]) := List.getElem?_eq_getElem hlt
          obtain ⟨⟨b1, o1, e1, _, c1⟩, hls⟩ := hS k _ G0.out
          generalize assign[k] = row at *
          obtain ⟨ra, rc, rx⟩ := row
          unfold LRow.val at c1
          dsimp only at *
          subst e1
          have q1 : (k : Int) < (assign.length : Int) := by omega
          have q2 : (0 : Int) ≤ (k : Int) := by omega
          by_cases hc12 : (1048576 : Int) < (rx.length : Int)
          · go_wp2_with fail
            go_ret
            exact ⟨RetImp.no _, Below.refl _ _⟩
          by_cases hc13 : (1048576 : Int) < (z : Int) + (rx.length : Int)
          · go_wp2_with fail
            go_ret
            exact ⟨RetImp.no _, Below.refl _ _⟩
          go_wp2_with fail
          generalize gk = g2 at *
          go_loopg [19, 22] rx.length (fun g v i wr => ∃ (k z : Nat), k + g = rx.length ∧ v = .int .i64 (z : Int) ∧ z ≤ 1048576 ∧ i = .int .i64 (k : Int) ∧ w = wr)
          case atStart => exact ⟨0, z + rx.length, by omega, by first | rfl | simp, by omega, rfl, rfl⟩
          case round =>
            obtain ⟨k2, z2, hk2, rfl, hz2, rfl, hwr⟩ := hrel
            subst hwr
            by_cases hlt2 : k2 < rx.length
            · have G2 : Hid (rx[k2]? = some rx[k2]) := List.getElem?_eq_getElem hlt2
              obtain ⟨⟨b2, o2, e2, _, d0, d1, d2⟩, _, _⟩ := hls k2 _ G2.out
              generalize rx[k2] = rule at *
              obtain ⟨adm, ⟨xa, xc, xx⟩, ⟨fa, fc, fx⟩⟩ := rule
              unfold WRow.val at d1 d2
              dsimp only at *
              subst e2
              have q3 : (k2 : Int) < (rx.length : Int) := by omega
              have q4 : (0 : Int) ≤ (k2 : Int) := by omega
              by_cases hc14 : (1048576 : Int) < (xx.length : Int)
              · go_wp2_with fail
                go_ret
                exact ⟨RetImp.no _, Below.refl _ _⟩
              by_cases hc15 : (1048576 : Int) < (z2 : Int) + (xx.length : Int)
              · go_wp2_with fail
                go_ret
                exact ⟨RetImp.no _, Below.refl _ _⟩
              by_cases hc16 : (1048576 : Int) < (fx.length : Int)
              · go_wp2_with fail
                go_ret
                exact ⟨RetImp.no _, Below.refl _ _⟩
              by_cases hc17 : (1048576 : Int) < (z2 : Int) + (xx.length : Int) + (fx.length : Int)
              · go_wp2_with fail
                go_ret
                exact ⟨RetImp.no _, Below.refl _ _⟩
              go_wp2_with fail
              go_roundg (gk - 1)
              case measure => omega
              case rel => exact ⟨k2 + 1, z2 + xx.length + fx.length, by omega, by first | rfl | simp, by omega, by go_num, rfl⟩
            · go_wp2_with fail
              go_roundg (g2 - 1)
              case measure => omega
              case rel => exact ⟨k + 1, z2, by omega, rfl, by omega, by go_num, rfl⟩
        · clear hk
          by_cases hc18 : (1048576 : Int) < (js.length : Int)
          · go_wp2_with fail
            go_ret
            exact ⟨RetImp.no _, Below.refl _ _⟩
          by_cases hc19 : (1048576 : Int) < (z : Int) + (js.length : Int)
          · go_wp2_with fail
            go_ret
            exact ⟨RetImp.no _, Below.refl _ _⟩
          go_wp2_with fail
          generalize gk = g3 at *
          go_loopg [19, 23] js.length (fun g v i wr => ∃ (k z : Nat), k + g = js.length ∧ v = .int .i64 (z : Int) ∧ z ≤ 1048576 ∧ i = .int .i64 (k : Int) ∧ w = wr)
          case atStart => exact ⟨0, z + js.length, by omega, by first | rfl | simp, by omega, rfl, rfl⟩
          case round =>
            obtain ⟨k, z, hk, rfl, hz, rfl, hwr⟩ := hrel
            subst hwr
            by_cases hlt : k < js.length
            · have G0 : Hid (js[k]? = some js[k]) := List.getElem?_eq_getElem hlt
              obtain ⟨⟨b1, o1, e1, _, c1⟩, _⟩ := hJ k _ G0.out
              generalize js[k] = row at *
              obtain ⟨ra, rc, rx⟩ := row
              unfold IRow.val at c1
              dsimp only at *
              subst e1
              have q1 : (k : Int) < (js.length : Int) := by omega
              have q2 : (0 : Int) ≤ (k : Int) := by omega
              by_cases hc20 : (1048576 : Int) < (rx.length : Int)
              · go_wp2_with fail
                go_ret
                exact ⟨RetImp.no _, Below.refl _ _⟩
              by_cases hc21 : (1048576 : Int) < (z : Int) + (rx.length : Int)
              · go_wp2_with fail
                go_ret
                exact ⟨RetImp.no _, Below.refl _ _⟩
              go_wp2_with fail
              go_roundg (gk - 1)
              case measure => omega
              case rel => exact ⟨k + 1, z + rx.length, by omega, by first | rfl | simp, by omega, by go_num, rfl⟩
            · skip
              by_cases hc22 : (1048576 : Int) < (es.length : Int)
              · go_wp2_with fail
                go_ret
                exact ⟨RetImp.no _, Below.refl _ _⟩
              by_cases hc23 : (1048576 : Int) < (z : Int) + (es.length : Int)
              · go_wp2_with fail
                go_ret
                exact ⟨RetImp.no _, Below.refl _ _⟩
              go_wp2_with fail
              generalize gk = g4 at *
              go_loopg [19, 24] es.length (fun g v i wr => ∃ (k z : Nat), k + g = es.length ∧ v = .int .i64 (z : Int) ∧ z ≤ 1048576 ∧ i = .int .i64 (k : Int) ∧ w = wr)
              case atStart => exact ⟨0, z + es.length, by omega, by first | rfl | simp, by omega, rfl, rfl⟩
              case round =>
                obtain ⟨k, z, hk, rfl, hz, rfl, hwr⟩ := hrel
                subst hwr
                by_cases hlt : k < es.length
                · have G0 : Hid (es[k]? = some es[k]) := List.getElem?_eq_getElem hlt
                  obtain ⟨⟨b1, o1, e1, _, c1, c2⟩, _⟩ := hE k _ G0.out
                  generalize es[k] = row at *
                  obtain ⟨⟨ra, rc, rx⟩, lim⟩ := row
                  unfold IRow.val at c1
                  dsimp only at *
                  subst e1
                  have q1 : (k : Int) < (es.length : Int) := by omega
                  have q2 : (0 : Int) ≤ (k : Int) := by omega
                  by_cases hc24 : (1048576 : Int) < (rx.length : Int)
                  · go_wp2_with fail
                    go_ret
                    exact ⟨RetImp.no _, Below.refl _ _⟩
                  by_cases hc25 : (1048576 : Int) < (z : Int) + (rx.length : Int)
                  · go_wp2_with fail
                    go_ret
                    exact ⟨RetImp.no _, Below.refl _ _⟩
                  go_wp2_with fail
                  go_roundg (gk - 1)
                  case measure => omega
                  case rel => exact ⟨k + 1, z + rx.length, by omega, by first | rfl | simp, by omega, by go_num, rfl⟩
                · skip
                  by_cases hc26 : (1048576 : Int) < (nB : Int)
                  · go_wp2_with fail
                    go_ret
                    exact ⟨RetImp.no _, Below.refl _ _⟩
                  by_cases hc27 : (1048576 : Int) < (z : Int) + (nB : Int)
                  · go_wp2_with fail
                    go_ret
                    exact ⟨RetImp.no _, Below.refl _ _⟩
                  go_wp2_with fail
                  go_ret
                  exact ⟨RetImp.yes trivial, Below.refl _ _⟩
end Go.Proofs.Qxb6604686a
