import Derived.Test.Qxb6604686aF5
namespace Go.Proofs.Qxb6604686a
open Go.ChangeShapes Go.WideShapes Go.ChangeAt Go.RowKit
set_option linter.unusedVariables false

set_option maxRecDepth 100000 in
set_option maxHeartbeats 16000000 in
theorem domNil_any (aH aG aU aR aS aE aB : Option Addr) (cH cG cU cR cS cJ cE cB n N nG nU nS nJ nE nB : Nat) (r : Int) (held asg au : List Nat) (revoke : List IRow) (assign : List LRow) (js : List IRow) (es : List Excl) (broken : List Int) (w : World)
    (hH : Ws Any w aH held) (hG : Ws Any w aG asg) (hU : Ws Any w aU au) (hR : Rs Any w aR revoke) (hS : As Any w aS assign) (hE : Es Any w aE es) (hB : Is Any w aB broken)
    (lH : held.length = N) (lG : asg.length = nG) (lU : au.length = nU) (lR : revoke.length = n) (lS : assign.length = nS) (lE : es.length = nE) (lB : broken.length = nB)
    (hN17 : N ≤ 131072) (hG17 : nG ≤ 131072) (hU17 : nU ≤ 131072) (hn17 : n ≤ 65536) (hS17 : nS ≤ 65536) (hE17 : nE ≤ 65536) (hB17 : nB ≤ 131072)
    (hrr : ∀ row ∈ revoke, row.xs.length ≤ 131072) (hsr : ∀ row ∈ assign, row.xs.length ≤ 131072) (hwr : ∀ row ∈ assign, ∀ x ∈ row.xs, Ws Any w x.req.a x.req.xs ∧ Ws Any w x.forb.a x.forb.xs) (her : ∀ ex ∈ es, ex.roles.xs.length ≤ 131072) :
    Calls Try.prog 21 #[.slice aH N cH, .slice aG nG cG, .slice aU nU cU, .int .i64 r, .slice aR n cR, .slice aS nS cS, .slice none 0 cJ, .slice aE nE cE, .slice aB nB cB] w fun e w' => RetImp (Dom n N nG nU nS nE none js r au revoke assign es broken) e ∧ Below w.heap.size w w' := by
  have LH : Hid (held.length = N) := lH
  have LG : Hid (asg.length = nG) := lG
  have LU : Hid (au.length = nU) := lU
  have LR : Hid (revoke.length = n) := lR
  have LS : Hid (assign.length = nS) := lS
  have LE : Hid (es.length = nE) := lE
  have LB : Hid (broken.length = nB) := lB
  clear lH lG lU lR lS lE lB
  have hne := fun (w : World) (a : Option Addr) (l c : Nat) => run_neq_slice_nil (P := Try.prog) w 42 45 a l c Try.underlying42
  have hmk := make45 n (by omega)
  go_enter Try.func21, Try.ntmps21
  by_cases hc1 : r < 0
  · go_wp2_with fail
    go_ret
    exact ⟨RetImp.no _, Below.refl _ _⟩
  by_cases hc2 : (n : Int) ≤ r
  · go_wp2_with fail
    go_ret
    exact ⟨RetImp.no _, Below.refl _ _⟩
  by_cases hc3 : ((nS : Int) != (n : Int)) = true
  · go_wp2_with fail
    go_ret
    exact ⟨RetImp.no _, Below.refl _ _⟩
  rw [Bool.not_eq_true] at hc3
  have ES : Hid (nS = n) := by have h0 := hc3; simp only [bne_eq_false_iff_eq] at h0; show nS = n; omega
  by_cases hc4 : ((nG : Int) != (N : Int)) = true
  · go_wp2_with fail
    go_ret
    exact ⟨RetImp.no _, Below.refl _ _⟩
  rw [Bool.not_eq_true] at hc4
  have EG : Hid (nG = N) := by have h0 := hc4; simp only [bne_eq_false_iff_eq] at h0; show nG = N; omega
  by_cases hc5 : ((nU : Int) != (N : Int)) = true
  · go_wp2_with fail
    go_ret
    exact ⟨RetImp.no _, Below.refl _ _⟩
  rw [Bool.not_eq_true] at hc5
  have EU : Hid (nU = N) := by have h0 := hc5; simp only [bne_eq_false_iff_eq] at h0; show nU = N; omega
  by_cases hc6 : 64 * (N : Int) < (n : Int)
  · go_wp2_with fail
    go_ret
    exact ⟨RetImp.no _, Below.refl _ _⟩
  have hnN : n ≤ 64 * N := by omega
  go_wp2_with fail
  refine (within_any (D := Any) aH cH n N held w hH LH.out hN17 (by omega)).mono ?_
  rintro e w1 ⟨⟨bb, rfl, hb⟩, hb1⟩
  cases bb with
  | false =>
    clear hb
    go_wp2_with fail
    go_ret
    exact ⟨RetImp.no _, hb1⟩
  | true =>
    clear hb
    go_wp2_with fail
    refine (within_any (D := Any) aG cG n nG asg w1 (hG.keep (keepsB hb1 _)) LG.out hG17 (by omega)).mono ?_
    rintro e w2 ⟨⟨bb, rfl, hb⟩, hb2'⟩
    have hb2 := hb1.trans (hb2'.mono hb1.size)
    cases bb with
    | false =>
      clear hb
      go_wp2_with fail
      go_ret
      exact ⟨RetImp.no _, hb2⟩
    | true =>
      clear hb
      go_wp2_with fail
      refine (within_any (D := Any) aU cU n nU au w2 (hU.keep (keepsB hb2 _)) LU.out hU17 (by omega)).mono ?_
      rintro e w3 ⟨⟨bb, rfl, hb⟩, hb3'⟩
      have hb3 := hb2.trans (hb3'.mono hb2.size)
      cases bb with
      | false =>
        clear hb
        go_wp2_with fail
        go_ret
        exact ⟨RetImp.no _, hb3⟩
      | true =>
        clear hb hb1 hb2 hb2' hb3'
        go_wp2_with fail
        go_loopg [104] n (fun g i wr => ∃ k : Nat, k + g = n ∧ i = .int .i64 (k : Int) ∧ RowsTo n revoke k ∧ Below w.heap.size w wr)
        case atStart => exact ⟨0, by omega, rfl, fun q y hq => by omega, hb3⟩
        case round =>
          obtain ⟨k, hk, rfl, hall, hbl⟩ := hrel
          by_cases hlt : k < n
          · have hlt' : k < revoke.length := by rw [LR.out]; exact hlt
            have G0 : Hid (revoke[k]? = some revoke[k]) := List.getElem?_eq_getElem hlt'
            obtain ⟨⟨b1, o1, e1, _, c1⟩, _⟩ := (hR.keep (keepsB hbl _)) k _ G0.out
            have hri := (hR k _ G0.out).2
            have hrl := hrr _ (List.mem_of_getElem? G0.out)
            generalize revoke[k] = row at *
            obtain ⟨ra, rc, rx⟩ := row
            unfold IRow.val at c1
            dsimp only at c1 hri hrl
            cases e1
            have q1 : (k : Int) < (n : Int) := by omega
            have q2 : (0 : Int) ≤ (k : Int) := by omega
            go_wp2_with fail
            clear c1
            generalize wr = w4 at *
            generalize gk = g1 at *
            go_loopg [110] rx.length (fun g i wr => ∃ k2 : Nat, k2 + g = rx.length ∧ i = .int .i64 (k2 : Int) ∧ InTo n rx k2 ∧ Below w.heap.size w wr)
            case atStart => exact ⟨0, by omega, rfl, fun q y hq => by omega, hbl⟩
            case round =>
              clear hbl
              obtain ⟨k2, hk2, rfl, hin, hbl⟩ := hrel
              by_cases hlt2 : k2 < rx.length
              · have G2 : Hid (rx[k2]? = some rx[k2]) := List.getElem?_eq_getElem hlt2
                obtain ⟨b2, o2, e2, _, c2⟩ := (hri.keep (keepsB hbl _)) k2 _ G2.out
                generalize rx[k2] = y at *
                cases e2
                have q3 : (k2 : Int) < (rx.length : Int) := by omega
                have q4 : (0 : Int) ≤ (k2 : Int) := by omega
                by_cases hc7 : y < 0
                · go_wp2_with fail
                  go_ret
                  exact ⟨RetImp.no _, hbl⟩
                by_cases hc8 : (n : Int) ≤ y
                · go_wp2_with fail
                  go_ret
                  exact ⟨RetImp.no _, hbl⟩
                have HI := hin.succ G2.out ⟨by omega, by omega⟩
                go_wp2_with fail
                go_roundg (gk - 1)
                case measure => omega
                case rel => exact ⟨k2 + 1, by omega, by go_num, HI, hbl⟩
              · have HA := hall.succ G0.out (hin.all (by omega))
                go_wp2_with fail
                go_roundg (g1 - 1)
                case measure => omega
                case rel => exact ⟨k + 1, by omega, by go_num, HA, hbl⟩
          · have R1 : Hid (∀ row ∈ revoke, ∀ y ∈ row.xs, InR n y) := hall.all (by rw [LR.out]; omega)
            clear hall hk
            go_wp2_with fail
            generalize gk = g2 at *
            go_loopg [125] nS (fun g i wr => ∃ k : Nat, k + g = nS ∧ i = .int .i64 (k : Int) ∧ RulesTo n N assign k ∧ Below w.heap.size w wr)
            case atStart => exact ⟨0, by omega, rfl, fun q y hq => by omega, hbl⟩
            case round =>
              clear hbl
              obtain ⟨k, hk, rfl, hall, hbl⟩ := hrel
              by_cases hlt : k < nS
              · have hlt' : k < assign.length := by rw [LS.out]; exact hlt
                have G0 : Hid (assign[k]? = some assign[k]) := List.getElem?_eq_getElem hlt'
                obtain ⟨⟨b1, o1, e1, _, c1⟩, _⟩ := (hS.keep (keepsB hbl _)) k _ G0.out
                have hls := (hS k _ G0.out).2
                have hrl := hsr _ (List.mem_of_getElem? G0.out)
                generalize assign[k] = row at *
                obtain ⟨ra, rc, rx⟩ := row
                unfold LRow.val at c1
                dsimp only at c1 hls hrl
                cases e1
                have q1 : (k : Int) < (nS : Int) := by omega
                have q2 : (0 : Int) ≤ (k : Int) := by omega
                go_wp2_with fail
                clear c1
                generalize wr = w4 at *
                generalize gk = g3 at *
                go_loopg [131] rx.length (fun g i wr => ∃ k2 : Nat, k2 + g = rx.length ∧ i = .int .i64 (k2 : Int) ∧ RuleTo n N rx k2 ∧ Below w.heap.size w wr)
                case atStart => exact ⟨0, by omega, rfl, fun q y hq => by omega, hbl⟩
                case round =>
                  clear hbl
                  obtain ⟨k2, hk2, rfl, hin, hbl⟩ := hrel
                  by_cases hlt2 : k2 < rx.length
                  · have G2 : Hid (rx[k2]? = some rx[k2]) := List.getElem?_eq_getElem hlt2
                    obtain ⟨⟨b2, o2, e2, _, d0, d1, d2⟩, hq, hf⟩ := (hls.keep (keepsB hbl _)) k2 _ G2.out
                    generalize rx[k2] = rule at *
                    obtain ⟨adm, ⟨xa, xc, xx⟩, ⟨fa, fc, fx⟩⟩ := rule
                    unfold WRow.val at d1 d2
                    dsimp only at d0 d1 d2 hq hf
                    cases e2
                    have q3 : (k2 : Int) < (rx.length : Int) := by omega
                    have q4 : (0 : Int) ≤ (k2 : Int) := by omega
                    have hbA : Below w.heap.size w (wr.alloc (.cells #[.int .i64 adm, .slice xa xx.length xc, .slice fa fx.length fc] 76)) := hbl.alloc hbl.size _
                    by_cases hc9 : adm < 0
                    · go_wp2_with fail
                      go_ret
                      exact ⟨RetImp.no _, hbA⟩
                    by_cases hc10 : (n : Int) ≤ adm
                    · go_wp2_with fail
                      go_ret
                      exact ⟨RetImp.no _, hbA⟩
                    by_cases hc11 : ((xx.length : Int) != (N : Int)) = true
                    · go_wp2_with fail
                      go_ret
                      exact ⟨RetImp.no _, hbA⟩
                    rw [Bool.not_eq_true] at hc11
                    have EX : Hid (xx.length = N) := by have h0 := hc11; simp only [bne_eq_false_iff_eq] at h0; show xx.length = N; omega
                    by_cases hc12 : ((fx.length : Int) != (N : Int)) = true
                    · go_wp2_with fail
                      go_ret
                      exact ⟨RetImp.no _, hbA⟩
                    rw [Bool.not_eq_true] at hc12
                    have EF : Hid (fx.length = N) := by have h0 := hc12; simp only [bne_eq_false_iff_eq] at h0; show fx.length = N; omega
                    have hqA : Ws Any (wr.alloc (.cells #[.int .i64 adm, .slice xa xx.length xc, .slice fa fx.length fc] 76)) xa xx := hq.keep (keeps_alloc _ _ _)
                    have hfA : Ws Any (wr.alloc (.cells #[.int .i64 adm, .slice xa xx.length xc, .slice fa fx.length fc] 76)) fa fx := hf.keep (keeps_alloc _ _ _)
                    have hSA := Blk.new wr 76 [.int .i64 adm, .slice xa xx.length xc, .slice fa fx.length fc]
                    go_wp2_with fail
                    generalize hWA : wr.alloc (.cells #[.int .i64 adm, .slice xa xx.length xc, .slice fa fx.length fc] 76) = wA at *
                    clear hWA
                    refine (within_any (D := Any) xa xc n xx.length xx wA hqA rfl (by have := EX.out; omega) (by omega)).mono ?_
                    rintro e w5 ⟨⟨bb, rfl, hb⟩, hb5'⟩
                    have hb5 := hbA.trans (hb5'.mono hbA.size)
                    have hfB := hfA.keep (keepsB hb5' _)
                    have hSB := hSA.below hb5' hSA.lt
                    have s2 : w5.cell? ⟨wr.heap.size, 2, none⟩ = some (.slice fa fx.length fc) := hSB.cell 2
                    clear d0 d1 d2
                    cases bb with
                    | false =>
                      clear hb
                      go_wp2_with fail
                      go_ret
                      exact ⟨RetImp.no _, hb5⟩
                    | true =>
                      have HX : Hid (Within n xx) := hb rfl
                      clear hb
                      go_wp2_with fail
                      refine (within_any (D := Any) fa fc n fx.length fx w5 hfB rfl (by have := EF.out; omega) (by omega)).mono ?_
                      rintro e w6 ⟨⟨bb, rfl, hb⟩, hb6'⟩
                      have hb6 := hb5.trans (hb6'.mono hb5.size)
                      cases bb with
                      | false =>
                        clear hb
                        go_wp2_with fail
                        go_ret
                        exact ⟨RetImp.no _, hb6⟩
                      | true =>
                        have HY : Hid (Within n fx) := hb rfl
                        clear hb
                        have HI := hin.succ G2.out ⟨⟨by dsimp only; omega, by dsimp only; omega⟩, EX.out, EF.out, HX.out, HY.out⟩
                        go_wp2_with fail
                        go_roundg (gk - 1)
                        case measure => omega
                        case rel => exact ⟨k2 + 1, by omega, by go_num, HI, hb6⟩
                  · have HA := hall.succ G0.out (hin.all (by omega))
                    go_wp2_with fail
                    go_roundg (g3 - 1)
                    case measure => omega
                    case rel => exact ⟨k + 1, by omega, by go_num, HA, hbl⟩
              · have R2 : Hid (∀ row ∈ assign, ∀ x ∈ row.xs, RuleIn n N x) := hall.all (by rw [LS.out]; omega)
                clear hall hk
                go_wp2_with fail
                generalize gk = g4 at *
                go_loopg [174] 0 (fun g i wr => g = 0 ∧ i = .int .i64 0 ∧ Below w.heap.size w wr)
                case atStart => exact ⟨rfl, rfl, hbl⟩
                case round =>
                  clear hbl
                  obtain ⟨hk, rfl, hbl⟩ := hrel
                  clear hk
                  go_wp2_with fail
                  generalize wr = w7 at *
                  generalize gk = g5 at *
                  go_loopg [197] nE (fun g i wr => ∃ (k : Nat) (st : List Int), k + g = nE ∧ i = .int .i64 (k : Int) ∧ st.length = n ∧ Blk wr w7.heap.size 3 (st.map (Value.int .i64)) ∧ ExclTo n es k ∧ Below w.heap.size w wr)
                  case atStart =>
                    refine ⟨0, List.replicate n 0, by omega, rfl, by simp, ?_, fun q y hq => by omega, hbl.alloc hbl.size _⟩
                    rw [List.map_replicate]
                    exact Blk.new' w7 3 _ _
                  case round =>
                    have hlow := hbl.size
                    clear hbl hmk
                    obtain ⟨k, st, hk, rfl, hst, hSt, hall, hbl⟩ := hrel
                    by_cases hlt : k < nE
                    · have hlt' : k < es.length := by rw [LE.out]; exact hlt
                      have G0 : Hid (es[k]? = some es[k]) := List.getElem?_eq_getElem hlt'
                      obtain ⟨⟨b1, o1, e1, _, c1, c2⟩, _⟩ := (hE.keep (keepsB hbl _)) k _ G0.out
                      have hri := (hE k _ G0.out).2
                      have hrl := her _ (List.mem_of_getElem? G0.out)
                      generalize es[k] = ex at *
                      obtain ⟨⟨ra, rc, rx⟩, lim⟩ := ex
                      unfold IRow.val at c1
                      dsimp only at c1 c2 hri hrl
                      cases e1
                      have q1 : (k : Int) < (nE : Int) := by omega
                      have q2 : (0 : Int) ≤ (k : Int) := by omega
                      have hStlt := hSt.lt
                      have hbA : Below w.heap.size w (wr.alloc (.cells #[.slice ra rx.length rc, .int .i64 lim] 78)) := hbl.alloc hbl.size _
                      by_cases hc13 : lim < 2
                      · go_wp2_with fail
                        go_ret
                        exact ⟨RetImp.no _, hbA⟩
                      by_cases hc14 : (rx.length : Int) < lim
                      · go_wp2_with fail
                        go_ret
                        exact ⟨RetImp.no _, hbA⟩
                      have HST : Hid (st.length = n) := hst
                      have hStA := hSt.alloc (.cells #[.slice ra rx.length rc, .int .i64 lim] 78)
                      clear hst
                      go_wp2_with fail
                      clear c1 c2
                      generalize hWA : wr.alloc (.cells #[.slice ra rx.length rc, .int .i64 lim] 78) = wA at *
                      clear hWA
                      generalize wr = w8 at *
                      generalize gk = g6 at *
                      go_loopg [216] rx.length (fun g i wr => ∃ (k2 : Nat) (st : List Int), k2 + g = rx.length ∧ i = .int .i64 (k2 : Int) ∧ st.length = n ∧ Blk wr w7.heap.size 3 (st.map (Value.int .i64)) ∧ InTo n rx k2 ∧ Below w.heap.size w wr)
                      case atStart => exact ⟨0, st, by omega, rfl, HST.out, hStA, fun q y hq => by omega, hbA⟩
                      case round =>
                        clear hbA hStA hSt HST hbl
                        obtain ⟨k2, st, hk2, rfl, hst, hSt, hin, hbl⟩ := hrel
                        by_cases hlt2 : k2 < rx.length
                        · have G2 : Hid (rx[k2]? = some rx[k2]) := List.getElem?_eq_getElem hlt2
                          obtain ⟨b2, o2, e2, _, c2⟩ := (hri.keep (keepsB hbl _)) k2 _ G2.out
                          have hb2 : b2 < w.heap.size := by
                            obtain ⟨b2', o2', e2', _, c2'⟩ := hri k2 _ G2.out
                            rw [e2] at e2'; cases e2'; exact cell_lt c2'
                          generalize rx[k2] = y at *
                          cases e2
                          have q3 : (k2 : Int) < (rx.length : Int) := by omega
                          have q4 : (0 : Int) ≤ (k2 : Int) := by omega
                          by_cases hc15 : y < 0
                          · go_wp2_with fail
                            go_ret
                            exact ⟨RetImp.no _, hbl⟩
                          by_cases hc16 : (n : Int) ≤ y
                          · go_wp2_with fail
                            go_ret
                            exact ⟨RetImp.no _, hbl⟩
                          obtain ⟨t, rfl⟩ := Int.eq_ofNat_of_zero_le (show (0 : Int) ≤ y by omega)
                          have htl : t < st.length := by omega
                          have c4 : wr.cell? ⟨w7.heap.size, t, none⟩ = some (.int .i64 st[t]) := by rw [hSt.cell]; simp [htl]
                          have f4 := hSt.frozen t
                          have hSt2 : Blk (wr.setCell ⟨w7.heap.size, t, none⟩ (.int .i64 ((k : Int) + 1))) w7.heap.size 3 ((st.set t ((k : Int) + 1)).map (Value.int .i64)) := by rw [List.map_set]; exact hSt.set t _
                          have hbl2 : Below w.heap.size w (wr.setCell ⟨w7.heap.size, t, none⟩ (.int .i64 ((k : Int) + 1))) := hbl.setCell hlow _
                          have HST : Hid (st.length = n) := hst
                          have hti : (t : Int) < (n : Int) := by omega
                          clear hst
                          generalize st[t] = sv at *
                          by_cases hc17 : (sv == (k : Int) + 1) = true
                          · go_wp2_with fail
                            go_ret
                            exact ⟨RetImp.no _, hbl⟩
                          rw [Bool.not_eq_true] at hc17
                          have HI := hin.succ G2.out ⟨by omega, by omega⟩
                          go_wp2_with fail
                          go_roundg (gk - 1)
                          case measure => omega
                          case rel => exact ⟨k2 + 1, st.set t ((k : Int) + 1), by omega, by go_num, by simpa using HST.out, hSt2, HI, hbl2⟩
                        · have HA := hall.succ G0.out (hin.all (by omega))
                          go_wp2_with fail
                          go_roundg (g6 - 1)
                          case measure => omega
                          case rel => exact ⟨k + 1, st, by omega, by go_num, hst, hSt, HA, hbl⟩
                    · have R4 : Hid (∀ ex ∈ es, ∀ y ∈ ex.roles.xs, InR n y) := hall.all (by rw [LE.out]; omega)
                      clear hall hk hSt hst
                      go_wp2_with fail
                      generalize gk = g7 at *
                      go_loopg [245] nB (fun g i wr => ∃ k : Nat, k + g = nB ∧ i = .int .i64 (k : Int) ∧ InTo nE broken k ∧ Below w.heap.size w wr)
                      case atStart => exact ⟨0, by omega, rfl, fun q y hq => by omega, hbl⟩
                      case round =>
                        clear hbl
                        obtain ⟨k, hk, rfl, hin, hbl⟩ := hrel
                        by_cases hlt : k < nB
                        · have hlt' : k < broken.length := by rw [LB.out]; exact hlt
                          have G0 : Hid (broken[k]? = some broken[k]) := List.getElem?_eq_getElem hlt'
                          obtain ⟨b1, o1, e1, _, c1⟩ := (hB.keep (keepsB hbl _)) k _ G0.out
                          generalize broken[k] = y at *
                          cases e1
                          have q1 : (k : Int) < (nB : Int) := by omega
                          have q2 : (0 : Int) ≤ (k : Int) := by omega
                          by_cases hc18 : y < 0
                          · go_wp2_with fail
                            go_ret
                            exact ⟨RetImp.no _, hbl⟩
                          by_cases hc19 : (nE : Int) ≤ y
                          · go_wp2_with fail
                            go_ret
                            exact ⟨RetImp.no _, hbl⟩
                          have HI := hin.succ G0.out ⟨by omega, by omega⟩
                          go_wp2_with fail
                          go_roundg (gk - 1)
                          case measure => omega
                          case rel => exact ⟨k + 1, by omega, by go_num, HI, hbl⟩
                        · have R5 : Hid (∀ y ∈ broken, InR nE y) := hin.all (by rw [LB.out]; omega)
                          clear hin hk
                          go_wp2_with fail
                          go_ret
                          exact ⟨RetImp.yes ⟨by omega, by omega, ES.out, EG.out, EU.out, hnN, .inl rfl, R1.out, R2.out, fun _ _ h => absurd rfl h, R4.out, R5.out, fun h => absurd rfl h⟩, hbl⟩
end Go.Proofs.Qxb6604686a
