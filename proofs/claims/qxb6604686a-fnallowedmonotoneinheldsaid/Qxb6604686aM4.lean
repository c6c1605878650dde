import Derived.Test.Qxb6604686aM3
namespace Go.Proofs.Qxb6604686a
open Go.ChangeShapes Go.WideShapes Go.ChangeAt Go.RowKit
set_option linter.unusedVariables false

set_option maxRecDepth 100000 in
set_option maxHeartbeats 8000000 in
theorem model_any (aG aU : Option Addr) (cG cU n N r : Nat) (m : SpD) (asg au : List Nat) (w : World) (M : Md w m) (ok : SpOk n N m) (hauN : au.length = N) (hasN : asg.length = N)
    (hu : Ws Any w aU au) (hg : Ws Any w aG asg) (hr : r < n) (hh : Hier (jun m.js) n au) (hwi : ∀ row ∈ m.assign, ∀ x ∈ row.xs, Within n x.req.xs ∧ Within n x.forb.xs) :
    Calls Try.prog 32 #[.slice m.aH N m.cH, .slice aG N cG, .slice aU N cU, .int .i64 (r : Int), .slice m.aR n m.cR, .slice m.aS n m.cS, .slice m.aJ m.js.length m.cJ, .slice m.aE m.es.length m.cE, .slice m.aB m.broken.length m.cB] w fun e w' => RetIff (AllowedS m r asg au) e ∧ Below w.heap.size w w' := by
  have W1 := ok.words
  have W3 := ok.N17
  have Wn := ok.n17
  have hrl : r / 64 < N := by omega
  have HG : Hid (asg.length = N) := hasN
  have HU : Hid (au.length = N) := hauN
  have HH : Hid (m.held.length = N) := ok.held
  have q1 : (r : Int) < (n : Int) := by omega
  have q2 : (0 : Int) ≤ (r : Int) := by omega
  clear hasN hauN
  obtain ⟨aJ, hJe⟩ : ∃ aJ, m.aJ = aJ := ⟨_, rfl⟩
  obtain ⟨aB, hBe⟩ : ∃ aB, m.aB = aB := ⟨_, rfl⟩
  obtain ⟨aE, hEe⟩ : ∃ aE, m.aE = aE := ⟨_, rfl⟩
  rw [hJe, hBe, hEe]
  have HJ : Hid (m.aJ = aJ) := hJe
  have HBe : Hid (m.aB = aB) := hBe
  have HEe : Hid (m.aE = aE) := hEe
  clear hJe hBe hEe
  go_enter Try.func32, Try.ntmps32
  go_wp2_with fail
  refine (bitOf_len (D := Any) aG cG r N asg HG.out w hg hrl W3).mono ?_
  rintro e w' ⟨rfl, hw'⟩
  subst hw'
  cases hbit : bit asg r with
  | true =>
    have HB : Hid (bit asg r = true) := hbit
    clear hbit
    have hrr : r < m.revoke.length := by rw [ok.revoke]; exact hr
    have GR : Hid (m.revoke[r]? = some m.revoke[r]) := List.getElem?_eq_getElem hrr
    obtain ⟨⟨b0, o0, e0, _, p0⟩, hri⟩ := M.revoke r _ GR.out
    obtain ⟨hr1, hr2⟩ := ok.revokeIn _ (List.mem_of_getElem? GR.out)
    generalize m.revoke[r] = row at *
    unfold IRow.val at p0
    rw [e0]
    clear e0
    go_wp2_with fail
    go_loopg [51] row.xs.length (fun g i wr => ∃ k : Nat, k + g = row.xs.length ∧ i = .int .i64 k ∧ (∀ (q : Nat) (y : Int), q < k → row.xs[q]? = some y → bit m.held y.toNat = false) ∧ wr = w')
    case atStart => exact ⟨0, by omega, rfl, fun q y hq => by omega, rfl⟩
    case round =>
      obtain ⟨k, hk, rfl, hno, hwr⟩ := hrel
      subst hwr
      by_cases hlt : k < row.xs.length
      · have G0 : Hid (row.xs[k]? = some row.xs[k]) := List.getElem?_eq_getElem hlt
        obtain ⟨b1, o1, e1, _, c1⟩ := hri k _ G0.out
        obtain ⟨y0, y1⟩ := hr2 _ (List.mem_of_getElem? G0.out)
        generalize row.xs[k] = y at *
        obtain ⟨j, rfl⟩ := Int.eq_ofNat_of_zero_le y0
        obtain ⟨ra, rc, rx⟩ := row
        dsimp only at *
        subst e1
        have q3 : (k : Int) < (rx.length : Int) := by omega
        have q4 : (0 : Int) ≤ (k : Int) := by omega
        go_wp2_with fail
        refine (bitOf_len (D := Any) m.aH m.cH j N m.held HH.out wr M.held (by omega) W3).mono ?_
        rintro e w2 ⟨rfl, hw2⟩
        subst hw2
        cases hb2 : bit m.held j with
        | true =>
          have HC : Hid (AllowedS m r asg au) := .inl ⟨HB.out, _, GR.out, _, List.mem_of_getElem? G0.out, by rw [Int.toNat_natCast]; exact hb2⟩
          clear hb2
          go_wp2_with fail
          go_ret
          exact ⟨.mk true rfl ⟨fun _ => HC.out, fun _ => rfl⟩, Below.refl _ _⟩
        | false =>
          have HN : ∀ (q : Nat) (y : Int), q < k + 1 → rx[q]? = some y → bit m.held y.toNat = false := by
            intro q y hq hy
            by_cases hqk : q = k
            · subst hqk; rw [G0.out] at hy; cases hy; rw [Int.toNat_natCast]; exact hb2
            · exact hno q y (by omega) hy
          clear hb2
          go_wp2_with fail
          go_roundg (gk - 1)
          case measure => omega
          case rel => exact ⟨k + 1, by omega, by go_num, HN, rfl⟩
      · have HC : Hid (¬ AllowedS m r asg au) := by
          rintro (⟨_, row', h1, y, hy, hb⟩ | ⟨h1, _⟩)
          · rw [GR.out] at h1; cases h1
            obtain ⟨q, hq⟩ := List.getElem?_of_mem hy
            rw [hno q y (by have := (List.getElem?_eq_some_iff.1 hq).1; omega) hq] at hb
            cases hb
          · rw [HB.out] at h1; cases h1
        clear hno
        go_wp2_with fail
        go_ret
        exact ⟨.mk false rfl ⟨fun h => Bool.noConfusion h, fun h => absurd h HC.out⟩, Below.refl _ _⟩
  | false =>
    have HB : Hid (bit asg r = false) := hbit
    clear hbit
    have hrr : r < m.assign.length := by rw [ok.assign]; exact hr
    have GR : Hid (m.assign[r]? = some m.assign[r]) := List.getElem?_eq_getElem hrr
    have RR : Hid (Rules m r = m.assign[r].xs) := by unfold Rules; rw [GR.out]; rfl
    obtain ⟨⟨b0, o0, e0, _, p0⟩, hri⟩ := M.assign r _ GR.out
    obtain ⟨hr1, hr2⟩ := ok.assignIn _ (List.mem_of_getElem? GR.out)
    have HSB : Hid (∀ x ∈ m.assign[r].xs, (Serves m.held au x ↔ bit m.held x.admin.toNat = true ∧ BitsTo n au x.req.xs x.forb.xs)) := fun x hx => serves_bits ok HU.out M hwi GR.out hx
    generalize m.assign[r] = row at *
    unfold LRow.val at p0
    have HE : Hid (m.aS = some ⟨b0, o0, none⟩) := e0
    rw [e0]
    clear e0
    go_wp2_with fail
    go_loopg [22, 64] row.xs.length (fun g v i wr => ∃ k : Nat, k + g = row.xs.length ∧ v = .bool false ∧ i = .int .i64 k ∧ (∀ (q : Nat) (y : Rule), q < k → row.xs[q]? = some y → ¬ Serves m.held au y) ∧ Below w'.heap.size w' wr)
    case atStart => exact ⟨0, by omega, rfl, rfl, fun q y hq => by omega, Below.refl _ _⟩
    case round =>
      obtain ⟨k, hk, rfl, rfl, hno, hbl⟩ := hrel
      by_cases hlt : k < row.xs.length
      · have G0 : Hid (row.xs[k]? = some row.xs[k]) := List.getElem?_eq_getElem hlt
        obtain ⟨⟨b1, o1, e1, _, c0, c1, c2⟩, hq, hf⟩ := (hri.keep (keepsB hbl _)) k _ G0.out
        have hR := hr2 _ (List.mem_of_getElem? G0.out)
        have SB := HSB.out _ (List.mem_of_getElem? G0.out)
        generalize row.xs[k] = x at *
        obtain ⟨adm, ⟨xa, xc, xx⟩, ⟨fa, fc, fx⟩⟩ := x
        obtain ⟨ok1, ok2, ok3, ok4⟩ := hR
        dsimp only at ok1 ok2 ok3 ok4 hq hf c0 c1 c2
        obtain ⟨j, rfl⟩ := Int.eq_ofNat_of_zero_le ok1
        have ok2' : j / 64 < N := by simpa using ok2
        unfold WRow.val at c1 c2
        dsimp only at c1 c2
        rw [ok3] at c1
        rw [ok4] at c2
        have HS : Hid (Serves m.held au ⟨(j : Int), ⟨xa, xc, xx⟩, ⟨fa, fc, fx⟩⟩ ↔ bit m.held j = true ∧ BitsTo n au xx fx) := by
          have := SB; dsimp only at this; rwa [Int.toNat_natCast] at this
        have K3 : Hid (xx.length = N) := ok3
        have K4 : Hid (fx.length = N) := ok4
        clear SB ok1 ok2 ok3 ok4
        obtain ⟨ra, rc, rx⟩ := row
        dsimp only at *
        subst e1
        have q3 : (k : Int) < (rx.length : Int) := by omega
        have q4 : (0 : Int) ≤ (k : Int) := by omega
        go_wp2_with fail
        refine (bitOf_len (D := Any) m.aH m.cH j N m.held HH.out _ ?_ ok2' W3).mono ?_
        · exact (M.held.keep (keepsB hbl _)).keep (keeps_alloc _ _ _)
        rintro e w2 ⟨rfl, hw2⟩
        generalize hW2 : wr.alloc (.cells #[.int .i64 (j : Int), .slice xa N xc, .slice fa N fc] 76) = W2 at *
        subst hw2
        have hb2 : Below w'.heap.size w' w2 := by rw [← hW2]; exact hbl.alloc hbl.size _
        have hx2 : Ws Any w2 xa xx := by rw [← hW2]; exact hq.keep (keeps_alloc _ _ _)
        have hf2 : Ws Any w2 fa fx := by rw [← hW2]; exact hf.keep (keeps_alloc _ _ _)
        have hcx : w2.cell? ⟨wr.heap.size, 0, none⟩ = some (.int .i64 (j : Int)) := by rw [← hW2]; simp
        have hcy : w2.cell? ⟨wr.heap.size, 1, none⟩ = some (.slice xa N xc) := by rw [← hW2]; simp
        have hcz : w2.cell? ⟨wr.heap.size, 2, none⟩ = some (.slice fa N fc) := by rw [← hW2]; simp
        clear hW2 hq hf c0 c1 c2
        cases hbj : bit m.held j with
        | false =>
          have HN : ∀ (q : Nat) (y : Rule), q < k + 1 → rx[q]? = some y → ¬ Serves m.held au y := by
            intro q y hq hy
            by_cases hqk : q = k
            · subst hqk; rw [G0.out] at hy; cases hy
              intro hs
              have := (HS.out.1 hs).1
              rw [hbj] at this; cases this
            · exact hno q y (by omega) hy
          clear hbj
          go_wp2_with fail
          go_roundg (gk - 1)
          case measure => omega
          case rel => exact ⟨k + 1, by omega, rfl, by go_num, HN, hb2⟩
        | true =>
          have HBJ : Hid (bit m.held j = true) := hbj
          clear hbj
          go_wp2_with fail
          refine (condition_any (D := Any) (j : Int) xa fa aU xc fc cU n N xx fx au w2 hx2 hf2 (hu.keep (keepsB hb2 _)) K3.out K4.out HU.out W3 W1).mono ?_
          rintro e w3 ⟨⟨b, rfl, hb⟩, hbl3⟩
          have hb3 : Below w'.heap.size w' w3 := hb2.trans (hbl3.mono hb2.size)
          clear hcx hcy hcz hx2 hf2
          cases b with
          | false =>
            have HN : ∀ (q : Nat) (y : Rule), q < k + 1 → rx[q]? = some y → ¬ Serves m.held au y := by
              intro q y hq hy
              by_cases hqk : q = k
              · subst hqk; rw [G0.out] at hy; cases hy
                intro hs
                have := hb.2 (HS.out.1 hs).2
                cases this
              · exact hno q y (by omega) hy
            clear hb
            go_wp2_with fail
            go_roundg (gk - 1)
            case measure => omega
            case rel => exact ⟨k + 1, by omega, rfl, by go_num, HN, hb3⟩
          | true =>
            have HSV : Hid (∃ x ∈ Rules m r, Serves m.held au x) := ⟨_, by rw [RR.out]; exact List.mem_of_getElem? G0.out, HS.out.2 ⟨HBJ.out, hb.1 rfl⟩⟩
            clear hb hno HS HBJ G0 hri hr2 HSB p0 hr1 hbl hbl3 hb2
            have hmk := make91 n (by omega)
            have hmkE := make91 m.es.length (by have := ok.es; omega)
            generalize wr = w0 at *
            generalize gk = g0 at *
            have heq := fun (w : World) (a : Option Addr) (n c : Nat) => Lib.run_eql_slice_nil (P := Try.prog) w 42 45 a n c 0 0 Try.underlying42
            go_wp2_with fail
            have S0 : Srch (jun m.js) n r w3.heap.size w' ((w3.alloc (.cells ((Array.replicate n (.bool false)).setIfInBounds r (.bool true)) 4)).alloc (.cells #[.int .i64 (r : Int)] 3)) ((List.replicate n false).set r true) ⟨some ⟨w3.heap.size + 1, 0, none⟩, 1, [(r : Int)]⟩ n none := by
              refine ⟨Stk.start hr, ?_, ?_, (hb3.alloc hb3.size _).alloc (Nat.le_trans hb3.size (by simp)) _, hb3.size⟩
              · have := (Blk.new w3 4 ((List.replicate n (.bool false)).set r (.bool true))).alloc (.cells #[.int .i64 (r : Int)] 3)
                rw [List.map_set, List.map_replicate]
                rwa [← List.setIfInBounds_toArray, List.toArray_replicate] at this
              · refine ⟨by simp, .inr ⟨w3.heap.size + 1, 1, #[.int .i64 (r : Int)], rfl, Nat.le_refl _, ?_, Nat.le_refl _, by decide, rfl, rfl⟩⟩
                have := heap_alloc_new (w3.alloc (.cells ((Array.replicate n (.bool false)).setIfInBounds r (.bool true)) 4)) (.cells #[.int .i64 (r : Int)] 3)
                simpa using this
            go_loopg [26] n (fun c v wr => ∃ (fs : List Bool) (td : IRow), v = .slice td.a td.xs.length td.cap ∧ c ≤ n ∧ Srch (jun m.js) n r w3.heap.size w' wr fs td c none)
            case atStart => exact ⟨_, _, rfl, Nat.le_refl _, S0⟩
            case round =>
              clear S0 hmk
              obtain ⟨fs, td, rfl, hcn, S⟩ := hrel
              obtain ⟨ta, tc, tx⟩ := td
              rcases List.eq_nil_or_concat tx with rfl | ⟨xs, y, rfl⟩
              · have HF : Hid (∀ b, fs[b]? = some true ↔ Reach (jun m.js) r b) := S.stk.done
                have HFL : Hid (fs.length = n) := S.stk.len
                have hFb := S.blk
                have hbel := S.bel
                have hlow := S.low
                have hFlt := hFb.lt
                obtain ⟨hk1, hk2⟩ := ok.broken
                have hes := ok.es
                clear S hcn
                go_wp2_with fail
                generalize wr = w5 at *
                generalize gk = g1 at *
                go_loopg [131] m.broken.length (fun g i wr => ∃ (k : Nat) (bs : List Bool), k + g = m.broken.length ∧ i = .int .i64 k ∧ bs.length = m.es.length ∧ BrkTo bs m.broken k ∧ Blk wr w5.heap.size 4 (bs.map Value.bool) ∧ Below w5.heap.size w5 wr)
                case atStart =>
                  refine ⟨0, List.replicate m.es.length false, by omega, rfl, by simp, BrkTo.start _ _, ?_, (Below.refl _ _).alloc (Nat.le_refl _) _⟩
                  rw [List.map_replicate]
                  exact Blk.new' w5 4 _ _
                case round =>
                  obtain ⟨k, bs, hk, rfl, hbl, hbt, hBb, hbw⟩ := hrel
                  by_cases hlt : k < m.broken.length
                  · have G0 : Hid (m.broken[k]? = some m.broken[k]) := List.getElem?_eq_getElem hlt
                    obtain ⟨b1, o1, e1, _, c1⟩ := (M.broken.keep (keepsB (hbel.trans (hbw.mono hbel.size)) _)) k _ G0.out
                    obtain ⟨y0, y1⟩ := hk2 _ (List.mem_of_getElem? G0.out)
                    generalize m.broken[k] = y at *
                    obtain ⟨t, rfl⟩ := Int.eq_ofNat_of_zero_le y0
                    have htl : t < bs.length := by omega
                    have f4 := hBb.frozen t
                    have c4 : wr.cell? ⟨w5.heap.size, t, none⟩ = some (.bool bs[t]) := by rw [hBb.cell]; simp [htl]
                    generalize bs[t] = bt at *
                    have q3 : (k : Int) < (m.broken.length : Int) := by omega
                    have q4 : (0 : Int) ≤ (k : Int) := by omega
                    have hne : b1 ≠ w5.heap.size := by
                      obtain ⟨b1', o1', e1', _, c1'⟩ := (M.broken.keep (keepsB hbel _)) k _ G0.out
                      rw [e1] at e1'
                      cases e1'
                      exact Nat.ne_of_lt (cell_lt c1')
                    have BT := hbt.succ G0.out htl
                    have BB : Blk (wr.setCell ⟨w5.heap.size, t, none⟩ (.bool true)) w5.heap.size 4 ((bs.set t true).map Value.bool) := by rw [List.map_set]; exact hBb.set t _
                    have BW : Below w5.heap.size w5 (wr.setCell ⟨w5.heap.size, t, none⟩ (.bool true)) := hbw.setCell (Nat.le_refl _) _
                    have hbl2 : (bs.set t true).length = m.es.length := by simpa using hbl
                    have HBL : Hid ((bs.set t true).length = m.es.length) := hbl2
                    have HBT : Hid (BrkTo (bs.set t true) m.broken (k + 1)) := BT
                    clear hbl2 BT hbt
                    rw [HBe.out] at e1
                    subst e1
                    go_wp2_with fail
                    go_roundg (gk - 1)
                    case measure => omega
                    case rel => exact ⟨k + 1, bs.set t true, by omega, by go_num, HBL.out, HBT.out, BB, BW⟩
                  · have HBK : Hid (∀ q : Nat, bs[q]? = some true ↔ (q : Int) ∈ m.broken) := hbt.all (by omega)
                    have HBL : Hid (bs.length = m.es.length) := hbl
                    have hF6 := hFb.below hbw hFlt
                    have hB6 : Below w'.heap.size w' wr := hbel.trans (hbw.mono hbel.size)
                    have hlt6 := hF6.lt
                    have hlt7 := hBb.lt
                    clear hbl hbt hFb hbel hbw hk1 hk2 hmkE
                    go_wp2_with fail
                    generalize wr = w6 at *
                    generalize gk = g2 at *
                    go_loopg [141] m.es.length (fun g i wr => ∃ (k : Nat), k + g = m.es.length ∧ i = .int .i64 k ∧ (∀ (q : Nat) (ex : Excl), q < k → m.es[q]? = some ex → ¬ Bad (jun m.js) r au m.broken q ex) ∧ Below w6.heap.size w6 wr)
                    case atStart => exact ⟨0, by omega, rfl, fun q ex hq => by omega, Below.refl _ _⟩
                    case round =>
                      obtain ⟨k, hk, rfl, hno, hb7⟩ := hrel
                      by_cases hlt : k < m.es.length
                      · have G0 : Hid (m.es[k]? = some m.es[k]) := List.getElem?_eq_getElem hlt
                        have hB7 : Below w'.heap.size w' wr := hB6.trans (hb7.mono hB6.size)
                        obtain ⟨⟨b1, o1, e1, _, c0, c1⟩, hri⟩ := (M.es.keep (keepsB hB7 _)) k _ G0.out
                        obtain ⟨x1, x2⟩ := ok.esIn _ (List.mem_of_getElem? G0.out)
                        have hkb : k < bs.length := by rw [HBL.out]; exact hlt
                        have G1 : Hid (bs[k]? = some bs[k]) := List.getElem?_eq_getElem hkb
                        have c4 : wr.cell? ⟨w5.heap.size, k, none⟩ = some (.bool bs[k]) := by rw [(hBb.below hb7 hlt7).cell]; simp [hkb]
                        have hF7 := hF6.below hb7 hlt6
                        have HBI : Hid (Bad (jun m.js) r au m.broken k m.es[k] ↔ RelTo fs au m.es[k].roles.xs bs[k] m.es[k].roles.xs.length ∧ m.es[k].limit ≤ (cq fs au m.es[k].roles.xs m.es[k].roles.xs.length : Int)) :=
                          bad_iff HF.out ⟨fun h => (HBK.out k).1 (by rw [G1.out, h]), fun h => by have := (HBK.out k).2 h; rw [G1.out] at this; injection this⟩ (fun y hy => (x2 y hy).1)
                        generalize bs[k] = bk at *
                        generalize m.es[k] = ex at *
                        obtain ⟨⟨xa, xc, xs⟩, lim⟩ := ex
                        unfold IRow.val at c0
                        dsimp only at *
                        rw [HEe.out] at e1
                        subst e1
                        have z7 := hb7.size
                        have z8 : w5.heap.size < wr.heap.size := by omega
                        have z9 : w3.heap.size < wr.heap.size := by omega
                        have q3 : (k : Int) < (m.es.length : Int) := by omega
                        have q4 : (0 : Int) ≤ (k : Int) := by omega
                        go_wp2_with fail
                        have hI8 : Is Any (wr.alloc (.cells #[.slice xa xs.length xc, .int .i64 lim] 78)) xa xs := hri.keep (keeps_alloc _ _ _)
                        have hF8 := hF7.alloc (.cells #[.slice xa xs.length xc, .int .i64 lim] 78)
                        have hU8 := (hu.keep (keepsB hB7 _)).keep (keeps_alloc Any wr (.cells #[.slice xa xs.length xc, .int .i64 lim] 78))
                        have hb8 := hb7.alloc hb7.size (.cells #[.slice xa xs.length xc, .int .i64 lim] 78)
                        have hS8 := Blk.new wr 78 [.slice xa xs.length xc, .int .i64 lim]
                        generalize hW8 : wr.alloc (.cells #[.slice xa xs.length xc, .int .i64 lim] 78) = w8 at *
                        clear c0 c1 c4 hF7 hri
                        have HNO : Hid (∀ (q : Nat) (ex : Excl), q < k → m.es[q]? = some ex → ¬ Bad (jun m.js) r au m.broken q ex) := hno
                        have HX2 : Hid (∀ y ∈ xs, 0 ≤ y ∧ y < (n : Int)) := x2
                        clear hno x2
                        generalize wr = w7 at *
                        generalize gk = g3 at *
                        go_loopg [35, 153] xs.length (fun g v i wr => ∃ (k2 : Nat) (b : Bool), k2 + g = xs.length ∧ v = .bool b ∧ i = .int .i64 k2 ∧ RelB fs au xs bk k2 b ∧ wr = w8)
                        case atStart => exact ⟨0, bk, by omega, rfl, rfl, RelB.start _ _ _ _, rfl⟩
                        case round =>
                          obtain ⟨k2, b, hk2, rfl, rfl, hrb, hwr⟩ := hrel
                          subst hwr
                          by_cases hlt2 : k2 < xs.length
                          · have G2 : Hid (xs[k2]? = some xs[k2]) := List.getElem?_eq_getElem hlt2
                            obtain ⟨b2, o2, e2, _, c2⟩ := hI8 k2 _ G2.out
                            obtain ⟨y0, y1⟩ := HX2.out _ (List.getElem_mem hlt2)
                            generalize xs[k2] = y at *
                            obtain ⟨t, rfl⟩ := Int.eq_ofNat_of_zero_le y0
                            have htf : t < fs.length := by rw [HFL.out]; omega
                            have G3 : Hid (fs[t]? = some fs[t]) := List.getElem?_eq_getElem htf
                            have c3 : wr.cell? ⟨w3.heap.size, t, none⟩ = some (.bool fs[t]) := by rw [hF8.cell]; simp [htf]
                            have htN : t / 64 < N := by omega
                            generalize fs[t] = ft at *
                            subst e2
                            have q5 : (k2 : Int) < (xs.length : Int) := by omega
                            have q6 : (0 : Int) ≤ (k2 : Int) := by omega
                            have q7 : (t : Int) < (n : Int) := by omega
                            cases ft with
                            | false =>
                              have R2 := hrb.no G2.out (fun h => by rw [G3.out] at h; cases h.1)
                              go_wp2_with fail
                              go_roundg (gk - 1)
                              case measure => omega
                              case rel => exact ⟨k2 + 1, b, by omega, rfl, by go_num, R2, rfl⟩
                            | true =>
                              go_wp2_with fail
                              refine (bitOf_len (D := Any) aU cU t N au HU.out wr hU8 htN W3).mono ?_
                              rintro e w9 ⟨rfl, hw9⟩
                              subst hw9
                              cases hbt : bit au t with
                              | true =>
                                have R2 := hrb.no G2.out (fun h => by rw [hbt] at h; cases h.2)
                                clear hbt
                                go_wp2_with fail
                                go_roundg (gk - 1)
                                case measure => omega
                                case rel => exact ⟨k2 + 1, b, by omega, rfl, by go_num, R2, rfl⟩
                              | false =>
                                have R2 : RelB fs au xs bk (k2 + 1) true := RelB.yes G2.out G3.out hbt
                                clear hbt
                                go_wp2_with fail
                                go_roundg (gk - 1)
                                case measure => omega
                                case rel => exact ⟨k2 + 1, true, by omega, rfl, by go_num, R2, rfl⟩
                          · have hke : k2 = xs.length := by omega
                            subst hke
                            have hn1 : ∀ (P : Prop), (Bad (jun m.js) r au m.broken k ⟨⟨xa, xc, xs⟩, lim⟩ → False) → Hid (∀ (q : Nat) (ex : Excl), q < k + 1 → m.es[q]? = some ex → ¬ Bad (jun m.js) r au m.broken q ex) := by
                              intro _ hnb q ex hq hex
                              by_cases hqk : q = k
                              · subst hqk; rw [G0.out] at hex; cases hex; exact hnb
                              · exact HNO.out q ex (by omega) hex
                            cases b with
                            | false =>
                              have HN := hn1 True (fun hb => by have := hrb.2 (HBI.out.1 hb).1; cases this)
                              clear hn1 hrb
                              go_wp2_with fail
                              go_roundg (g3 - 1)
                              case measure => omega
                              case rel => exact ⟨k + 1, by omega, by go_num, HN.out, hb8⟩
                            | true =>
                              have HR : Hid (RelTo fs au xs bk xs.length) := hrb.1 rfl
                              have s0 : wr.cell? ⟨w7.heap.size, 0, none⟩ = some (.slice xa xs.length xc) := hS8.cell 0
                              have s1 : wr.cell? ⟨w7.heap.size, 1, none⟩ = some (.int .i64 lim) := hS8.cell 1
                              clear hrb
                              go_wp2_with fail
                              generalize gk = g4 at *
                              generalize wr = w9 at *
                              go_loopg [38, 173] xs.length (fun g v i wr => ∃ (k3 : Nat), k3 + g = xs.length ∧ v = .int .i64 ((cq fs au xs k3 : Nat) : Int) ∧ i = .int .i64 k3 ∧ wr = w9)
                              case atStart => exact ⟨0, by omega, rfl, rfl, rfl⟩
                              case round =>
                                obtain ⟨k3, hk3, rfl, rfl, hwr⟩ := hrel
                                subst hwr
                                have hcl := cq_le fs au xs k3
                                by_cases hlt3 : k3 < xs.length
                                · have G2 : Hid (xs[k3]? = some xs[k3]) := List.getElem?_eq_getElem hlt3
                                  obtain ⟨b2, o2, e2, _, c2⟩ := hI8 k3 _ G2.out
                                  obtain ⟨y0, y1⟩ := HX2.out _ (List.getElem_mem hlt3)
                                  generalize xs[k3] = y at *
                                  obtain ⟨t, rfl⟩ := Int.eq_ofNat_of_zero_le y0
                                  have htf : t < fs.length := by rw [HFL.out]; omega
                                  have G3 : Hid (fs[t]? = some fs[t]) := List.getElem?_eq_getElem htf
                                  have c3 : wr.cell? ⟨w3.heap.size, t, none⟩ = some (.bool fs[t]) := by rw [hF8.cell]; simp [htf]
                                  have htN : t / 64 < N := by omega
                                  have HCQ : Hid (cq fs au xs (k3 + 1) = cq fs au xs k3 + if Qm fs au (t : Int) then 1 else 0) := cq_succ G2.out
                                  generalize fs[t] = ft at *
                                  subst e2
                                  have q5 : (k3 : Int) < (xs.length : Int) := by omega
                                  have q6 : (0 : Int) ≤ (k3 : Int) := by omega
                                  have q7 : (t : Int) < (n : Int) := by omega
                                  have HD : Hid (fs.getD t false = ft) := by rw [List.getD_eq_getElem?_getD, G3.out]; rfl
                                  cases ft with
                                  | true =>
                                    have HQ : Hid (cq fs au xs (k3 + 1) = cq fs au xs k3 + 1) := by
                                      rw [HCQ.out]; unfold Qm; rw [Int.toNat_natCast, HD.out]; rfl
                                    go_wp2_with fail
                                    go_roundg (gk - 1)
                                    case measure => omega
                                    case rel => exact ⟨k3 + 1, by omega, by rw [HQ.out]; go_num, by go_num, rfl⟩
                                  | false =>
                                    go_wp2_with fail
                                    refine (bitOf_len (D := Any) aU cU t N au HU.out wr hU8 htN W3).mono ?_
                                    rintro e w10 ⟨rfl, hw10⟩
                                    subst hw10
                                    cases hbt : bit au t with
                                    | true =>
                                      have HQ : Hid (cq fs au xs (k3 + 1) = cq fs au xs k3 + 1) := by
                                        rw [HCQ.out]; unfold Qm; rw [Int.toNat_natCast, HD.out, hbt]; rfl
                                      clear hbt
                                      go_wp2_with fail
                                      go_roundg (gk - 1)
                                      case measure => omega
                                      case rel => exact ⟨k3 + 1, by omega, by rw [HQ.out]; go_num, by go_num, rfl⟩
                                    | false =>
                                      have HQ : Hid (cq fs au xs (k3 + 1) = cq fs au xs k3) := by
                                        rw [HCQ.out]; unfold Qm; rw [Int.toNat_natCast, HD.out, hbt]; rfl
                                      clear hbt
                                      go_wp2_with fail
                                      go_roundg (gk - 1)
                                      case measure => omega
                                      case rel => exact ⟨k3 + 1, by omega, by rw [HQ.out], by go_num, rfl⟩
                                · have hke : k3 = xs.length := by omega
                                  subst hke
                                  by_cases hli : lim ≤ (cq fs au xs xs.length : Int)
                                  · have HBad : Hid (¬ AllowedS m r asg au) := by
                                      rintro (⟨h1, _⟩ | ⟨_, _, h2⟩)
                                      · rw [HB.out] at h1; cases h1
                                      · exact h2 ⟨k, _, G0.out, HBI.out.2 ⟨HR.out, hli⟩⟩
                                    go_wp2_with fail
                                    go_ret
                                    exact ⟨.mk false rfl ⟨fun h => Bool.noConfusion h, fun h => absurd h HBad.out⟩, hB6.trans (hb8.mono hB6.size)⟩
                                  · have HN := hn1 True (fun hb => hli (HBI.out.1 hb).2)
                                    clear hn1
                                    go_wp2_with fail
                                    go_roundg (g3 - 1)
                                    case measure => omega
                                    case rel => exact ⟨k + 1, by omega, by go_num, HN.out, hb8⟩
                      · have HC : Hid (AllowedS m r asg au) := .inr ⟨HB.out, HSV.out, fun ⟨q, ex, hq, hb⟩ => hno q ex (by have := (List.getElem?_eq_some_iff.1 hq).1; omega) hq hb⟩
                        clear hno
                        go_wp2_with fail
                        go_ret
                        exact ⟨.mk true rfl ⟨fun _ => HC.out, fun _ => rfl⟩, hB6.trans (hb7.mono hB6.size)⟩
              · rw [List.concat_eq_append] at *
                obtain ⟨i, rfl, hin⟩ := S.stk.top
                obtain ⟨c, rfl⟩ : ∃ c, gk = c + 1 := ⟨falses fs + xs.length, by have := S.stk.room; simp at this; omega⟩
                have hcap := S.own.cap
                have hln : xs.length < n := by have := S.stk.room; simp at this; omega
                obtain ⟨b1, o1, e1, _, c1⟩ := S.own.is xs.length (i : Int) (by simp)
                have S1 : Srch (jun m.js) n r w3.heap.size w' wr fs ⟨ta, tc, xs⟩ c (some i) := ⟨S.stk.pop, S.blk, S.own.pop, S.bel, S.low⟩
                have hlen : (xs ++ [(i : Int)]).length = xs.length + 1 := by simp
                clear S
                rw [hlen] at hcap
                dsimp only at *
                subst e1
                have HL : Hid ((xs ++ [(i : Int)]).length = xs.length + 1) := hlen
                clear hlen
                rw [HL.out]
                generalize hxl : xs.length = l at *
                have HX : Hid (xs.length = l) := hxl
                clear hxl
                have hcap2 : (l : Int) ≤ (tc : Int) := by omega
                cases aJ with
                | none =>
                  have hjs : m.js = [] := by have := M.js; rw [HJ.out] at this; exact this.nil
                  have S2 : Srch (jun m.js) n r w3.heap.size w' wr fs ⟨some ⟨b1, o1, none⟩, tc, xs⟩ c none := ⟨S1.stk.fin (by rw [hjs]; intro q y hq hy; simp [jun] at hy), S1.blk, S1.own, S1.bel, S1.low⟩
                  clear S1 hjs
                  go_wp2_with fail
                  go_roundg c
                  case measure => omega
                  case rel => exact ⟨fs, _, by rw [HX.out], by omega, S2⟩
                | some aj =>
                  have hjl : i < m.js.length := by rw [ok.js.resolve_left (by rw [HJ.out]; simp)]; exact hin
                  have GJ : Hid (m.js[i]? = some m.js[i]) := List.getElem?_eq_getElem hjl
                  obtain ⟨⟨b2, o2, e2, _, c2⟩, hri⟩ := (M.js.keep (keepsB S1.bel _)) i _ GJ.out
                  have hri0 := (M.js i _ GJ.out).2
                  have JR : Hid (jun m.js i = m.js[i].xs) := by unfold jun; rw [GJ.out]; rfl
                  obtain ⟨hj1, hj2⟩ := ok.jsIn _ (List.mem_of_getElem? GJ.out)
                  generalize m.js[i] = jrow at *
                  have HJ2 : Hid (∀ y ∈ jrow.xs, 0 ≤ y ∧ y < (n : Int)) := hj2
                  unfold IRow.val at c2
                  rw [HJ.out] at e2
                  cases e2
                  have q5 : (i : Int) < (m.js.length : Int) := by omega
                  have q6 : (0 : Int) ≤ (i : Int) := by omega
                  clear hj2 hri
                  go_wp2_with fail
                  clear c1 c2 q5 q6 hcap hcap2
                  generalize wr = w4 at *
                  go_loopg [26, 109] jrow.xs.length (fun gh v iv wr => ∃ (q : Nat) (fs : List Bool) (td : IRow), q + gh = jrow.xs.length ∧ v = .slice td.a td.xs.length td.cap ∧ iv = .int .i64 q ∧ Srch (jun m.js) n r w3.heap.size w' wr fs td c (some i) ∧ RowF fs jrow.xs q)
                  case atStart => exact ⟨0, fs, _, by omega, by rw [HX.out], rfl, S1, fun q y hq => by omega⟩
                  case round =>
                    clear S1
                    obtain ⟨q, fs, td, hq, rfl, rfl, S, hrf⟩ := hrel
                    have htl : td.xs.length ≤ n := by have := S.stk.room; omega
                    by_cases hlt2 : q < jrow.xs.length
                    · have G2 : Hid (jrow.xs[q]? = some jrow.xs[q]) := List.getElem?_eq_getElem hlt2
                      obtain ⟨hj0, hjn⟩ := HJ2.out _ (List.getElem_mem hlt2)
                      obtain ⟨b3, o3, e3, _, c3⟩ := (hri0.keep (keepsB S.bel _)) q _ G2.out
                      generalize jrow.xs[q] = y at *
                      obtain ⟨t, rfl⟩ := Int.eq_ofNat_of_zero_le hj0
                      obtain ⟨ja, jc, jx⟩ := jrow
                      dsimp only at *
                      subst e3
                      have htn : t < fs.length := by rw [S.stk.len]; omega
                      have G3 : Hid (fs[t]? = some fs[t]) := List.getElem?_eq_getElem htn
                      have c4 : wr.cell? ⟨w3.heap.size, t, none⟩ = some (.bool fs[t]) := by rw [S.blk.cell]; simp [htn]
                      have f4 := S.blk.frozen t
                      have q7 : (q : Int) < (jx.length : Int) := by omega
                      have q8 : (0 : Int) ≤ (q : Int) := by omega
                      generalize fs[t] = fb at *
                      cases fb with
                      | true =>
                        have R2 := hrf.succ G2.out G3.out
                        go_wp2_with fail
                        go_roundg (gk - 1)
                        case measure => omega
                        case rel => exact ⟨q + 1, fs, td, by omega, rfl, by go_num, S, R2⟩
                      | false =>
                        have hbl2 := S.blk.lt
                        have hown5 : OwnI (wr.setCell ⟨w3.heap.size, t, none⟩ (.bool true)) (w3.heap.size + 1) td := S.own.below (by simp) _
                        go_wp2_with (at_builtin; refine wpList_app45 _ rfl (.tmp 121) (.tmp 123) rfl (w3.heap.size + 1) td rfl ?_ ⟨wr.heap.size, 0, none⟩ (t : Int) rfl ?_ ?_ ?_ ?_)
                        · exact hown5.alloc _
                        · have : (wr.setCell ⟨w3.heap.size, t, none⟩ (.bool true)).heap.size = wr.heap.size := by simp [World.setCell]
                          have h := (Blk.new (wr.setCell ⟨w3.heap.size, t, none⟩ (.bool true)) 3 [.int .i64 (t : Int)]).cell 0
                          rw [this] at h
                          exact h
                        · omega
                        · simp [World.setCell]; omega
                        · intro g5 c5 w5 ho5 hg5 _ _
                          have hlow := S.low
                          have hbel := S.bel
                          have S5 : Srch (jun m.js) n r w3.heap.size w' w5 (fs.set t true) ⟨some ⟨g5, 0, none⟩, c5, td.xs ++ [(t : Int)]⟩ c (some i) := by
                            refine ⟨S.stk.push (by rw [JR.out]; exact List.mem_of_getElem? G2.out) G3.out, ?_, ho5, ?_, hlow⟩
                            · rw [List.map_set]
                              exact ((S.blk.set t (.bool true)).alloc _).grown hg5 (fun e => by have := (S.own.lt _ e).1; omega)
                            · refine ((hbel.setCell hlow _).alloc (by simpa [World.setCell] using hbel.size) _).grown hg5 (by simp [World.setCell]; have := hbel.size; omega) (fun k e => by have := (S.own.lt _ e).1; omega)
                          have R5 : RowF (fs.set t true) jx (q + 1) := (hrf.set htn).succ G2.out ((flag_set htn).2 (.inl rfl))
                          clear ho5 hg5 hown5 S hrf c3 c4 f4
                          go_wp2_with fail
                          go_roundg (gk - 1)
                          case measure => omega
                          case rel => exact ⟨q + 1, _, _, by omega, by simp, by go_num, S5, R5⟩
                    · have S2 : Srch (jun m.js) n r w3.heap.size w' wr fs td c none := ⟨S.stk.fin (by rw [JR.out]; intro p y hp hy; exact hrf p y (by omega) hy), S.blk, S.own, S.bel, S.low⟩
                      clear S
                      go_wp2_with fail
                      go_roundg c
                      case measure => omega
                      case rel => exact ⟨fs, td, rfl, by omega, S2⟩
      · have HC : Hid (¬ AllowedS m r asg au) := by
          rintro (⟨h1, _⟩ | ⟨_, ⟨x, hx, hs⟩, _⟩)
          · rw [HB.out] at h1; cases h1
          · rw [RR.out] at hx
            obtain ⟨q, hq⟩ := List.getElem?_of_mem hx
            exact hno q x (by have := (List.getElem?_eq_some_iff.1 hq).1; omega) hq hs
        clear hno
        go_wp2_with fail
        go_ret
        exact ⟨.mk false rfl ⟨fun h => Bool.noConfusion h, fun h => absurd h HC.out⟩, hbl⟩
end Go.Proofs.Qxb6604686a
