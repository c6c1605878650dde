import Derived.Test.Qxb6604686aU2
namespace Go.Proofs.Qxb6604686a
open Go.ChangeShapes Go.WideShapes Go.ChangeAt Go.RowKit
set_option linter.unusedVariables false

set_option maxRecDepth 100000 in
set_option maxHeartbeats 8000000 in
theorem monotone_any (aH aX aG aU aR aS aJ aE aB : Option Addr) (cH cX cG cU cR cS cJ cE cB n N nX nG nU nS nJ nE nB : Nat) (r : Int) (held extra asg au : List Nat) (revoke : List IRow) (assign : List LRow) (js : List IRow) (es : List Excl) (broken : List Int) (w : World)
    (hH : Ws Any w aH held) (hX : Ws Any w aX extra) (hG : Ws Any w aG asg) (hU : Ws Any w aU au) (hR : Rs Any w aR revoke) (hS : As Any w aS assign) (hJ : Rs Any w aJ js) (hE : Es Any w aE es) (hB : Is Any w aB broken)
    (lH : held.length = N) (lX : extra.length = nX) (lG : asg.length = nG) (lU : au.length = nU) (lR : revoke.length = n) (lS : assign.length = nS) (lJ : js.length = nJ) (lE : es.length = nE) (lB : broken.length = nB) :
    Calls Try.prog 6 #[.slice aH N cH, .slice aX nX cX, .slice aG nG cG, .slice aU nU cU, .int .i64 r, .slice aR n cR, .slice aS nS cS, .slice aJ nJ cJ, .slice aE nE cE, .slice aB nB cB] w fun e w' => e = .returned (.bool true) ∧ Below w.heap.size w w' := by
  have LH : Hid (held.length = N) := lH
  have LG : Hid (asg.length = nG) := lG
  have LU : Hid (au.length = nU) := lU
  have LR : Hid (revoke.length = n) := lR
  have LS : Hid (assign.length = nS) := lS
  have LJ : Hid (js.length = nJ) := lJ
  have LE : Hid (es.length = nE) := lE
  have LB : Hid (broken.length = nB) := lB
  have LX : Hid (extra.length = nX) := lX
  clear lH lG lU lR lS lJ lE lB lX
  go_enter Try.func6, Try.ntmps6
  go_wp2_with fail
  refine (bytes2_len aH aX aG aU aR aS aJ aE aB cH cX cG cU cR cS cJ cE cB N nX nG nU n nS nJ nE nB r revoke assign js es w hR hS hJ hE LR.out LS.out LJ.out LE.out).mono ?_
  rintro e w1 ⟨⟨bb, rfl, hb⟩, hb1⟩
  clear hb
  cases bb with
  | false =>
    go_wp2_with fail
    go_ret
    exact ⟨rfl, hb1⟩
  | true =>
    go_wp2_with fail
    refine (fit_len aH aG aU aX aR aS aJ aE aB cH cG cU cX cR cS cJ cE cB N nG nU nX n nS nJ nE nB revoke assign js es w1 (hR.keep (keepsB hb1 _)) (hS.keep (keepsB hb1 _)) (hJ.keep (keepsB hb1 _)) (hE.keep (keepsB hb1 _)) LR.out LS.out LJ.out LE.out).mono ?_
    rintro e w2 ⟨⟨bb, rfl, hb⟩, hb2'⟩
    have hb2 := hb1.trans (hb2'.mono hb1.size)
    cases bb with
    | false =>
      clear hb
      go_wp2_with fail
      go_ret
      exact ⟨rfl, hb2⟩
    | true =>
      have F := hb rfl
      clear hb
      go_wp2_with fail
      refine (dom_any aH aG aU aR aS aJ aE aB cH cG cU cR cS cJ cE cB n N nG nU nS nJ nE nB _ r held asg au revoke assign js es broken w2 (hH.keep (keepsB hb2 _)) (hG.keep (keepsB hb2 _)) (hU.keep (keepsB hb2 _)) (hR.keep (keepsB hb2 _)) (hS.keep (keepsB hb2 _)) (hJ.keep (keepsB hb2 _)) (hE.keep (keepsB hb2 _)) (hB.keep (keepsB hb2 _)) LH.out LG.out LU.out LR.out LS.out LJ.out LE.out LB.out F).mono ?_
      rintro e w3 ⟨⟨bb, rfl, hb⟩, hb3'⟩
      have hb3 := hb2.trans (hb3'.mono hb2.size)
      cases bb with
      | false =>
        clear hb
        go_wp2_with fail
        go_ret
        exact ⟨rfl, hb3⟩
      | true =>
        have Dm := hb rfl
        clear hb
        have g := Given.of F Dm LR.out LS.out LE.out LB.out (fun h => by subst h; exact hJ.nil)
        obtain ⟨r, rfl⟩ := Int.eq_ofNat_of_zero_le Dm.pos
        have hrn : r < n := by have := Dm.lt; omega
        have eS := Dm.eS.symm
        have eG := Dm.eG.symm
        have eU := Dm.eU.symm
        subst eS eG eU
        have N17 := g.N17
        have n16 := g.n17
        have E16 : nE ≤ 65536 := by rw [← LE.out]; exact g.esL
        have B17 : nB ≤ 131072 := F.broken
        have J16 : nJ ≤ 65536 := by rw [← LJ.out]; exact F.jsL
        clear Dm
        have X17 : nX ≤ 131072 := F.extra
        by_cases hc1 : ((nX : Int) != (N : Int)) = true
        · go_wp2_with fail
          go_ret
          exact ⟨rfl, hb3⟩
        rw [Bool.not_eq_true] at hc1
        go_wp2_with fail
        refine (within_any (D := Any) aX cX n nX extra w3 (hX.keep (keepsB hb3 _)) LX.out X17 (by omega)).mono ?_
        rintro e w3x ⟨⟨bb, rfl, hb⟩, hb3x'⟩
        clear hb
        have hb3x := hb3.trans (hb3x'.mono hb3.size)
        cases bb with
        | false =>
          go_wp2_with fail
          go_ret
          exact ⟨rfl, hb3x⟩
        | true =>
          have eX : N = nX := by have h0 := hc1; simp only [bne_eq_false_iff_eq] at h0; omega
          clear hc1
          subst eX
          clear F hb1 hb2 hb2' hb3' hb3 hb3x'
          go_wp2_with fail
          refine (copyWords_len aH cH N held w3x (hH.keep (keepsB hb3x _)) LH.out N17).mono ?_
          rintro e w4 ⟨aH1, cH1, rfl, iH, hbn⟩
          have hb4 := hb3x.trans (hbn.mono hb3x.size)
          clear hbn hb3x
          go_wp2_with fail
          refine (copyWords_len aX cX N extra w4 (hX.keep (keepsB hb4 _)) LX.out N17).mono ?_
          rintro e w5 ⟨aX1, cX1, rfl, iX, hbn⟩
          have hb5 := hb4.trans (hbn.mono hb4.size)
          replace iH := iH.keep (keepsB hbn _)
          clear hbn hb4
          go_wp2_with fail
          refine (copyWords_len aG cG N asg w5 (hG.keep (keepsB hb5 _)) LG.out N17).mono ?_
          rintro e w6 ⟨aG1, cG1, rfl, iG, hbn⟩
          have hb6 := hb5.trans (hbn.mono hb5.size)
          replace iH := iH.keep (keepsB hbn _)
          replace iX := iX.keep (keepsB hbn _)
          clear hbn hb5
          go_wp2_with fail
          refine (copyWords_len aU cU N au w6 (hU.keep (keepsB hb6 _)) LU.out N17).mono ?_
          rintro e w7 ⟨aU1, cU1, rfl, iU, hbn⟩
          have hb7 := hb6.trans (hbn.mono hb6.size)
          replace iH := iH.keep (keepsB hbn _)
          replace iX := iX.keep (keepsB hbn _)
          replace iG := iG.keep (keepsB hbn _)
          clear hbn hb6
          go_wp2_with fail
          refine (copyIntRows_len aR cR n revoke w7 (hR.keep (keepsB hb7 _)) LR.out (by omega) g.revokeR).mono ?_
          rintro e w8 ⟨aR1, cR1, revoke1, rfl, _, mR, iR, hbn⟩
          have hb8 := hb7.trans (hbn.mono hb7.size)
          replace iH := iH.keep (keepsB hbn _)
          replace iX := iX.keep (keepsB hbn _)
          replace iG := iG.keep (keepsB hbn _)
          replace iU := iU.keep (keepsB hbn _)
          have MR : Hid (revoke1.map IRow.xs = revoke.map IRow.xs) := mR
          clear mR
          clear hbn hb7
          go_wp2_with fail
          refine (copyAssign_len aS cS n assign w8 (hS.keep (keepsB hb8 _)) LS.out (by omega) (fun row hrow => ⟨g.assignR row hrow, fun x hx => ⟨by rw [(g.assignIn row hrow x hx).req]; exact N17, by rw [(g.assignIn row hrow x hx).forb]; exact N17⟩⟩)).mono ?_
          rintro e w9 ⟨aS1, cS1, assign1, rfl, mS, iS, hbn⟩
          have hb9 := hb8.trans (hbn.mono hb8.size)
          replace iH := iH.keep (keepsB hbn _)
          replace iX := iX.keep (keepsB hbn _)
          replace iG := iG.keep (keepsB hbn _)
          replace iU := iU.keep (keepsB hbn _)
          replace iR := iR.keep (keepsB hbn _)
          have MS : Hid (assign1.map LRow.data = assign.map LRow.data) := mS
          clear mS
          clear hbn hb8
          go_wp2_with fail
          refine (copyIntRows_len aJ cJ nJ js w9 (hJ.keep (keepsB hb9 _)) LJ.out (by omega) g.jsR).mono ?_
          rintro e w10 ⟨aJ1, cJ1, js1, rfl, zJ, mJ, iJ, hbn⟩
          have hb10 := hb9.trans (hbn.mono hb9.size)
          replace iH := iH.keep (keepsB hbn _)
          replace iX := iX.keep (keepsB hbn _)
          replace iG := iG.keep (keepsB hbn _)
          replace iU := iU.keep (keepsB hbn _)
          replace iR := iR.keep (keepsB hbn _)
          replace iS := iS.keep (keepsB hbn _)
          have MJ : Hid (js1.map IRow.xs = js.map IRow.xs) := mJ
          clear mJ
          have ZJ : Hid (aJ1 = none ↔ aJ = none) := zJ
          clear zJ
          clear hbn hb9
          go_wp2_with fail
          refine (copyExclusions_len aE cE nE es w10 (hE.keep (keepsB hb10 _)) LE.out (by omega) g.esR).mono ?_
          rintro e w11 ⟨aE1, cE1, es1, rfl, mE, iE, hbn⟩
          have hb11 := hb10.trans (hbn.mono hb10.size)
          replace iH := iH.keep (keepsB hbn _)
          replace iX := iX.keep (keepsB hbn _)
          replace iG := iG.keep (keepsB hbn _)
          replace iU := iU.keep (keepsB hbn _)
          replace iR := iR.keep (keepsB hbn _)
          replace iS := iS.keep (keepsB hbn _)
          replace iJ := iJ.keep (keepsB hbn _)
          have ME : Hid (es1.map Excl.data = es.map Excl.data) := mE
          clear mE
          clear hbn hb10
          go_wp2_with fail
          refine (copyInts_len aB cB nB broken w11 (hB.keep (keepsB hb11 _)) LB.out B17).mono ?_
          rintro e w12 ⟨aB1, cB1, rfl, iB, hbn⟩
          have hb12 := hb11.trans (hbn.mono hb11.size)
          replace iH := iH.keep (keepsB hbn _)
          replace iX := iX.keep (keepsB hbn _)
          replace iG := iG.keep (keepsB hbn _)
          replace iU := iU.keep (keepsB hbn _)
          replace iR := iR.keep (keepsB hbn _)
          replace iS := iS.keep (keepsB hbn _)
          replace iJ := iJ.keep (keepsB hbn _)
          replace iE := iE.keep (keepsB hbn _)
          clear hbn hb11
          have KS : Hid (assign1.length = n) := (map_len MS.out).trans LS.out
          have KE : Hid (es1.length = nE) := (map_len ME.out).trans LE.out
          have KJ : Hid (js1.length = nJ) := (map_len MJ.out).trans LJ.out
          have KR : Hid (revoke1.length = n) := (map_len MR.out).trans LR.out
          have AR : Hid (∀ r ∈ assign1, r.xs.length ≤ 131072) := by
            intro r hr
            have h := map_all MS.out (fun xs => xs.length ≤ 131072) (fun y hy => by unfold LRow.data; rw [List.length_map]; exact g.assignR y hy) r hr
            unfold LRow.data at h
            rwa [List.length_map] at h
          go_wp2_with fail
          refine (orWords_len aH1 aX1 cH1 cX1 N held extra w12 iH iX LH.out LX.out N17).mono ?_
          rintro e w13 ⟨aM1, cM1, rfl, iM, hbn⟩
          have hb13 := hb12.trans (hbn.mono hb12.size)
          replace iH := iH.keep (keepsB hbn _)
          replace iX := iX.keep (keepsB hbn _)
          replace iG := iG.keep (keepsB hbn _)
          replace iU := iU.keep (keepsB hbn _)
          replace iR := iR.keep (keepsB hbn _)
          replace iS := iS.keep (keepsB hbn _)
          replace iJ := iJ.keep (keepsB hbn _)
          replace iE := iE.keep (keepsB hbn _)
          replace iB := iB.keep (keepsB hbn _)
          clear hbn hb12
          go_wp2_with fail
          refine (splitAssign_len aS1 cS1 n assign1 w13 iS KS.out (by omega) AR.out).mono ?_
          rintro e w14 ⟨p1, p2, p3, d1, d2, d3, r1, r2, r3, rfl, m1, m2, m3, i1, i2, i3, hbn⟩
          have hb14 := hb13.trans (hbn.mono hb13.size)
          replace iH := iH.keep (keepsB hbn _)
          replace iX := iX.keep (keepsB hbn _)
          replace iG := iG.keep (keepsB hbn _)
          replace iU := iU.keep (keepsB hbn _)
          replace iR := iR.keep (keepsB hbn _)
          replace iS := iS.keep (keepsB hbn _)
          replace iJ := iJ.keep (keepsB hbn _)
          replace iE := iE.keep (keepsB hbn _)
          replace iB := iB.keep (keepsB hbn _)
          replace iM := iM.keep (keepsB hbn _)
          have M1 : Hid (r1.map IRow.xs = assign1.map (fun r => r.xs.map Rule.admin)) := m1
          have M2 : Hid (r2.map QRow.xs = assign1.map (fun r => r.xs.map Rule.req)) := m2
          have M3 : Hid (r3.map QRow.xs = assign1.map (fun r => r.xs.map Rule.forb)) := m3
          clear m1 m2 m3
          clear hbn hb13
          go_wp2_with fail
          refine (splitExclusions_len aE1 cE1 nE es1 w14 iE KE.out (by omega)).mono ?_
          rintro e w15 ⟨p4, p5, d4, d5, rfl, i4, i5, hbn⟩
          have hb15 := hb14.trans (hbn.mono hb14.size)
          replace iH := iH.keep (keepsB hbn _)
          replace iX := iX.keep (keepsB hbn _)
          replace iG := iG.keep (keepsB hbn _)
          replace iU := iU.keep (keepsB hbn _)
          replace iR := iR.keep (keepsB hbn _)
          replace iS := iS.keep (keepsB hbn _)
          replace iJ := iJ.keep (keepsB hbn _)
          replace iE := iE.keep (keepsB hbn _)
          replace iB := iB.keep (keepsB hbn _)
          replace iM := iM.keep (keepsB hbn _)
          replace i1 := i1.keep (keepsB hbn _)
          replace i2 := i2.keep (keepsB hbn _)
          replace i3 := i3.keep (keepsB hbn _)
          clear hbn hb14
          go_wp2_with fail
          refine (listingOf_len aE1 cE1 n nE es1 w15 iE KE.out (by omega) (map_all ME.out (fun x => x.1.length ≤ 131072) g.esR) (map_all ME.out (fun x => ∀ y ∈ x.1, 0 ≤ y ∧ y < (n : Int)) g.esIn) (by omega)).mono ?_
          rintro e w16 ⟨aL, cL, listing, rfl, lL, hL, iL, hbn⟩
          have hb16 := hb15.trans (hbn.mono hb15.size)
          replace iH := iH.keep (keepsB hbn _)
          replace iX := iX.keep (keepsB hbn _)
          replace iG := iG.keep (keepsB hbn _)
          replace iU := iU.keep (keepsB hbn _)
          replace iR := iR.keep (keepsB hbn _)
          replace iS := iS.keep (keepsB hbn _)
          replace iJ := iJ.keep (keepsB hbn _)
          replace iE := iE.keep (keepsB hbn _)
          replace iB := iB.keep (keepsB hbn _)
          replace iM := iM.keep (keepsB hbn _)
          replace i1 := i1.keep (keepsB hbn _)
          replace i2 := i2.keep (keepsB hbn _)
          replace i3 := i3.keep (keepsB hbn _)
          replace i4 := i4.keep (keepsB hbn _)
          replace i5 := i5.keep (keepsB hbn _)
          have LL : Hid (listing.length = n) := lL
          have HL : Hid (Lst es1 es1.length 0 listing) := hL
          clear lL hL
          clear hbn hb15
          have hmk := make41 N (by omega)
          go_wp2_with fail
          refine (space_any w16 N n nJ nE nB aH1 aR1 aJ1 aL aB1 cH1 cR1 cJ1 cL cB1 N p1 p2 p3 d1 d2 d3 r1 r2 r3 assign1 p4 p5 d4 d5 held revoke1 js1 es1 listing broken M1.out M2.out M3.out i1 i2 i3 iS.rules i4 i5 iH iR iJ iL iB LH.out KR.out KS.out KJ.out KE.out LL.out LB.out (by omega) AR.out (by omega)).mono ?_
          rintro e v1 ⟨bS1, sp1, rfl, S1, eH1, eR1, eA1, eJ1, eN1, eE1, eL1, eB1, hlt1, hv1⟩
          have OK1 : Hid (SpOk n N sp1) := g.ok (by rw [eH1]; exact LH.out) (by rw [eR1]; exact MR.out) ((data_of_xs eA1).trans MS.out) (by rw [eJ1]; exact MJ.out) (by rw [eN1]; exact ZJ.out) (by rw [eE1]; exact ME.out) (by rw [eL1]; exact LL.out) (by rw [eL1, eE1]; exact HL.out) eB1
          have HI1 : Hid (Hier (jun sp1.js) n au) := by rw [eJ1]; exact g.hier MJ.out
          have EQ1 : Hid (sp1.held = held ∧ sp1.revoke = revoke1 ∧ sp1.assign.map LRow.xs = assign1.map LRow.xs ∧ sp1.js = js1 ∧ sp1.es = es1 ∧ sp1.broken = broken) := ⟨eH1, eR1, eA1, eJ1, eE1, eB1⟩
          clear eH1 eR1 eA1 eJ1 eN1 eE1 eL1 eB1
          have n21 : ∀ b, Any b → b < w16.heap.size → Not2 w16.heap.size bS1 b := fun b _ hb' => ⟨Nat.ne_of_lt hb', by omega⟩
          go_wp2_with fail
          refine (zzAllowed_any bS1 w16.heap.size n N r cU1 cG1 aU1 aG1 sp1 asg au (List.replicate N 0) v1 S1 OK1.out (by simp) LU.out LG.out ((iU.mono n21).keep (keepsB hv1 _)) ((iG.mono n21).keep (keepsB hv1 _)) hrn HI1.out).mono ?_
          rintro e x1 ⟨⟨b1, rfl, hbi1⟩, K1⟩
          have HB1 : Hid (b1 = true ↔ AllowedS sp1 r asg au) := hbi1
          have hx1 : Below w16.heap.size w16 x1 := hv1.trans (K1.below hv1.size (fun k hk hS => by rcases hS with h | h <;> omega))
          have ht1 := hb16.trans (hx1.mono hb16.size)
          clear hbi1 K1 S1 hv1
          replace iH := iH.keep (keepsB hx1 _)
          replace iX := iX.keep (keepsB hx1 _)
          replace iG := iG.keep (keepsB hx1 _)
          replace iU := iU.keep (keepsB hx1 _)
          replace iR := iR.keep (keepsB hx1 _)
          replace iS := iS.keep (keepsB hx1 _)
          replace iJ := iJ.keep (keepsB hx1 _)
          replace iE := iE.keep (keepsB hx1 _)
          replace iB := iB.keep (keepsB hx1 _)
          replace iM := iM.keep (keepsB hx1 _)
          replace i1 := i1.keep (keepsB hx1 _)
          replace i2 := i2.keep (keepsB hx1 _)
          replace i3 := i3.keep (keepsB hx1 _)
          replace i4 := i4.keep (keepsB hx1 _)
          replace i5 := i5.keep (keepsB hx1 _)
          replace iL := iL.keep (keepsB hx1 _)
          have LM : Hid ((List.zipWith (· ||| ·) held extra).length = N) := by rw [List.length_zipWith, LH.out, LX.out]; exact Nat.min_self N
          go_wp2_with fail
          refine (space_any x1 N n nJ nE nB aM1 aR1 aJ1 aL aB1 cM1 cR1 cJ1 cL cB1 N p1 p2 p3 d1 d2 d3 r1 r2 r3 assign1 p4 p5 d4 d5 (List.zipWith (· ||| ·) held extra) revoke1 js1 es1 listing broken M1.out M2.out M3.out i1 i2 i3 iS.rules i4 i5 iM iR iJ iL iB LM.out KR.out KS.out KJ.out KE.out LL.out LB.out (by omega) AR.out (by omega)).mono ?_
          rintro e v2 ⟨bS2, sp2, rfl, S2, eH2, eR2, eA2, eJ2, eN2, eE2, eL2, eB2, hlt2, hv2⟩
          have OK2 : Hid (SpOk n N sp2) := g.ok (by rw [eH2]; exact LM.out) (by rw [eR2]; exact MR.out) ((data_of_xs eA2).trans MS.out) (by rw [eJ2]; exact MJ.out) (by rw [eN2]; exact ZJ.out) (by rw [eE2]; exact ME.out) (by rw [eL2]; exact LL.out) (by rw [eL2, eE2]; exact HL.out) eB2
          have HI2 : Hid (Hier (jun sp2.js) n au) := by rw [eJ2]; exact g.hier MJ.out
          have EQ2 : Hid (sp2.held = (List.zipWith (· ||| ·) held extra) ∧ sp2.revoke = revoke1 ∧ sp2.assign.map LRow.xs = assign1.map LRow.xs ∧ sp2.js = js1 ∧ sp2.es = es1 ∧ sp2.broken = broken) := ⟨eH2, eR2, eA2, eJ2, eE2, eB2⟩
          clear eH2 eR2 eA2 eJ2 eN2 eE2 eL2 eB2
          have n22 : ∀ b, Any b → b < x1.heap.size → Not2 x1.heap.size bS2 b := fun b _ hb' => ⟨Nat.ne_of_lt hb', by omega⟩
          go_wp2_with fail
          refine (zzAllowed_any bS2 x1.heap.size n N r cU1 cG1 aU1 aG1 sp2 asg au (List.replicate N 0) v2 S2 OK2.out (by simp) LU.out LG.out ((iU.mono n22).keep (keepsB hv2 _)) ((iG.mono n22).keep (keepsB hv2 _)) hrn HI2.out).mono ?_
          rintro e x2 ⟨⟨b2, rfl, hbi2⟩, K2⟩
          have HB2 : Hid (b2 = true ↔ AllowedS sp2 r asg au) := hbi2
          have hx2 : Below x1.heap.size x1 x2 := hv2.trans (K2.below hv2.size (fun k hk hS => by rcases hS with h | h <;> omega))
          have ht2 := ht1.trans (hx2.mono ht1.size)
          clear hbi2 K2 S2 hv2
          replace iH := iH.keep (keepsB hx2 _)
          replace iX := iX.keep (keepsB hx2 _)
          replace iG := iG.keep (keepsB hx2 _)
          replace iU := iU.keep (keepsB hx2 _)
          replace iR := iR.keep (keepsB hx2 _)
          replace iS := iS.keep (keepsB hx2 _)
          replace iJ := iJ.keep (keepsB hx2 _)
          replace iE := iE.keep (keepsB hx2 _)
          replace iB := iB.keep (keepsB hx2 _)
          replace iM := iM.keep (keepsB hx2 _)
          replace i1 := i1.keep (keepsB hx2 _)
          replace i2 := i2.keep (keepsB hx2 _)
          replace i3 := i3.keep (keepsB hx2 _)
          replace i4 := i4.keep (keepsB hx2 _)
          replace i5 := i5.keep (keepsB hx2 _)
          replace iL := iL.keep (keepsB hx2 _)
          obtain ⟨mm, hmm⟩ : ∃ m : SpD, m = ⟨aM1, cM1, (List.zipWith (· ||| ·) held extra), aR1, cR1, revoke1, aS1, cS1, assign1, aJ1, cJ1, js1, aE1, cE1, es1, none, 0, listing, aB1, cB1, broken, 0⟩ := ⟨_, rfl⟩
          have HM : Hid (AllowedS sp2 r asg au ↔ AllowedS mm r asg au) := by
            obtain ⟨z1, z2, z3, z4, z5, z6⟩ := EQ2.out
            subst hmm
            exact allowed_congr z1 z2 z3 z4 z5 z6 r asg au
          have HO : Hid (AllowedS sp1 r asg au → AllowedS sp2 r asg au) := by
            obtain ⟨z1, z2, z3, z4, z5, z6⟩ := EQ1.out
            obtain ⟨y1, y2, y3, y4, y5, y6⟩ := EQ2.out
            refine allowed_mono (fun i hi => ?_) (z2.trans y2.symm) (z3.trans y3.symm) (z4.trans y4.symm) (z5.trans y5.symm) (z6.trans y6.symm) r asg au
            rw [y1]; rw [z1] at hi
            exact bit_or (by rw [LH.out, LX.out]) i hi
          have HMod : Hid (Calls Try.prog 32 #[.slice aM1 N cM1, .slice aG1 N cG1, .slice aU1 N cU1, .int .i64 (r : Int), .slice aR1 n cR1, .slice aS1 n cS1, .slice aJ1 nJ cJ1, .slice aE1 nE cE1, .slice aB1 nB cB1] x2 fun e w' => RetIff (AllowedS mm r asg au) e ∧ Below x2.heap.size x2 w') := by
            have ok : SpOk n N mm := by subst hmm; exact g.ok LM.out MR.out MS.out MJ.out ZJ.out ME.out LL.out HL.out rfl
            have hi : Hier (jun mm.js) n au := by subst hmm; exact g.hier MJ.out
            have hw : ∀ row ∈ mm.assign, ∀ x ∈ row.xs, Within n x.req.xs ∧ Within n x.forb.xs := by subst hmm; exact g.within MS.out
            have MD : Md x2 mm := by subst hmm; exact ⟨iM, iR, iS, iJ, iE, iB⟩
            have h := model_any aG1 aU1 cG1 cU1 n N r mm asg au x2 MD ok LU.out LG.out iU iG hrn hi hw
            subst hmm
            dsimp only at h
            rw [KJ.out, KE.out, LB.out] at h
            exact h
          clear hmm
          have HEB : Hid (∀ bm : Bool, (bm = true ↔ AllowedS mm r asg au) → b2 = bm) := fun bm hbm => by rw [Bool.eq_iff_iff, HB2.out, HM.out, hbm]
          have IMP : Hid (b1 = true → b2 = true) := fun h => HB2.out.2 (HO.out (HB1.out.1 h))
          clear HB1 HB2 HO HM
          cases b1 with
          | false =>
            clear IMP
            cases b2 with
            | false =>
              go_wp2_with fail
              refine HMod.out.mono ?_
              rintro e wz ⟨⟨bm, rfl, hbm⟩, hbz⟩
              have EB := HEB.out bm hbm
              clear hbm
              subst EB
              go_wp2_with fail
              go_ret
              exact ⟨by simp, ht2.trans (hbz.mono ht2.size)⟩
            | true =>
              go_wp2_with fail
              refine HMod.out.mono ?_
              rintro e wz ⟨⟨bm, rfl, hbm⟩, hbz⟩
              have EB := HEB.out bm hbm
              clear hbm
              subst EB
              go_wp2_with fail
              go_ret
              exact ⟨by simp, ht2.trans (hbz.mono ht2.size)⟩
          | true =>
            cases b2 with
            | false => exact Bool.noConfusion (IMP.out rfl)
            | true =>
              clear IMP
              go_wp2_with fail
              refine HMod.out.mono ?_
              rintro e wz ⟨⟨bm, rfl, hbm⟩, hbz⟩
              have EB := HEB.out bm hbm
              clear hbm
              subst EB
              go_wp2_with fail
              go_ret
              exact ⟨by simp, ht2.trans (hbz.mono ht2.size)⟩
end Go.Proofs.Qxb6604686a
