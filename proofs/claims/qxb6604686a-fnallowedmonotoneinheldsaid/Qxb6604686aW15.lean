import Derived.Test.Qxb6604686aW14
import Derived.Test.Qxb6604686aReg
namespace Go.Proofs.Qxb6604686a
open Go.ChangeShapes Go.WideShapes Go.ChangeAt Go.RowKit
set_option linter.unusedVariables false

/-- The scratch set and the space may turn. -/
def Two (x y b : Nat) : Prop := b = x ∨ b = y

def ExPost (d : SpD) (n r bA bS : Nat) (au : List Nat) (w : World) (e : Ending) (w' : World) : Prop :=
  (d.es = [] ∧ e = .returned (.bool false) ∧ Kept (Two bA bS) w w') ∨
  ∃ (ws : List Nat) (ad : List Int), Closed (jun d.js) n r au ws ad ∧ RetIff (ExLow d ws ad) e ∧ Kept (Two bA bS) w w'

/-- A row of the listing names a broken constraint. -/
def RowBroken (d : SpD) (ws : List Nat) (y : Int) : Prop := ∃ row, d.listing[y.toNat]? = some row ∧ ∃ v ∈ row.xs, Broken d.es ws v
theorem SpOk.row {n N : Nat} {d : SpD} (ok : SpOk n N d) {b : Nat} {row : IRow} (h : d.listing[b]? = some row) : row.xs.length ≤ 1099511627776 ∧ ∀ v ∈ row.xs, 0 ≤ v ∧ v < (d.es.length : Int) := by
  refine ⟨?_, fun v hv => ?_⟩
  · have h1 := ok.lst.len row (List.mem_of_getElem? h)
    have h2 : d.es.length * cap17 ≤ 131072 * cap17 := Nat.mul_le_mul_right _ ok.es
    have h3 : 131072 * cap17 = 17179869184 := rfl
    omega
  · obtain ⟨q, ex, rfl, hq, _⟩ := ok.lst.sound b row h v hv
    have := (List.getElem?_eq_some_iff.1 hq).1
    omega

set_option maxHeartbeats 4000000 in
set_option maxRecDepth 100000 in
theorem excluded_any (bS bA n N r cU : Nat) (aU : Option Addr) (d : SpD) (au after : List Nat) (w : World) (S : Sp w bS bA d N after (.slice none 0 0)) (ok : SpOk n N d) (hafN : after.length = N) (hauN : au.length = N)
    (hu : Ws (Not2 bA bS) w aU au) (hr : r < n) (hh : Hier (jun d.js) n au) :
    Calls Try.prog 55 #[.pointer (some ⟨bS, 0, none⟩), .slice aU N cU, .int .i64 (r : Int)] w (ExPost d n r bA bS au w) := by
  have hbS := S.blk.lt
  have hbA := S.aft.lt
  by_cases hes : d.es = []
  · have hc9 : w.cell? ⟨bS, 9, none⟩ = some (.slice d.aE 0 d.cE) := by
      have := S.blk.cell 9; rw [hes] at this; exact this
    have Hes : Hid (d.es = []) := hes
    clear hes
    go_enter Try.func55, Try.ntmps55
    go_wp2
    go_ret
    exact .inl ⟨Hes.out, rfl, (Kept.refl _ _).alloc _⟩
  · have hpos : 0 < d.es.length := List.length_pos_iff.2 hes
    clear hes
    have hNp : 0 < N := by have := ok.words; omega
    have hne0 : ((d.es.length : Int) == 0) = false := by rw [beq_eq_false_iff_ne]; omega
    have c9 : w.cell? ⟨bS, 9, none⟩ = some (.slice d.aE d.es.length d.cE) := S.blk.cell 9
    have c16 : w.cell? ⟨bS, 16, none⟩ = some (.slice (some ⟨bA, 0, none⟩) N d.cA) := S.blk.cell 16
    obtain ⟨w2, hrun, hB2, hK2⟩ := run_copyW (D := Not2 bA bS) (w.alloc (.cells #[.pointer (some ⟨bS, 0, none⟩)] 59)) bA N d.cA aU cU _ (S.aft.alloc _) (by simpa using hafN) au (hu.keep (keeps_alloc _ _ _)) hauN hNp
    have S2 : Sp w2 bS bA d N au (.slice none 0 0) := (S.below ((Below.refl _ _).alloc (Nat.le_refl _) _)).keep hK2 hB2
    have hbx : w2.cell? ⟨w.heap.size, 0, none⟩ = some (.pointer (some ⟨bS, 0, none⟩)) := by
      refine hK2.keepsNe.cell (p := ⟨w.heap.size, 0, none⟩) (by intro e; simp at e; omega) ?_
      simp
    have hsz2 : w.heap.size < w2.heap.size := by have := hK2.size; simp at this; omega
    have K2 : Kept (Two bA bS) w w2 := ((Kept.refl _ w).alloc _).trans (hK2.mono fun k h => .inl h)
    have c7 : w2.cell? ⟨bS, 8, none⟩ = some (.slice d.aJ d.js.length d.cJ) := S2.blk.cell 8
    have c16' : w2.cell? ⟨bS, 16, none⟩ = some (.slice (some ⟨bA, 0, none⟩) N d.cA) := S2.blk.cell 16
    have c17 : w2.cell? ⟨bS, 17, none⟩ = some (.slice none 0 0) := S2.blk.cell 17
    have HauN : Hid (au.length = N) := hauN
    clear hauN hafN hB2 hK2 S
    go_enter Try.func55, Try.ntmps55
    go_wp2_with fail
    refine wp_region_but (S := fun w' => w'.cell? ⟨w.heap.size, 0, none⟩ = some (.pointer (some ⟨bS, 0, none⟩)) ∧ w'.cell? ⟨bS, 8, none⟩ = some (.slice d.aJ d.js.length d.cJ) ∧ w'.cell? ⟨bS, 16, none⟩ = some (.slice (some ⟨bA, 0, none⟩) N d.cA) ∧ w'.cell? ⟨bS, 17, none⟩ = some (.slice none 0 0)) 18 (by kernel_rfl) ⟨hbx, c7, c16', c17⟩ (fun hHeld => ?_)
    refine wpAnyB_slot (i := 0) (dd := 22) (v := .pointer (some ⟨bS, 0, none⟩)) rfl rfl (by kernel_rfl) (by kernel_rfl) (by kernel_rfl) (by kernel_rfl) (fun _ _ _ h => h) rfl ?_ hHeld ?_
    · (intro w hSw; (try dsimp only at hSw); go_simp)
    simp only [List.setIfInBounds_toArray, List.set_cons_zero, List.set_cons_succ]
    refine wpAnyB_slot (i := 1) (dd := 23) (v := .pointer (some ⟨bS, 0, none⟩)) rfl rfl (by kernel_rfl) (by kernel_rfl) (by kernel_rfl) (by kernel_rfl) (fun _ _ _ h => h) rfl ?_ hHeld ?_
    · (intro w hSw; (try dsimp only at hSw); go_simp)
    simp only [List.setIfInBounds_toArray, List.set_cons_zero, List.set_cons_succ]
    refine wpAnyB_slot (i := 2) (dd := 24) (v := .pointer (some ⟨bS, 0, none⟩)) rfl rfl (by kernel_rfl) (by kernel_rfl) (by kernel_rfl) (by kernel_rfl) (fun _ _ _ h => h) rfl ?_ hHeld ?_
    · (intro w hSw; (try dsimp only at hSw); go_simp)
    simp only [List.setIfInBounds_toArray, List.set_cons_zero, List.set_cons_succ]
    refine wpAnyB_slot (i := 3) (dd := 25) (v := .pointer (some ⟨bS, 8, none⟩)) rfl rfl (by kernel_rfl) (by kernel_rfl) (by kernel_rfl) (by kernel_rfl) (fun _ _ _ h => h) rfl ?_ hHeld ?_
    · (intro w hSw; (try dsimp only at hSw); go_simp)
    simp only [List.setIfInBounds_toArray, List.set_cons_zero, List.set_cons_succ]
    refine wpAnyB_slot (i := 4) (dd := 26) (v := .slice d.aJ d.js.length d.cJ) rfl rfl (by kernel_rfl) (by kernel_rfl) (by kernel_rfl) (by kernel_rfl) (fun _ _ _ h => h) rfl ?_ hHeld ?_
    · (intro w hSw; (try dsimp only at hSw); go_simp)
    simp only [List.setIfInBounds_toArray, List.set_cons_zero, List.set_cons_succ]
    refine wpAnyB_slot (i := 5) (dd := 27) (v := .pointer (some ⟨bS, 0, none⟩)) rfl rfl (by kernel_rfl) (by kernel_rfl) (by kernel_rfl) (by kernel_rfl) (fun _ _ _ h => h) rfl ?_ hHeld ?_
    · (intro w hSw; (try dsimp only at hSw); go_simp)
    simp only [List.setIfInBounds_toArray, List.set_cons_zero, List.set_cons_succ]
    refine wpAnyB_slot (i := 6) (dd := 28) (v := .pointer (some ⟨bS, 0, none⟩)) rfl rfl (by kernel_rfl) (by kernel_rfl) (by kernel_rfl) (by kernel_rfl) (fun _ _ _ h => h) rfl ?_ hHeld ?_
    · (intro w hSw; (try dsimp only at hSw); go_simp)
    simp only [List.setIfInBounds_toArray, List.set_cons_zero, List.set_cons_succ]
    refine wpAnyB_slot (i := 7) (dd := 29) (v := .pointer (some ⟨bS, 16, none⟩)) rfl rfl (by kernel_rfl) (by kernel_rfl) (by kernel_rfl) (by kernel_rfl) (fun _ _ _ h => h) rfl ?_ hHeld ?_
    · (intro w hSw; (try dsimp only at hSw); go_simp)
    simp only [List.setIfInBounds_toArray, List.set_cons_zero, List.set_cons_succ]
    refine wpAnyB_slot (i := 8) (dd := 30) (v := .slice (some ⟨bA, 0, none⟩) N d.cA) rfl rfl (by kernel_rfl) (by kernel_rfl) (by kernel_rfl) (by kernel_rfl) (fun _ _ _ h => h) rfl ?_ hHeld ?_
    · (intro w hSw; (try dsimp only at hSw); go_simp)
    simp only [List.setIfInBounds_toArray, List.set_cons_zero, List.set_cons_succ]
    refine wpAnyB_slot (i := 9) (dd := 31) (v := .int .i64 (r : Int)) rfl rfl (by kernel_rfl) (by kernel_rfl) (by kernel_rfl) (by kernel_rfl) (fun _ _ _ h => h) rfl ?_ hHeld ?_
    · (intro w hSw; (try dsimp only at hSw); go_simp)
    simp only [List.setIfInBounds_toArray, List.set_cons_zero, List.set_cons_succ]
    refine wpAnyB_slot (i := 10) (dd := 32) (v := .pointer (some ⟨bS, 0, none⟩)) rfl rfl (by kernel_rfl) (by kernel_rfl) (by kernel_rfl) (by kernel_rfl) (fun _ _ _ h => h) rfl ?_ hHeld ?_
    · (intro w hSw; (try dsimp only at hSw); go_simp)
    simp only [List.setIfInBounds_toArray, List.set_cons_zero, List.set_cons_succ]
    refine wpAnyB_slot (i := 11) (dd := 33) (v := .pointer (some ⟨bS, 0, none⟩)) rfl rfl (by kernel_rfl) (by kernel_rfl) (by kernel_rfl) (by kernel_rfl) (fun _ _ _ h => h) rfl ?_ hHeld ?_
    · (intro w hSw; (try dsimp only at hSw); go_simp)
    simp only [List.setIfInBounds_toArray, List.set_cons_zero, List.set_cons_succ]
    refine wpAnyB_slot (i := 12) (dd := 34) (v := .pointer (some ⟨bS, 17, none⟩)) rfl rfl (by kernel_rfl) (by kernel_rfl) (by kernel_rfl) (by kernel_rfl) (fun _ _ _ h => h) rfl ?_ hHeld ?_
    · (intro w hSw; (try dsimp only at hSw); go_simp)
    simp only [List.setIfInBounds_toArray, List.set_cons_zero, List.set_cons_succ]
    refine wpAnyB_slot (i := 13) (dd := 35) (v := .slice none 0 0) rfl rfl (by kernel_rfl) (by kernel_rfl) (by kernel_rfl) (by kernel_rfl) (fun _ _ _ h => h) rfl ?_ hHeld ?_
    · (intro w hSw; (try dsimp only at hSw); go_simp)
    simp only [List.setIfInBounds_toArray, List.set_cons_zero, List.set_cons_succ]
    refine wpAnyB_slot (i := 14) (dd := 36) (v := .slice none 0 0) rfl rfl (by kernel_rfl) (by kernel_rfl) (by kernel_rfl) (by kernel_rfl) (fun _ _ _ h => h) rfl ?_ hHeld ?_
    · (intro w hSw; (try dsimp only at hSw); go_simp)
    simp only [List.setIfInBounds_toArray, List.set_cons_zero, List.set_cons_succ]
    refine wpAnyB_one (i := 15) (by kernel_rfl) rfl (fun K hK => ?_)
    go_simp
    have S2d : Sp w2.drew bS bA d N au (.slice none 0 0) := S2.keep ((Kept.refl _ w2).drew) S2.aft
    have hau := hu.word
    have J1 : Hid (∀ q ∈ d.js, q.xs.length ≤ 131072) := fun q hq => (ok.jsIn q hq).1
    have W1 := ok.words
    have W2 := ok.n17
    have W3 := ok.N17
    have AZ := authorize_any d.aJ d.cJ bA d.cA n r d.js au w2.drew (S2d.js.mono fun b hb _ => hb.1) ok.js S2d.aft hau hr (by rw [HauN.out]; exact W1) (by rw [HauN.out]; exact W3) W2 hh J1.out
    rw [HauN.out] at AZ
    refine AZ.mono ?_
    clear AZ
    rintro e w3 ⟨ws, ad, rfl, HC, hadl, hB3, ho3, hk3⟩
    obtain ⟨ada, adc, adx⟩ := ad
    unfold IRow.val
    dsimp only at HC hadl
    go_simp
    have S3 : Sp w3 bS bA d N ws (.slice none 0 0) := S2d.keep hk3 hB3
    have K3 : Kept (Two bA bS) w w3 := K2.drew.trans (hk3.mono fun k h => .inl h)
    have hbx3 : w3.cell? ⟨w.heap.size, 0, none⟩ = some (.pointer (some ⟨bS, 0, none⟩)) := hk3.keepsNe.cell (p := ⟨w.heap.size, 0, none⟩) (by intro e; simp at e; omega) hHeld.1
    have own3 : OwnI w3 w2.heap.size ⟨ada, adc, adx⟩ := ho3
    clear ho3 hk3 hB3 S2d S2 K2
    refine hK.out _ _ ⟨hbx3, S3.blk.cell 8, S3.blk.cell 16, S3.blk.cell 17⟩ (fun hHeld3 => ?_)
    clear hK K
    refine wpAnyB_one (i := 16) (by kernel_rfl) rfl (fun K hK => ?_)
    go_simp
    refine hK.out _ _ hHeld3 (fun _ => ?_)
    clear hK K
    refine wpAnyB_one (i := 17) (by kernel_rfl) rfl (fun K hK => ?_)
    go_simp
    refine hK.out _ _ hHeld3 (fun _ => ?_)
    clear hK K
    have z17 : w3.cell? ⟨bS, 17, none⟩ = some (.slice none 0 0) := S3.blk.cell 17
    have f17 := S3.blk.frozen 17
    refine wpAnyB_last (by kernel_rfl) (by kernel_rfl) rfl (fun K hK => ?_)
    go_simp
    refine hK.out _ _ ?_
    clear hK K hHeld hHeld3 z17 f17
    have hneS : w.heap.size ≠ bS := by omega
    have S4 : Sp (w3.setCell ⟨bS, 17, none⟩ (.slice ada adx.length adc)) bS bA d N ws (.slice ada adx.length adc) := S3.store _
    have hbx4 : (w3.setCell ⟨bS, 17, none⟩ (.slice ada adx.length adc)).cell? ⟨w.heap.size, 0, none⟩ = some (.pointer (some ⟨bS, 0, none⟩)) := (World.cell?_setCell_other _ _ _ _ (by intro e; cases e)).trans hbx3
    have own4 : OwnI (w3.setCell ⟨bS, 17, none⟩ (.slice ada adx.length adc)) w2.heap.size ⟨ada, adc, adx⟩ := own3.below (by show bS < w2.heap.size; omega) _
    have K4 : Kept (Two bA bS) w (w3.setCell ⟨bS, 17, none⟩ (.slice ada adx.length adc)) := K3.setCell (.inl (.inr rfl)) _
    generalize (w3.setCell ⟨bS, 17, none⟩ (.slice ada adx.length adc)) = w4 at *
    clear S3 hbx3 own3 K3
    have d17 : w4.cell? ⟨bS, 17, none⟩ = some (.slice ada adx.length adc) := S4.blk.cell 17
    have hwd := HC.word
    have hwl : ws.length = N := HC.len.trans HauN.out
    have HWL : Hid (ws.length = N) := hwl
    clear hwl c7 c16' c17 hbx hrun c9 c16
    go_wp2
    go_loopg [46] adx.length (fun g i wr => ∃ k : Nat, k + g = adx.length ∧ i = .int .i64 k ∧ (∀ (j : Nat) (y : Int), j < k → adx[j]? = some y → ¬ RowBroken d ws y) ∧ Below w4.heap.size w4 wr)
    case atStart => exact ⟨0, by omega, rfl, fun j _ hj => by omega, Below.refl _ _⟩
    case round =>
      obtain ⟨k, hk, rfl, hno, hbl⟩ := hrel
      have HN : Hid (∀ (j : Nat) (y : Int), j < k → adx[j]? = some y → ¬ RowBroken d ws y) := hno
      clear hno
      have Sr := S4.below hbl
      have hbxr : wr.cell? ⟨w.heap.size, 0, none⟩ = some (.pointer (some ⟨bS, 0, none⟩)) := (keepsB hbl Any).cell trivial hbx4
      have z10 : wr.cell? ⟨bS, 10, none⟩ = some (.slice d.aL d.listing.length d.cL) := Sr.blk.cell 10
      have z11 : wr.cell? ⟨bS, 11, none⟩ = some (.slice d.aB d.broken.length d.cB) := Sr.blk.cell 11
      by_cases hlt : k < adx.length
      · have G0 : Hid (adx[k]? = some adx[k]) := List.getElem?_eq_getElem hlt
        obtain ⟨b, hbe, hbn⟩ := HC.range _ (List.mem_of_getElem? G0.out)
        obtain ⟨b0, o0, e0, _, p0⟩ := ((own4.is).keep (keepsB hbl _)) k _ G0.out
        have HM : Hid (adx[k] ∈ adx) := List.getElem_mem hlt
        generalize adx[k] = y at *
        subst hbe
        dsimp only at e0 p0 G0
        subst e0
        have hbl2 : b < d.listing.length := by rw [ok.listing]; exact hbn
        have GR : Hid (d.listing[b]? = some d.listing[b]) := List.getElem?_eq_getElem hbl2
        obtain ⟨⟨b1, o1, e1, _, p1⟩, hri⟩ := Sr.listing b _ GR.out
        obtain ⟨hr1, hr2⟩ := ok.row GR.out
        generalize d.listing[b] = row at *
        have HE : Hid (d.aL = some ⟨b1, o1, none⟩) := e1
        rw [e1] at z10
        clear e1
        unfold IRow.val at p1
        have q1 : (k : Int) < (adx.length : Int) := by omega
        have q2 : (0 : Int) ≤ (k : Int) := by omega
        have q3 : (b : Int) < (d.listing.length : Int) := by omega
        go_wp2_with fail
        refine (containsLit_any (D := Not2 bA bS) w.heap.size row.a row.cap row.xs (Broken d.es ws) wr hri hr1 (fun v hv w' hb' => lit_call Sr ok HWL.out hwd hbxr v (hr2 v hv).1 (hr2 v hv).2 w' hb')).mono ?_
        rintro e w5 ⟨⟨bb, rfl, hbb⟩, hbl5⟩
        have hbl6 : Below w4.heap.size w4 w5 := hbl.trans (hbl5.mono hbl.size)
        cases bb with
        | true =>
          have HP : Hid (RowBroken d ws (b : Int)) := ⟨row, by rw [Int.toNat_natCast]; exact GR.out, hbb.1 rfl⟩
          clear hbb
          go_wp2
          go_ret
          exact .inr ⟨ws, adx, HC, .mk true rfl ⟨fun _ => .inl ⟨_, HM.out, HP.out⟩, fun _ => rfl⟩, K4.trans (.of_below hbl6)⟩
        | false =>
          have HP : Hid (¬ RowBroken d ws (b : Int)) := by
            rintro ⟨row', h1, h2⟩
            rw [Int.toNat_natCast, GR.out] at h1
            cases h1
            exact Bool.noConfusion (hbb.2 h2)
          clear hbb
          go_wp2
          go_roundg (gk - 1)
          case measure => omega
          case rel =>
            refine ⟨k + 1, by omega, by go_num, fun j z hj hz => ?_, hbl6⟩
            by_cases hjk : j = k
            · subst hjk
              rw [G0.out] at hz
              cases hz
              exact HP.out
            · exact HN.out j z (by omega) hz
      · have HNA : Hid (¬ ∃ y ∈ adx, RowBroken d ws y) := by
          rintro ⟨y, hy, hp⟩
          obtain ⟨j, hj⟩ := List.getElem?_of_mem hy
          have := (List.getElem?_eq_some_iff.1 hj).1
          exact HN.out j y (by omega) hj hp
        have okb := ok.broken
        go_wp2_with fail
        refine (containsLit_any (D := Not2 bA bS) w.heap.size d.aB d.cB d.broken (Broken d.es ws) wr Sr.broken (Nat.le_trans okb.1 (by decide)) (fun v hv w' hb' => lit_call Sr ok HWL.out hwd hbxr v (okb.2 v hv).1 (okb.2 v hv).2 w' hb')).mono ?_
        rintro e w5 ⟨⟨bb, rfl, hbb⟩, hbl5⟩
        have HBB : Hid (bb = true ↔ ∃ y ∈ d.broken, Broken d.es ws y) := hbb
        clear hbb
        go_wp2
        go_ret
        refine .inr ⟨ws, adx, HC, .mk bb rfl ⟨fun h => .inr (HBB.out.1 h), fun h => HBB.out.2 (h.resolve_left HNA.out)⟩, K4.trans (.of_below (hbl.trans (hbl5.mono hbl.size)))⟩
end Go.Proofs.Qxb6604686a
