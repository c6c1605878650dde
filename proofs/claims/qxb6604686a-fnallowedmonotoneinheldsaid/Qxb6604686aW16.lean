import Derived.Test.Qxb6604686aW15
namespace Go.Proofs.Qxb6604686a
open Go.ChangeShapes Go.WideShapes Go.ChangeAt Go.RowKit
set_option linter.unusedVariables false

/-! ### The semantic statement of 'excluded' -/
/-- At least 'lim' of xs meet p. -/
def AtLeast (p : Int → Prop) (xs : List Int) (lim : Int) : Prop := ∃ q : Int → Bool, (∀ y ∈ xs, (q y = true ↔ p y)) ∧ lim ≤ ((xs.filter q).length : Int)
theorem filter_same {p q : Int → Bool} : ∀ {xs : List Int}, (∀ y ∈ xs, p y = q y) → xs.filter p = xs.filter q
  | [], _ => rfl
  | x :: xs, h => by
    have h1 := h x (by simp)
    have h2 := filter_same (xs := xs) fun y hy => h y (by simp [hy])
    simp [List.filter_cons, h1, h2]
theorem AtLeast.iff {p : Int → Prop} {xs : List Int} {lim : Int} (q : Int → Bool) (hq : ∀ y ∈ xs, (q y = true ↔ p y)) : AtLeast p xs lim ↔ lim ≤ ((xs.filter q).length : Int) := by
  refine ⟨fun ⟨q', h1, h2⟩ => ?_, fun h => ⟨q, hq, h⟩⟩
  rw [filter_same (p := q) (q := q') fun y hy => by rw [Bool.eq_iff_iff, hq y hy, h1 y hy]]
  exact h2

/-- Some relevant constraint is broken once r, and all below it, are added to au. -/
def ExS (J : Nat → List Int) (r : Nat) (au : List Nat) (es : List Excl) (broken : List Int) : Prop :=
  ∃ (k : Nat) (ex : Excl), es[k]? = some ex ∧ ((k : Int) ∈ broken ∨ ∃ b : Nat, (b : Int) ∈ ex.roles.xs ∧ Reach J r b ∧ bit au b = false) ∧
    AtLeast (fun y => bit au y.toNat = true ∨ Reach J r y.toNat) ex.roles.xs ex.limit

theorem Closed.atLeast {J : Nat → List Int} {n r : Nat} {au ws : List Nat} {ad : List Int} (hc : Closed J n r au ws ad) {xs : List Int} (hx : ∀ y ∈ xs, 0 ≤ y ∧ y < (n : Int)) (lim : Int) :
    AtLeast (fun y => bit au y.toNat = true ∨ Reach J r y.toNat) xs lim ↔ lim ≤ (cnt ws xs : Int) :=
  AtLeast.iff (fun y => bit ws y.toNat) fun y hy => hc.mem y.toNat (by have := hx y hy; omega)

theorem exLow_iff {d : SpD} {n N r : Nat} {au ws : List Nat} {ad : List Int} (ok : SpOk n N d) (hc : Closed (jun d.js) n r au ws ad) : ExLow d ws ad ↔ ExS (jun d.js) r au d.es d.broken := by
  constructor
  · rintro (⟨y, hy, row, hrow, v, hv, ex', hex', hlim⟩ | ⟨v, hv, ex, hex, hlim⟩)
    · obtain ⟨b, rfl, hb⟩ := hc.range y hy
      rw [Int.toNat_natCast] at hrow
      obtain ⟨q, ex, rfl, hq, hm⟩ := ok.lst.sound b row hrow v hv
      rw [Int.toNat_natCast, hq] at hex'
      cases hex'
      obtain ⟨hR, h0⟩ := (hc.new b hb).1 hy
      exact ⟨q, _, hq, .inr ⟨b, hm, hR, h0⟩, (hc.atLeast (ok.esIn _ (List.mem_of_getElem? hq)).2 _).2 hlim⟩
    · have h0 := (ok.broken.2 v hv).1
      obtain ⟨k, rfl⟩ := Int.eq_ofNat_of_zero_le h0
      rw [Int.toNat_natCast] at hex
      exact ⟨k, ex, hex, .inl hv, (hc.atLeast (ok.esIn ex (List.mem_of_getElem? hex)).2 ex.limit).2 hlim⟩
  · rintro ⟨k, ex, hk, hrel, hat⟩
    have hin := (ok.esIn ex (List.mem_of_getElem? hk)).2
    have hlim := (hc.atLeast hin ex.limit).1 hat
    have hB : Broken d.es ws (k : Int) := ⟨ex, by rw [Int.toNat_natCast]; exact hk, hlim⟩
    rcases hrel with hbr | ⟨b, hm, hR, h0⟩
    · exact .inr ⟨_, hbr, hB⟩
    · have hb : b < n := by have := (hin _ hm).2; omega
      obtain ⟨j, hj⟩ := List.getElem?_of_mem hm
      obtain ⟨row, hrow, hmem⟩ := ok.lst.full k ex hk j _ hj (.inl (List.getElem?_eq_some_iff.1 hk).1)
      exact .inl ⟨(b : Int), (hc.new b hb).2 ⟨hR, h0⟩, row, hrow, _, hmem, hB⟩

/-! ### assignRule, allowed -/
def Rules (d : SpD) (r : Nat) : List Rule := match d.assign[r]? with | some row => row.xs | none => []
/-- May r be assigned? -/
def AssignOk (d : SpD) (r : Nat) (au : List Nat) : Prop := (∃ x ∈ Rules d r, Serves d.held au x) ∧ ¬ ExS (jun d.js) r au d.es d.broken

set_option maxHeartbeats 2000000 in
theorem assignRule_any (bS bA n N r cU : Nat) (aU : Option Addr) (d : SpD) (au after : List Nat) (w : World) (S : Sp w bS bA d N after (.slice none 0 0)) (ok : SpOk n N d) (hafN : after.length = N) (hauN : au.length = N)
    (hu : Ws (Not2 bA bS) w aU au) (hr : r < n) (hh : Hier (jun d.js) n au) :
    Calls Try.prog 50 #[.pointer (some ⟨bS, 0, none⟩), .slice aU N cU, .int .i64 (r : Int)] w fun e w' => RetIdx (AssignOk d r au) e ∧ Kept (Two bA bS) w w' := by
  have hbS := S.blk.lt
  have hbA := S.aft.lt
  have hrl : r < d.assign.length := by rw [ok.assign]; exact hr
  have GR : Hid (d.assign[r]? = some d.assign[r]) := List.getElem?_eq_getElem hrl
  have RR : Hid (Rules d r = d.assign[r].xs) := by unfold Rules; rw [GR.out]; rfl
  have S1 : Sp ((w.alloc (.cells #[.pointer (some ⟨bS, 0, none⟩)] 59)).alloc (.cells #[.slice aU N cU] 41)) bS bA d N after (.slice none 0 0) := S.below (((Below.refl _ _).alloc (Nat.le_refl _) _).alloc (by simp) _)
  obtain ⟨⟨b0, o0, e0, _, p0⟩, hls⟩ := S1.assign r _ GR.out
  obtain ⟨hr1, hr2⟩ := ok.assignIn _ (List.mem_of_getElem? GR.out)
  have c6 : ((w.alloc (.cells #[.pointer (some ⟨bS, 0, none⟩)] 59)).alloc (.cells #[.slice aU N cU] 41)).cell? ⟨bS, 6, none⟩ = some (.slice d.aS d.assign.length d.cS) := S1.blk.cell 6
  rw [e0] at c6
  have c13 : ((w.alloc (.cells #[.pointer (some ⟨bS, 0, none⟩)] 59)).alloc (.cells #[.slice aU N cU] 41)).cell? ⟨bS, 13, none⟩ = some (.slice d.aH d.held.length d.cH) := S1.blk.cell 13
  have cx : ((w.alloc (.cells #[.pointer (some ⟨bS, 0, none⟩)] 59)).alloc (.cells #[.slice aU N cU] 41)).cell? ⟨w.heap.size, 0, none⟩ = some (.pointer (some ⟨bS, 0, none⟩)) := by simp
  have cy : ((w.alloc (.cells #[.pointer (some ⟨bS, 0, none⟩)] 59)).alloc (.cells #[.slice aU N cU] 41)).cell? ⟨w.heap.size + 1, 0, none⟩ = some (.slice aU N cU) := by simp
  generalize d.assign[r] = row at *
  obtain ⟨ra, rc, rx⟩ := row
  unfold LRow.val at p0
  dsimp only at p0 hls hr1 hr2
  have hu1 := hu.keep (keepsB (((Below.refl _ w).alloc (Nat.le_refl _) (.cells #[.pointer (some ⟨bS, 0, none⟩)] 59)).alloc (by simp) (.cells #[.slice aU N cU] 41)) (Not2 bA bS))
  have B1 : Below w.heap.size w ((w.alloc (.cells #[.pointer (some ⟨bS, 0, none⟩)] 59)).alloc (.cells #[.slice aU N cU] 41)) := ((Below.refl _ w).alloc (Nat.le_refl _) _).alloc (by simp) _
  have HA : Hid (au.length = N) := hauN
  have HF : Hid (after.length = N) := hafN
  have W3 := ok.N17
  have q1 : (r : Int) < (d.assign.length : Int) := by omega
  have q2 : (0 : Int) ≤ (r : Int) := by omega
  have H0 := ok.held
  have HH : Hid (∀ y ∈ rx, ∀ wr, Below ((w.alloc (.cells #[.pointer (some ⟨bS, 0, none⟩)] 59)).alloc (.cells #[.slice aU N cU] 41)).heap.size ((w.alloc (.cells #[.pointer (some ⟨bS, 0, none⟩)] 59)).alloc (.cells #[.slice aU N cU] 41)) wr → Calls Try.prog 53 #[.agg #[.int .i64 y.admin, y.req.val, y.forb.val], .pointer (some ⟨w.heap.size, 0, none⟩), .pointer (some ⟨w.heap.size + 1, 0, none⟩)] wr fun e w' => RetIff (Serves d.held au y) e ∧ Below wr.heap.size wr w') := by
    intro y hy wr hb
    have Sr := S1.below hb
    obtain ⟨i, hi⟩ := List.getElem?_of_mem hy
    have hl := (hls.keep (keepsB hb _)) i y hi
    exact ruleLit_any (D := Not2 bA bS) (D2 := Not2 bA bS) (D3 := Not2 bA bS) w.heap.size (w.heap.size + 1) bS d.aH aU d.cH cU d.held au y wr ((keepsB hb Any).cell (p := ⟨w.heap.size, 0, none⟩) trivial cx) (by rw [hauN]; exact (keepsB hb Any).cell (p := ⟨w.heap.size + 1, 0, none⟩) trivial cy) (Sr.blk.cell 13) Sr.held (hu1.keep (keepsB hb _)) hl.2.1 hl.2.2 (by rw [hauN, H0]) (by rw [H0]; exact W3) (by rw [H0]; exact hr2 y hy)
  clear hauN hafN e0 c13
  generalize hW1 : ((w.alloc (.cells #[.pointer (some ⟨bS, 0, none⟩)] 59)).alloc (.cells #[.slice aU N cU] 41)) = W1 at *
  have HW1 : Hid (((w.alloc (.cells #[.pointer (some ⟨bS, 0, none⟩)] 59)).alloc (.cells #[.slice aU N cU] 41)) = W1) := hW1
  go_enter Try.func50, Try.ntmps50
  go_wp2_with fail
  refine (indexRule_any (D := Not2 bA bS) w.heap.size (w.heap.size + 1) ra rc rx (Serves d.held au) W1 hls hr1 HH).mono ?_
  rintro e w2 ⟨⟨i, rfl, hi⟩, hb2⟩
  have HI : Hid (0 ≤ i ↔ ∃ y ∈ Rules d r, Serves d.held au y) := by rw [RR.out]; exact hi
  clear hi hW1
  have S2 := S1.below hb2
  have cx2 := (keepsB hb2 Any).cell (p := ⟨w.heap.size, 0, none⟩) trivial cx
  have cy2 := (keepsB hb2 Any).cell (p := ⟨w.heap.size + 1, 0, none⟩) trivial cy
  have hu2 := hu1.keep (keepsB hb2 (Not2 bA bS))
  have K2 : Kept (Two bA bS) w w2 := (Kept.of_below B1).trans (.of_below hb2)
  clear HH c6 cx cy hls p0 hu1 S1
  by_cases hneg : i < 0
  · go_wp2_with fail
    go_ret
    exact ⟨⟨-1, rfl, fun h => by omega, fun h => by have := HI.out.2 h.1; omega⟩, K2⟩
  · have hpos : 0 ≤ i := by omega
    have HS : Hid (∃ y ∈ Rules d r, Serves d.held au y) := HI.out.1 hpos
    have hd : decide (i < 0) = false := by simpa using hneg
    go_wp2_with fail
    refine (excluded_any bS bA n N r cU aU d au after w2 S2 ok HF.out HA.out hu2 hr hh).mono ?_
    rintro e w3 (⟨hes, rfl, K3⟩ | ⟨ws, ad, HC, ⟨b, rfl, hb⟩, K3⟩)
    · have HX : Hid (¬ ExS (jun d.js) r au d.es d.broken) := by
        rintro ⟨k, ex, hk, _⟩
        rw [hes] at hk
        simp at hk
      clear hes
      go_wp2_with fail
      go_ret
      exact ⟨⟨i, rfl, fun _ => ⟨HS.out, HX.out⟩, fun _ => hpos⟩, K2.trans K3⟩
    · have HX : Hid (b = true ↔ ExS (jun d.js) r au d.es d.broken) := hb.trans (exLow_iff ok HC)
      clear hb
      cases b with
      | true =>
        have HT : Hid (ExS (jun d.js) r au d.es d.broken) := HX.out.1 rfl
        clear HX
        go_wp2_with fail
        go_ret
        exact ⟨⟨-1, rfl, fun h => by omega, fun h => absurd HT.out h.2⟩, K2.trans K3⟩
      | false =>
        have HT : Hid (¬ ExS (jun d.js) r au d.es d.broken) := fun h => Bool.noConfusion (HX.out.2 h)
        clear HX
        go_wp2_with fail
        go_ret
        exact ⟨⟨i, rfl, fun _ => ⟨HS.out, HT.out⟩, fun _ => hpos⟩, K2.trans K3⟩

/-- What 'allowed' answers. -/
def AllowedS (d : SpD) (r : Nat) (asg au : List Nat) : Prop :=
  (bit asg r = true ∧ ∃ row, d.revoke[r]? = some row ∧ ∃ y ∈ row.xs, bit d.held y.toNat = true) ∨ (bit asg r = false ∧ AssignOk d r au)

set_option maxHeartbeats 2000000 in
theorem allowed_any (bS bA n N r cU cG : Nat) (aU aG : Option Addr) (d : SpD) (asg au after : List Nat) (w : World) (S : Sp w bS bA d N after (.slice none 0 0)) (ok : SpOk n N d) (hafN : after.length = N) (hauN : au.length = N) (hasN : asg.length = N)
    (hu : Ws (Not2 bA bS) w aU au) (hg : Ws (Not2 bA bS) w aG asg) (hr : r < n) (hh : Hier (jun d.js) n au) :
    Calls Try.prog 44 #[.pointer (some ⟨bS, 0, none⟩), .slice aG N cG, .slice aU N cU, .int .i64 (r : Int)] w fun e w' => RetIff (AllowedS d r asg au) e ∧ Kept (Two bA bS) w w' := by
  have W1 := ok.words
  have W3 := ok.N17
  have hrl : r / 64 < N := by omega
  have hrr : r < d.revoke.length := by rw [ok.revoke]; exact hr
  have GR : Hid (d.revoke[r]? = some d.revoke[r]) := List.getElem?_eq_getElem hrr
  obtain ⟨⟨b0, o0, e0, _, p0⟩, hri⟩ := S.revoke r _ GR.out
  obtain ⟨hr1, hr2⟩ := ok.revokeIn _ (List.mem_of_getElem? GR.out)
  have c7 : w.cell? ⟨bS, 7, none⟩ = some (.slice d.aR d.revoke.length d.cR) := S.blk.cell 7
  rw [e0] at c7
  generalize d.revoke[r] = row at *
  unfold IRow.val at p0
  have q1 : (r : Int) < (d.revoke.length : Int) := by omega
  have q2 : (0 : Int) ≤ (r : Int) := by omega
  have H0 := ok.held
  have HG : Hid (asg.length = N) := hasN
  clear e0 hasN
  go_enter Try.func44, Try.ntmps44
  go_wp2_with fail
  refine (hasBit_len (D := Not2 bA bS) aG cG r N asg HG.out w hg hrl W3).mono ?_
  rintro e w' ⟨rfl, hw'⟩
  subst hw'
  cases hbit : bit asg r with
  | true =>
    have HB : Hid (bit asg r = true) := hbit
    clear hbit
    go_wp2_with fail
    refine (containsHeld_any (D := Not2 bA bS) bS row.a row.cap row.xs (fun y => bit d.held y.toNat = true) w' hri (Nat.le_trans hr1 (by decide)) (fun y hy wr hb => ?_)).mono ?_
    · obtain ⟨y0, y1⟩ := hr2 y hy
      obtain ⟨j, rfl⟩ := Int.eq_ofNat_of_zero_le y0
      have Sr := S.below hb
      refine (isHeld_any (D := Not2 bA bS) bS d.aH d.cH j d.held wr (Sr.blk.cell 13) Sr.held (by rw [H0]; omega) (by rw [H0]; exact W3)).mono ?_
      rintro e w2 ⟨rfl, rfl⟩
      exact ⟨.mk _ rfl (by rw [Int.toNat_natCast]), Below.refl _ _⟩
    · rintro e w2 ⟨⟨b, rfl, hb⟩, hbl⟩
      have HC : Hid (b = true ↔ ∃ y ∈ row.xs, bit d.held y.toNat = true) := hb
      clear hb
      go_wp2_with fail
      go_ret
      refine ⟨.mk b rfl ⟨fun h => .inl ⟨HB.out, row, GR.out, HC.out.1 h⟩, fun h => ?_⟩, .of_below hbl⟩
      rcases h with ⟨_, row', h1, h2⟩ | ⟨h1, _⟩
      · rw [GR.out] at h1; cases h1; exact HC.out.2 h2
      · rw [HB.out] at h1; cases h1
  | false =>
    have HB : Hid (bit asg r = false) := hbit
    clear hbit
    go_wp2_with fail
    refine (assignRule_any bS bA n N r cU aU d au after w' S ok hafN hauN hu hr hh).mono ?_
    rintro e w2 ⟨⟨i, rfl, hi⟩, K2⟩
    have HI : Hid (0 ≤ i ↔ AssignOk d r au) := hi
    clear hi
    go_wp2_with fail
    go_ret
    refine ⟨.mk _ rfl ⟨fun h => .inr ⟨HB.out, HI.out.1 (by simpa using h)⟩, fun h => ?_⟩, K2⟩
    rcases h with ⟨h1, _⟩ | ⟨_, h2⟩
    · rw [HB.out] at h1; cases h1
    · simpa using HI.out.2 h2

theorem zzAllowed_any (bS bA n N r cU cG : Nat) (aU aG : Option Addr) (d : SpD) (asg au after : List Nat) (w : World) (S : Sp w bS bA d N after (.slice none 0 0)) (ok : SpOk n N d) (hafN : after.length = N) (hauN : au.length = N) (hasN : asg.length = N)
    (hu : Ws (Not2 bA bS) w aU au) (hg : Ws (Not2 bA bS) w aG asg) (hr : r < n) (hh : Hier (jun d.js) n au) :
    Calls Try.prog 31 #[.pointer (some ⟨bS, 0, none⟩), .slice aG N cG, .slice aU N cU, .int .i64 (r : Int)] w fun e w' => RetIff (AllowedS d r asg au) e ∧ Kept (Two bA bS) w w' := by
  have HA := allowed_any bS bA n N r cU cG aU aG d asg au after w S ok hafN hauN hasN hu hg hr hh
  have HH : Hid (Calls Try.prog 44 #[.pointer (some ⟨bS, 0, none⟩), .slice aG N cG, .slice aU N cU, .int .i64 (r : Int)] w fun e w' => RetIff (AllowedS d r asg au) e ∧ Kept (Two bA bS) w w') := HA
  clear HA hafN hauN hasN
  go_enter Try.func31, Try.ntmps31
  go_wp2_with fail
  refine HH.out.mono ?_
  rintro e w2 ⟨⟨b, rfl, hb⟩, K2⟩
  have HB : Hid (b = true ↔ AllowedS d r asg au) := hb
  clear hb
  go_wp2_with fail
  go_ret
  exact ⟨.mk b rfl HB.out, K2⟩
end Go.Proofs.Qxb6604686a
