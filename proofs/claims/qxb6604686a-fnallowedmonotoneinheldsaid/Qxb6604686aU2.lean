import Derived.Test.Qxb6604686aU1
import Derived.Test.Qxb6604686aF2
import Derived.Test.Qxb6604686aF6
import Derived.Test.Qxb6604686aF7
import Derived.Test.Qxb6604686aM4
namespace Go.Proofs.Qxb6604686a
open Go.ChangeShapes Go.WideShapes Go.ChangeAt Go.RowKit
set_option linter.unusedVariables false

theorem As.rules {D : Nat → Prop} {w : World} {a : Option Addr} {rows : List LRow} (h : As D w a rows) : ∀ row ∈ rows, ∀ x ∈ row.xs, Ws D w x.req.a x.req.xs ∧ Ws D w x.forb.a x.forb.xs := fun row hrow x hx => by
  obtain ⟨i, hi⟩ := List.getElem?_of_mem hrow
  obtain ⟨j, hj⟩ := List.getElem?_of_mem hx
  exact ((h i row hi).2 j x hj).2

theorem dom_any (aH aG aU aR aS aJ aE aB : Option Addr) (cH cG cU cR cS cJ cE cB n N nG nU nS nJ nE nB nX : Nat) (r : Int) (held asg au : List Nat) (revoke : List IRow) (assign : List LRow) (js : List IRow) (es : List Excl) (broken : List Int) (w : World)
    (hH : Ws Any w aH held) (hG : Ws Any w aG asg) (hU : Ws Any w aU au) (hR : Rs Any w aR revoke) (hS : As Any w aS assign) (hJ : Rs Any w aJ js) (hE : Es Any w aE es) (hB : Is Any w aB broken)
    (lH : held.length = N) (lG : asg.length = nG) (lU : au.length = nU) (lR : revoke.length = n) (lS : assign.length = nS) (lJ : js.length = nJ) (lE : es.length = nE) (lB : broken.length = nB)
    (F : Fit N nG nU nX nB revoke assign js es) :
    Calls Try.prog 21 #[.slice aH N cH, .slice aG nG cG, .slice aU nU cU, .int .i64 r, .slice aR n cR, .slice aS nS cS, .slice aJ nJ cJ, .slice aE nE cE, .slice aB nB cB] w fun e w' => RetImp (Dom n N nG nU nS nE aJ js r au revoke assign es broken) e ∧ Below w.heap.size w w' := by
  have f1 := all_of (P := fun y : IRow => y.xs.length ≤ 131072) F.revoke (Nat.le_refl _)
  have f2 := all_of (P := fun y : LRow => y.xs.length ≤ 131072) F.assign (Nat.le_refl _)
  have f3 := all_of (P := fun y : IRow => y.xs.length ≤ 131072) F.js (Nat.le_refl _)
  have f4 := all_of (P := fun y : Excl => y.roles.xs.length ≤ 131072) F.es (Nat.le_refl _)
  have l1 : n ≤ 65536 := by rw [← lR]; exact F.revokeL
  have l2 : nS ≤ 65536 := by rw [← lS]; exact F.assignL
  have l3 : nE ≤ 65536 := by rw [← lE]; exact F.esL
  have l4 : nJ ≤ 131072 := by rw [← lJ]; exact Nat.le_trans F.jsL (by decide)
  cases aJ with
  | none =>
    obtain rfl := hJ.nil
    obtain rfl : 0 = nJ := lJ
    exact domNil_any aH aG aU aR aS aE aB cH cG cU cR cS cJ cE cB n N nG nU nS 0 nE nB r held asg au revoke assign [] es broken w hH hG hU hR hS hE hB lH lG lU lR lS lE lB F.held F.asg F.au l1 l2 l3 F.broken f1 f2 hS.rules f4
  | some aj =>
    exact domSome_any aH aG aU aR aS aE aB aj cH cG cU cR cS cJ cE cB n N nG nU nS nJ nE nB r held asg au revoke assign js es broken w hH hG hU hR hS hJ lJ l4 f3 hE hB lH lG lU lR lS lE lB F.held F.asg F.au l1 l2 l3 F.broken f1 f2 hS.rules f4

theorem bytes_len (anH anG anU aR aS aJ aE aB : Option Addr) (cnH cnG cnU cR cS cJ cE cB nH nG nU n nS nJ nE nB : Nat) (r : Int) (revoke : List IRow) (assign : List LRow) (js : List IRow) (es : List Excl) (w : World) (hR : Rs Any w aR revoke) (hS : As Any w aS assign) (hJ : Rs Any w aJ js) (hE : Es Any w aE es)
    (lR : revoke.length = n) (lS : assign.length = nS) (lJ : js.length = nJ) (lE : es.length = nE) :
    Calls Try.prog 19 #[.slice anH nH cnH, .slice anG nG cnG, .slice anU nU cnU, .int .i64 r, .slice aR n cR, .slice aS nS cS, .slice aJ nJ cJ, .slice aE nE cE, .slice aB nB cB] w fun e w' => RetImp True e ∧ Below w.heap.size w w' := by
  subst lR lS lJ lE
  exact bytes_any anH anG anU aR aS aJ aE aB cnH cnG cnU cR cS cJ cE cB nH nG nU nB r revoke assign js es w hR hS hJ hE
theorem bytes2_len (anH anX anG anU aR aS aJ aE aB : Option Addr) (cnH cnX cnG cnU cR cS cJ cE cB nH nX nG nU n nS nJ nE nB : Nat) (r : Int) (revoke : List IRow) (assign : List LRow) (js : List IRow) (es : List Excl) (w : World) (hR : Rs Any w aR revoke) (hS : As Any w aS assign) (hJ : Rs Any w aJ js) (hE : Es Any w aE es)
    (lR : revoke.length = n) (lS : assign.length = nS) (lJ : js.length = nJ) (lE : es.length = nE) :
    Calls Try.prog 33 #[.slice anH nH cnH, .slice anX nX cnX, .slice anG nG cnG, .slice anU nU cnU, .int .i64 r, .slice aR n cR, .slice aS nS cS, .slice aJ nJ cJ, .slice aE nE cE, .slice aB nB cB] w fun e w' => RetImp True e ∧ Below w.heap.size w w' := by
  subst lR lS lJ lE
  exact bytes2_any anH anX anG anU aR aS aJ aE aB cnH cnX cnG cnU cR cS cJ cE cB nH nX nG nU nB r revoke assign js es w hR hS hJ hE
theorem fit_len (anH anG anU anX aR aS aJ aE aB : Option Addr) (cnH cnG cnU cnX cR cS cJ cE cB nH nG nU nX n nS nJ nE nB : Nat) (revoke : List IRow) (assign : List LRow) (js : List IRow) (es : List Excl) (w : World) (hR : Rs Any w aR revoke) (hS : As Any w aS assign) (hJ : Rs Any w aJ js) (hE : Es Any w aE es)
    (lR : revoke.length = n) (lS : assign.length = nS) (lJ : js.length = nJ) (lE : es.length = nE) :
    Calls Try.prog 20 #[.slice anH nH cnH, .slice anG nG cnG, .slice anU nU cnU, .slice anX nX cnX, .slice aR n cR, .slice aS nS cS, .slice aJ nJ cJ, .slice aE nE cE, .slice aB nB cB] w fun e w' => RetImp (Fit nH nG nU nX nB revoke assign js es) e ∧ Below w.heap.size w w' := by
  subst lR lS lJ lE
  exact fit_any anH anG anU anX aR aS aJ aE aB cnH cnG cnU cnX cR cS cJ cE cB nH nG nU nX nB revoke assign js es w hR hS hJ hE

theorem copyWords_len (a : Option Addr) (cap N : Nat) (xs : List Nat) (w : World) (h : Ws Any w a xs) (l : xs.length = N) (hn : N ≤ 131072) :
    Calls Try.prog 22 #[.slice a N cap] w fun e w' => ∃ a' cap', e = .returned (.slice a' N cap') ∧ Ws Any w' a' xs ∧ Below w.heap.size w w' := by
  subst l
  refine (copyWords_any a cap xs w h hn).mono ?_
  rintro e w' ⟨a', cap', rfl, _, h1, h2⟩
  exact ⟨a', cap', rfl, h1.mono fun _ _ _ => trivial, h2⟩
theorem copyInts_len (a : Option Addr) (cap N : Nat) (xs : List Int) (w : World) (h : Is Any w a xs) (l : xs.length = N) (hn : N ≤ 131072) :
    Calls Try.prog 26 #[.slice a N cap] w fun e w' => ∃ a' cap', e = .returned (.slice a' N cap') ∧ Is Any w' a' xs ∧ Below w.heap.size w w' := by
  subst l
  refine (copyInts_any a cap xs w h hn).mono ?_
  rintro e w' ⟨a', cap', rfl, _, h1, h2⟩
  exact ⟨a', cap', rfl, h1.mono fun _ _ _ => trivial, h2⟩
theorem copyIntRows_len (a : Option Addr) (cap N : Nat) (rows : List IRow) (w : World) (h : Rs Any w a rows) (l : rows.length = N) (hn : N ≤ 131072) (hi : ∀ r ∈ rows, r.xs.length ≤ 131072) :
    Calls Try.prog 23 #[.slice a N cap] w fun e w' => ∃ a' cap' rows', e = .returned (.slice a' N cap') ∧ (a' = none ↔ a = none) ∧ rows'.map IRow.xs = rows.map IRow.xs ∧ Rs Any w' a' rows' ∧ Below w.heap.size w w' := by
  subst l
  refine (copyIntRows_any a cap rows w h hn hi).mono ?_
  rintro e w' ⟨a', cap', rows', rfl, h0, h1, h2, h3⟩
  exact ⟨a', cap', rows', rfl, h0, h1, h2.mono fun _ _ _ => trivial, h3⟩
theorem copyExclusions_len (a : Option Addr) (cap N : Nat) (xs : List Excl) (w : World) (h : Es Any w a xs) (l : xs.length = N) (hn : N ≤ 131072) (hi : ∀ r ∈ xs, r.roles.xs.length ≤ 131072) :
    Calls Try.prog 25 #[.slice a N cap] w fun e w' => ∃ a' cap' xs', e = .returned (.slice a' N cap') ∧ xs'.map Excl.data = xs.map Excl.data ∧ Es Any w' a' xs' ∧ Below w.heap.size w w' := by
  subst l
  refine (copyExclusions_any a cap xs w h hn hi).mono ?_
  rintro e w' ⟨a', cap', rows', rfl, h1, h2, h3⟩
  exact ⟨a', cap', rows', rfl, h1, h2.mono fun _ _ _ => trivial, h3⟩
theorem copyAssign_len (a : Option Addr) (cap N : Nat) (rows : List LRow) (w : World) (h : As Any w a rows) (l : rows.length = N) (hn : N ≤ 131072) (hi : ∀ r ∈ rows, r.xs.length ≤ 131072 ∧ ∀ x ∈ r.xs, x.req.xs.length ≤ 131072 ∧ x.forb.xs.length ≤ 131072) :
    Calls Try.prog 24 #[.slice a N cap] w fun e w' => ∃ a' cap' rows', e = .returned (.slice a' N cap') ∧ rows'.map LRow.data = rows.map LRow.data ∧ As Any w' a' rows' ∧ Below w.heap.size w w' := by
  subst l
  refine (copyAssign_any a cap rows w h hn hi).mono ?_
  rintro e w' ⟨a', cap', rows', rfl, h1, h2, h3⟩
  exact ⟨a', cap', rows', rfl, h1, h2.mono fun _ _ _ => trivial, h3⟩
theorem splitAssign_len (a : Option Addr) (cap N : Nat) (rows : List LRow) (w : World) (h : As Any w a rows) (l : rows.length = N) (hn : N ≤ 131072) (hi : ∀ r ∈ rows, r.xs.length ≤ 131072) :
    Calls Try.prog 27 #[.slice a N cap] w fun e w' => ∃ a1 a2 a3 c1 c2 c3 r1 r2 r3, e = .returned (.tuple #[.slice a1 N c1, .slice a2 N c2, .slice a3 N c3]) ∧
      r1.map IRow.xs = rows.map (fun r => r.xs.map Rule.admin) ∧ r2.map QRow.xs = rows.map (fun r => r.xs.map Rule.req) ∧ r3.map QRow.xs = rows.map (fun r => r.xs.map Rule.forb) ∧
      Rs Any w' a1 r1 ∧ Qs Any w' a2 r2 ∧ Qs Any w' a3 r3 ∧ Below w.heap.size w w' := by
  subst l; exact splitAssign_any a cap rows w h hn hi
theorem splitExclusions_len (a : Option Addr) (cap N : Nat) (xs : List Excl) (w : World) (h : Es Any w a xs) (l : xs.length = N) (hn : N ≤ 131072) :
    Calls Try.prog 28 #[.slice a N cap] w fun e w' => ∃ a1 a2 c1 c2, e = .returned (.tuple #[.slice a1 N c1, .slice a2 N c2]) ∧
      Rs Any w' a1 (xs.map Excl.roles) ∧ Is Any w' a2 (xs.map Excl.limit) ∧ Below w.heap.size w w' := by
  subst l; exact splitExclusions_any a cap xs w h hn
theorem listingOf_len (a : Option Addr) (cap n N : Nat) (xs : List Excl) (w : World) (h : Es Any w a xs) (l : xs.length = N) (hl : N ≤ 131072) (hi : ∀ r ∈ xs, r.roles.xs.length ≤ 131072) (hr : ∀ r ∈ xs, ∀ y ∈ r.roles.xs, 0 ≤ y ∧ y < (n : Int)) (hn : n ≤ 131072) :
    Calls Try.prog 29 #[.slice a N cap, .int .i64 (n : Int)] w fun e w' => ∃ a' cap' rows, e = .returned (.slice a' n cap') ∧ rows.length = n ∧ Lst xs xs.length 0 rows ∧ Rs Any w' a' rows ∧ Below w.heap.size w w' := by
  subst l; exact listingOf_any a cap n xs w h hl hi hr hn
theorem orWords_len (a1 a2 : Option Addr) (c1 c2 N : Nat) (xs ys : List Nat) (w : World) (h1 : Ws Any w a1 xs) (h2 : Ws Any w a2 ys) (l1 : xs.length = N) (l2 : ys.length = N) (hn : N ≤ 131072) :
    Calls Try.prog 35 #[.slice a1 N c1, .slice a2 N c2] w fun e w' => ∃ a' cap', e = .returned (.slice a' N cap') ∧ Ws Any w' a' (List.zipWith (· ||| ·) xs ys) ∧ Below w.heap.size w w' := by
  subst l1
  refine (orWords_any a1 a2 c1 c2 xs ys w h1 h2 l2 hn).mono ?_
  rintro e w' ⟨a', cap', rfl, h3, h4⟩
  exact ⟨a', cap', rfl, h3.mono fun _ _ _ => trivial, h4⟩

/-! ### The space, made -/
/-- What newSpace hands back. -/
def SpaceOf (W : World) (N : Nat) (aJ : Option Addr) (held : List Nat) (revoke : List IRow) (assign : List LRow) (js : List IRow) (es : List Excl) (listing : List IRow) (broken : List Int) (e : Ending) (w' : World) : Prop :=
  ∃ (bS : Nat) (d : SpD), e = .returned (.pointer (some ⟨bS, 0, none⟩)) ∧ Sp w' bS W.heap.size d N (List.replicate N 0) (.slice none 0 0) ∧ d.held = held ∧ d.revoke = revoke ∧ d.assign.map LRow.xs = assign.map LRow.xs ∧ d.js = js ∧ d.aJ = aJ ∧ d.es = es ∧ d.listing = listing ∧ d.broken = broken ∧ W.heap.size < bS ∧ Below W.heap.size W w'

theorem space_any (W : World) (N n nJ nE nB : Nat) (aH aR aJ aL aB : Option Addr) (cH cR cJ cL cB cA : Nat) (a1 a2 a3 : Option Addr) (c1 c2 c3 : Nat) (r1 : List IRow) (r2 r3 : List QRow) (assign : List LRow) (a4 a5 : Option Addr) (c4 c5 : Nat)
    (held : List Nat) (revoke js : List IRow) (es : List Excl) (listing : List IRow) (broken : List Int)
    (e1 : r1.map IRow.xs = assign.map (fun r => r.xs.map Rule.admin)) (e2 : r2.map QRow.xs = assign.map (fun r => r.xs.map Rule.req)) (e3 : r3.map QRow.xs = assign.map (fun r => r.xs.map Rule.forb))
    (h1 : Rs Any W a1 r1) (h2 : Qs Any W a2 r2) (h3 : Qs Any W a3 r3) (hW : ∀ r ∈ assign, ∀ x ∈ r.xs, Ws Any W x.req.a x.req.xs ∧ Ws Any W x.forb.a x.forb.xs)
    (h4 : Rs Any W a4 (es.map Excl.roles)) (h5 : Is Any W a5 (es.map Excl.limit)) (hH : Ws Any W aH held) (hR : Rs Any W aR revoke) (hJ : Rs Any W aJ js) (hL : Rs Any W aL listing) (hB : Is Any W aB broken)
    (lH : held.length = N) (lR : revoke.length = n) (lS : assign.length = n) (lJ : js.length = nJ) (lE : es.length = nE) (lL : listing.length = n) (lB : broken.length = nB) (hn : n ≤ 131072) (hi : ∀ r ∈ assign, r.xs.length ≤ 131072) (hx : nE ≤ 131072) :
    Calls Try.prog 30 #[.slice aH N cH, .slice aR n cR, .slice a1 n c1, .slice a2 n c2, .slice a3 n c3, .slice aJ nJ cJ, .slice a4 nE c4, .slice a5 nE c5, .slice aL n cL, .slice aB nB cB, .slice (some ⟨W.heap.size, 0, none⟩) N cA] (W.alloc (.cells (Array.replicate N (.int .u64 0)) 67)) (SpaceOf W N aJ held revoke assign js es listing broken) := by
  subst lH lS lJ lE lB
  have z : (W.alloc (.cells (Array.replicate held.length (.int .u64 0)) 67)).heap.size = W.heap.size + 1 := by simp
  have B0 : Below W.heap.size W (W.alloc (.cells (Array.replicate held.length (.int .u64 0)) 67)) := (Below.refl _ _).alloc (Nat.le_refl _) _
  have Z0 := Blk.new' W 67 held.length (.int .u64 0)
  generalize hW' : W.alloc (.cells (Array.replicate held.length (.int .u64 0)) 67) = W' at *
  have ne : ∀ b, Any b → b < W.heap.size → b ≠ W.heap.size := fun b _ hb => Nat.ne_of_lt hb
  refine (newSpace_any W.heap.size W' (by omega) aH aR aJ aL aB (some ⟨W.heap.size, 0, none⟩) held.length cH assign.length cR js.length cJ assign.length cL broken.length cB held.length cA a1 a2 a3 c1 c2 c3 r1 r2 r3 assign a4 a5 c4 c5 es e1 e2 e3 (h1.keep (keepsB B0 _)) (h2.keep (keepsB B0 _)) (h3.keep (keepsB B0 _)) (fun r hr x hx => ?_) ((h4.mono ne).keep (keepsB B0 _)) ((h5.mono ne).keep (keepsB B0 _)) hn hi hx).mono ?_
  · obtain ⟨p, q⟩ := hW r hr x hx
    exact ⟨(p.mono ne).keep (keepsB B0 _), (q.mono ne).keep (keepsB B0 _)⟩
  · rintro e w' ⟨bS, aS, cS, aE, cE, rows', rfl, hb, hbne, hrows, hblk, hAs, hEs, hbl⟩
    have B1 : Below W.heap.size W w' := B0.trans (hbl.mono (by omega))
    have n2 : ∀ b, Any b → b < W.heap.size → Not2 W.heap.size bS b := fun b _ hb' => ⟨Nat.ne_of_lt hb', by omega⟩
    have lr : rows'.length = assign.length := map_len hrows
    refine ⟨bS, ⟨aH, cH, held, aR, cR, revoke, aS, cS, rows', aJ, cJ, js, aE, cE, es, aL, cL, listing, aB, cB, broken, cA⟩, rfl, ⟨?_, ?_, hbne, (hH.mono n2).keep (keepsB B1 _), (hR.mono n2).keep (keepsB B1 _), hAs, (hJ.mono n2).keep (keepsB B1 _), hEs, (hL.mono n2).keep (keepsB B1 _), (hB.mono n2).keep (keepsB B1 _)⟩, rfl, rfl, hrows, rfl, rfl, rfl, rfl, rfl, by omega, B1⟩
    · dsimp only
      rw [lR, lr, lL]
      exact hblk
    · rw [List.map_replicate]
      exact Z0.below hbl (by omega)

theorem data_of_xs {xs ys : List LRow} (h : xs.map LRow.xs = ys.map LRow.xs) : xs.map LRow.data = ys.map LRow.data := by
  have e : ∀ l : List LRow, l.map LRow.data = (l.map LRow.xs).map (fun r => r.map Rule.data) := fun l => by rw [List.map_map]; rfl
  rw [e, e, h]
end Go.Proofs.Qxb6604686a
