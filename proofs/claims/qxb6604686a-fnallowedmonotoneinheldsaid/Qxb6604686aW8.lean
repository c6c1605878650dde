import Derived.Test.Qxb6604686aW7
namespace Go.Proofs.Qxb6604686a
open Go.ChangeShapes Go.WideShapes Go.ChangeAt Go.RowKit
set_option linter.unusedVariables false

theorem make80 (n : Nat) (hn : n ≤ 1048576) (w : World) : (Instr.makeSlice 80 (.int .i64 (n : Int)) (.int .i64 (n : Int))).run Try.prog w = .ok (.slice (some ⟨w.heap.size, 0, none⟩) n n) (w.alloc (.cells (List.replicate n (.slice none 0 0)).toArray 81)) :=
  make_any w 80 81 (.slice none 0 0) 24 Try.underlying80 (by kernel_rfl) rfl (by decide) n hn
theorem make81 (n : Nat) (hn : n ≤ 1048576) (w : World) : (Instr.makeSlice 81 (.int .i64 (n : Int)) (.int .i64 (n : Int))).run Try.prog w = .ok (.slice (some ⟨w.heap.size, 0, none⟩) n n) (w.alloc (.cells ((List.replicate n [.int .i64 0, .slice none 0 0, .slice none 0 0]).flatten).toArray 85)) :=
  make_many w 81 85 [.int .i64 0, .slice none 0 0, .slice none 0 0] 56 Try.underlying81 (by kernel_rfl) (by decide) (by decide) n hn
theorem make86 (n : Nat) (hn : n ≤ 1048576) (w : World) : (Instr.makeSlice 86 (.int .i64 (n : Int)) (.int .i64 (n : Int))).run Try.prog w = .ok (.slice (some ⟨w.heap.size, 0, none⟩) n n) (w.alloc (.cells ((List.replicate n [.slice none 0 0, .int .i64 0]).flatten).toArray 88)) :=
  make_many w 86 88 [.slice none 0 0, .int .i64 0] 32 Try.underlying86 (by kernel_rfl) (by decide) (by decide) n hn

/-- The cells of the space. -/
def spCells (held revoke assign juniors exclusions listing broken after added : Value) : List Value :=
  [.pointer none, .int .i64 0, .int .i64 0, .slice none 0 0, .slice none 0 0, .slice none 0 0, assign, revoke, juniors, exclusions, listing, broken, .slice none 0 0, held, .slice none 0 0, .slice none 0 0, after, added]

/-- Neither the scratch set nor the space itself. -/
def Not2 (x y b : Nat) : Prop := b ≠ x ∧ b ≠ y

theorem getmap {α β : Type} {f : α → β} {l : List α} {m : List β} (h : m = l.map f) {i : Nat} {x : α} (hx : l[i]? = some x) : m[i]? = some (f x) := by rw [h, List.getElem?_map, hx]; rfl

set_option maxHeartbeats 8000000 in
set_option maxRecDepth 100000 in
theorem newSpace_any (bA : Nat) (w : World) (hbA : bA < w.heap.size)
    (aH aR aJ aL aB aA : Option Addr) (nH cH nR cR nJ cJ nL cL nB cB nA cA : Nat)
    (a1 a2 a3 : Option Addr) (c1 c2 c3 : Nat) (r1 : List IRow) (r2 r3 : List QRow) (rows : List LRow)
    (a4 a5 : Option Addr) (c4 c5 : Nat) (xs : List Excl)
    (e1 : r1.map IRow.xs = rows.map (fun r => r.xs.map Rule.admin)) (e2 : r2.map QRow.xs = rows.map (fun r => r.xs.map Rule.req)) (e3 : r3.map QRow.xs = rows.map (fun r => r.xs.map Rule.forb))
    (h1 : Rs Any w a1 r1) (h2 : Qs Any w a2 r2) (h3 : Qs Any w a3 r3) (hW : ∀ r ∈ rows, ∀ x ∈ r.xs, Ws (· ≠ bA) w x.req.a x.req.xs ∧ Ws (· ≠ bA) w x.forb.a x.forb.xs)
    (h4 : Rs (· ≠ bA) w a4 (xs.map Excl.roles)) (h5 : Is (· ≠ bA) w a5 (xs.map Excl.limit))
    (hn : rows.length ≤ 131072) (hi : ∀ r ∈ rows, r.xs.length ≤ 131072) (hx : xs.length ≤ 131072) :
    Calls Try.prog 30 #[.slice aH nH cH, .slice aR nR cR, .slice a1 rows.length c1, .slice a2 rows.length c2, .slice a3 rows.length c3, .slice aJ nJ cJ, .slice a4 xs.length c4, .slice a5 xs.length c5, .slice aL nL cL, .slice aB nB cB, .slice aA nA cA] w fun e w' =>
      ∃ bS aS cS aE cE rows', e = .returned (.pointer (some ⟨bS, 0, none⟩)) ∧ w.heap.size ≤ bS ∧ bA ≠ bS ∧ rows'.map LRow.xs = rows.map LRow.xs ∧
        Blk w' bS 93 (spCells (.slice aH nH cH) (.slice aR nR cR) (.slice aS rows.length cS) (.slice aJ nJ cJ) (.slice aE xs.length cE) (.slice aL nL cL) (.slice aB nB cB) (.slice aA nA cA) (.slice none 0 0)) ∧
        As (Not2 bA bS) w' aS rows' ∧ Es (Not2 bA bS) w' aE xs ∧ Below w.heap.size w w' := by
  have hmk1 := make80 rows.length (by omega)
  have hmk2 := make86 xs.length (by omega)
  go_enter Try.func30, Try.ntmps30
  go_wp2
  go_loopg [34] rows.length (fun g i wr => ∃ done : List LRow, done.length + g = rows.length ∧ i = .int .i64 done.length ∧ done.map LRow.xs = (rows.take done.length).map LRow.xs ∧ Blk wr w.heap.size 81 (part LRow.val (.slice none 0 0) done rows.length) ∧
    (∀ r ∈ done, ∀ (i : Nat) (x : Rule), r.xs[i]? = some x → ∃ b, r.a = some ⟨b, 0, none⟩ ∧ w.heap.size < b ∧ wr.cell? ⟨b, i * 3, none⟩ = some (.int .i64 x.admin) ∧ wr.cell? ⟨b, i * 3 + 1, none⟩ = some x.req.val ∧ wr.cell? ⟨b, i * 3 + 2, none⟩ = some x.forb.val) ∧ Below w.heap.size w wr)
  case atStart =>
    refine ⟨[], by simp, rfl, rfl, ?_, fun r hr => by simp at hr, (Below.refl _ _).alloc (Nat.le_refl _) _⟩
    rw [part_zero]; exact Blk.new' w 81 _ _
  case round =>
    obtain ⟨done, hk, rfl, hm, hb, hd, hbl⟩ := hrel
    have Hm : Hid (done.map LRow.xs = (rows.take done.length).map LRow.xs) := hm
    clear hm
    by_cases hlt : done.length < rows.length
    · have HG : Hid (rows[done.length]? = some rows[done.length]) := List.getElem?_eq_getElem hlt
      have hil := hi rows[done.length] (List.getElem_mem hlt)
      have hlr1 : r1.length = rows.length := by simpa using congrArg List.length e1
      have hlr2 : r2.length = rows.length := by simpa using congrArg List.length e2
      have hlr3 : r3.length = rows.length := by simpa using congrArg List.length e3
      have g1 : r1[done.length]? = some (r1[done.length]'(by omega)) := List.getElem?_eq_getElem _
      have g2 : r2[done.length]? = some (r2[done.length]'(by omega)) := List.getElem?_eq_getElem _
      have g3 : r3[done.length]? = some (r3[done.length]'(by omega)) := List.getElem?_eq_getElem _
      generalize r1[done.length]'(by omega) = q1 at g1
      generalize r2[done.length]'(by omega) = q2 at g2
      generalize r3[done.length]'(by omega) = q3 at g3
      generalize rows[done.length] = r at *
      obtain ⟨ra, rcap, rxs⟩ := r
      obtain ⟨qa1, qc1, qx1⟩ := q1
      obtain ⟨qa2, qc2, qx2⟩ := q2
      obtain ⟨qa3, qc3, qx3⟩ := q3
      have x1 : qx1 = rxs.map Rule.admin := by
        have := congrArg (fun l : List (List Int) => l[done.length]?) e1
        simp only [List.getElem?_map, g1, HG.out, Option.map_some, Option.some.injEq] at this
        exact this
      have x2 : qx2 = rxs.map Rule.req := by
        have := congrArg (fun l : List (List WRow) => l[done.length]?) e2
        simp only [List.getElem?_map, g2, HG.out, Option.map_some, Option.some.injEq] at this
        exact this
      have x3 : qx3 = rxs.map Rule.forb := by
        have := congrArg (fun l : List (List WRow) => l[done.length]?) e3
        simp only [List.getElem?_map, g3, HG.out, Option.map_some, Option.some.injEq] at this
        exact this
      subst x1 x2 x3
      obtain ⟨⟨b1, o1, ha1, _, hc1⟩, i1⟩ := h1 done.length _ g1
      obtain ⟨⟨b2, o2, ha2, _, hc2⟩, i2⟩ := h2 done.length _ g2
      obtain ⟨⟨b3, o3, ha3, _, hc3⟩, i3⟩ := h3 done.length _ g3
      subst ha1 ha2 ha3
      dsimp only at i1 i2 i3 hil
      simp only [IRow.val, QRow.val, List.length_map] at hc1 hc2 hc3
      have k1 := cell_lt hc1
      have k2 := cell_lt hc2
      have k3 := cell_lt hc3
      dsimp only at k1 k2 k3
      have p1 := (keepsB hbl Any).cell trivial hc1
      have p2 := (keepsB hbl Any).cell trivial hc2
      have p3 := (keepsB hbl Any).cell trivial hc3
      have kk1 : b1 < wr.heap.size := cell_lt p1
      clear g1 g2 g3 hlr1 hlr2 hlr3
      have hlt' : (done.length : Int) < (rows.length : Int) := by omega
      have h0' : (0 : Int) ≤ (done.length : Int) := by omega
      have hmk3 := make81 rxs.length (by omega)
      have E1 : Hid (r1.map IRow.xs = rows.map (fun r => r.xs.map Rule.admin)) := e1
      have E2 : Hid (r2.map QRow.xs = rows.map (fun r => r.xs.map Rule.req)) := e2
      have E3 : Hid (r3.map QRow.xs = rows.map (fun r => r.xs.map Rule.forb)) := e3
      clear e1 e2 e3
      go_wp2
      generalize wr = w0 at *
      generalize gk = g0 at *
      go_loopg [48] rxs.length (fun g i wr => ∃ dn : List Rule, dn.length + g = rxs.length ∧ i = .int .i64 dn.length ∧ dn = rxs.take dn.length ∧ Blk wr w0.heap.size 85 (partS Rule.cells [.int .i64 0, .slice none 0 0, .slice none 0 0] dn rxs.length) ∧ Below w0.heap.size w0 wr)
      case atStart =>
        refine ⟨[], by simp, rfl, rfl, ?_, (Below.refl _ _).alloc (Nat.le_refl _) _⟩
        rw [partS_zero]; exact Blk.new w0 85 _
      case round =>
        obtain ⟨dn, hk2, rfl, hm2, hb2, hbl2⟩ := hrel
        have Hm2 : Hid (dn = rxs.take dn.length) := hm2
        clear hm2
        have hbl3 : Below w.heap.size w wr := hbl.trans (hbl2.mono hbl.size)
        by_cases hlt2 : dn.length < rxs.length
        · have HG2 : Hid (rxs[dn.length]? = some rxs[dn.length]) := List.getElem?_eq_getElem hlt2
          obtain ⟨b4, o4, ha4, _, hc4⟩ := i1 dn.length _ (getmap rfl HG2.out)
          obtain ⟨b5, o5, ha5, _, hc5⟩ := i2 dn.length _ (getmap rfl HG2.out)
          obtain ⟨b6, o6, ha6, _, hc6⟩ := i3 dn.length _ (getmap rfl HG2.out)
          subst ha4 ha5 ha6
          have k4 : b4 < w.heap.size := cell_lt hc4
          have k5 : b5 < w.heap.size := cell_lt hc5
          have k6 : b6 < w.heap.size := cell_lt hc6
          have hsz := hbl.size
          have n1 : w0.heap.size ≠ b1 := by omega
          have n2 : w0.heap.size ≠ b2 := by omega
          have n3 : w0.heap.size ≠ b3 := by omega
          have n4 : w0.heap.size ≠ b4 := by omega
          have n5 : w0.heap.size ≠ b5 := by omega
          have n6 : w0.heap.size ≠ b6 := by omega
          have t1 := (keepsB hbl3 Any).cell trivial hc1
          have t2 := (keepsB hbl3 Any).cell trivial hc2
          have t3 := (keepsB hbl3 Any).cell trivial hc3
          have t4 := (keepsB hbl3 Any).cell trivial hc4
          have t5 := (keepsB hbl3 Any).cell trivial hc5
          have t6 := (keepsB hbl3 Any).cell trivial hc6
          have hlt2' : (dn.length : Int) < (rxs.length : Int) := by omega
          have h02' : (0 : Int) ≤ (dn.length : Int) := by omega
          generalize rxs[dn.length] = r at *
          unfold WRow.val at t5 t6
          have f0 := hb2.frozen (dn.length * 3)
          have f1 := hb2.frozen (dn.length * 3 + 1)
          have f2 := hb2.frozen (dn.length * 3 + 2)
          have s0 := (hb2.cell (dn.length * 3)).trans (partS_get Rule.cells _ 3 Rule.cells_len rfl dn hlt2 0 (by decide))
          have s1 := (hb2.cell (dn.length * 3 + 1)).trans (partS_get Rule.cells _ 3 Rule.cells_len rfl dn hlt2 1 (by decide))
          have s2 := (hb2.cell (dn.length * 3 + 2)).trans (partS_get Rule.cells _ 3 Rule.cells_len rfl dn hlt2 2 (by decide))
          have HB : Hid (Blk (((wr.drew.setCell ⟨w0.heap.size, dn.length * 3, none⟩ (.int .i64 r.admin)).setCell ⟨w0.heap.size, dn.length * 3 + 1, none⟩ (.slice r.req.a r.req.xs.length r.req.cap)).setCell ⟨w0.heap.size, dn.length * 3 + 2, none⟩ (.slice r.forb.a r.forb.xs.length r.forb.cap)) w0.heap.size 85 (partS Rule.cells [.int .i64 0, .slice none 0 0, .slice none 0 0] (dn ++ [r]) rxs.length)) := hb2.drew.set3 Rule.cells_len hlt2 r rfl
          clear hc1 hc2 hc3 hc4 hc5 hc6 p1 p2 p3
          go_wp2_with fail
          go_region_held3 (fun w' => w'.cell? ⟨b1, o1 + done.length, none⟩ = some (.slice (some ⟨b4, o4, none⟩) rxs.length qc1) ∧ w'.cell? ⟨b2, o2 + done.length, none⟩ = some (.slice (some ⟨b5, o5, none⟩) rxs.length qc2) ∧ w'.cell? ⟨b3, o3 + done.length, none⟩ = some (.slice (some ⟨b6, o6, none⟩) rxs.length qc3) ∧ w'.cell? ⟨b4, o4 + dn.length, none⟩ = some (.int .i64 r.admin) ∧ w'.cell? ⟨b5, o5 + dn.length, none⟩ = some (.slice r.req.a r.req.xs.length r.req.cap) ∧ w'.cell? ⟨b6, o6 + dn.length, none⟩ = some (.slice r.forb.a r.forb.xs.length r.forb.cap)) (go_keep) (fail)
          go_wp2
          go_roundg (gk - 1)
          case measure => omega
          case rel =>
            refine ⟨dn ++ [r], by simp; omega, by rw [List.length_append]; go_num, ?_, HB.out, ((hbl2.drew.setCell (Nat.le_refl _) _).setCell (Nat.le_refl _) _).setCell (Nat.le_refl _) _⟩
            rw [List.length_append, List.length_singleton, List.take_add_one, HG2.out, ← Hm2.out]; rfl
        · have hdn : dn = rxs := by rw [Hm2.out, List.take_of_length_le (by omega)]
          subst hdn
          rw [partS_all _ _ _ (Nat.le_refl _)] at hb2
          have hb0 := hb.below hbl2 hb.lt
          have f0 := hb0.frozen done.length
          have s0 := (hb0.cell done.length).trans (part_at LRow.val _ done hlt)
          have HB : Hid (Blk (wr.setCell ⟨w.heap.size, done.length, none⟩ (.slice (some ⟨w0.heap.size, 0, none⟩) dn.length dn.length)) w.heap.size 81 (part LRow.val (.slice none 0 0) (done ++ [⟨some ⟨w0.heap.size, 0, none⟩, dn.length, dn⟩]) rows.length)) := hb0.partset hlt ⟨some ⟨w0.heap.size, 0, none⟩, dn.length, dn⟩ rfl rfl
          go_wp2
          go_roundg (g0 - 1)
          case measure => omega
          case rel =>
            refine ⟨done ++ [⟨some ⟨w0.heap.size, 0, none⟩, dn.length, dn⟩], by simp; omega, by rw [List.length_append]; go_num, ?_, HB.out, ?_, hbl3.setCell (Nat.le_refl _) _⟩
            · rw [List.map_append, Hm.out, List.length_append, List.length_singleton, List.take_add_one, HG.out]; simp
            · intro q hq i x hxi
              have kp : ∀ (b i : Nat) (v : Value), w.heap.size < b → wr.cell? ⟨b, i, none⟩ = some v → (wr.setCell ⟨w.heap.size, done.length, none⟩ (.slice (some ⟨w0.heap.size, 0, none⟩) dn.length dn.length)).cell? ⟨b, i, none⟩ = some v := fun b i v hb hc => (keeps_setL (n := w.heap.size + 1) wr (by simp) _).cell hb hc
              rcases List.mem_append.1 hq with hq | hq
              · obtain ⟨b, ha, hbw, c0, c1, c2⟩ := hd q hq i x hxi
                have kb := keepsB hbl2 Any
                exact ⟨b, ha, hbw, kp _ _ _ hbw (kb.cell trivial c0), kp _ _ _ hbw (kb.cell trivial c1), kp _ _ _ hbw (kb.cell trivial c2)⟩
              · obtain rfl := List.mem_singleton.1 hq
                have hw0 : w.heap.size < w0.heap.size := hb.lt
                refine ⟨w0.heap.size, rfl, hw0, kp _ _ _ hw0 ?_, kp _ _ _ hw0 ?_, kp _ _ _ hw0 ?_⟩
                · rw [hb2.cell]; exact flatMap_get Rule.cells 3 Rule.cells_len dn i x 0 hxi (by decide)
                · rw [hb2.cell]; exact flatMap_get Rule.cells 3 Rule.cells_len dn i x 1 hxi (by decide)
                · rw [hb2.cell]; exact flatMap_get Rule.cells 3 Rule.cells_len dn i x 2 hxi (by decide)
    · rw [part_all _ _ _ (by omega)] at hb
      have Hm' : Hid (done.map LRow.xs = rows.map LRow.xs) := by rw [Hm.out, List.take_of_length_le (by omega)]; rfl
      have HA : As (· ≠ bA) wr (some ⟨w.heap.size, 0, none⟩) done := fun i r hr => by
        refine ⟨⟨w.heap.size, 0, rfl, by omega, by rw [hb.cell]; simp [hr]⟩, fun k x hxk => ?_⟩
        obtain ⟨b, ha, hbw, q0, q1, q2⟩ := hd r (List.mem_of_getElem? hr) k x hxk
        have hm : r.xs ∈ rows.map LRow.xs := by rw [← Hm'.out]; exact List.mem_map_of_mem (List.mem_of_getElem? hr)
        obtain ⟨r0, hr0, er⟩ := List.mem_map.1 hm
        obtain ⟨w1, w2⟩ := hW r0 hr0 x (by rw [er]; exact List.mem_of_getElem? hxk)
        exact ⟨⟨b, 0, ha, by omega, by simpa using q0, by simpa using q1, by simpa using q2⟩, w1.keep (keepsB hbl _), w2.keep (keepsB hbl _)⟩
      clear hd Hm hb
      go_wp2
      generalize wr = w0 at *
      generalize gk = g0 at *
      go_loopg [88] xs.length (fun g i wr => ∃ dn : List Excl, dn.length + g = xs.length ∧ i = .int .i64 dn.length ∧ dn = xs.take dn.length ∧ Blk wr w0.heap.size 88 (partS Excl.cells [.slice none 0 0, .int .i64 0] dn xs.length) ∧ Below w0.heap.size w0 wr)
      case atStart =>
        refine ⟨[], by simp, rfl, rfl, ?_, (Below.refl _ _).alloc (Nat.le_refl _) _⟩
        rw [partS_zero]; exact Blk.new w0 88 _
      case round =>
        obtain ⟨dn, hk2, rfl, hm2, hb2, hbl2⟩ := hrel
        have Hm2 : Hid (dn = xs.take dn.length) := hm2
        clear hm2
        have hbl3 : Below w.heap.size w wr := hbl.trans (hbl2.mono hbl.size)
        by_cases hlt2 : dn.length < xs.length
        · have HG2 : Hid (xs[dn.length]? = some xs[dn.length]) := List.getElem?_eq_getElem hlt2
          obtain ⟨⟨b4, o4, ha4, _, hc4⟩, _⟩ := h4 dn.length _ (getmap rfl HG2.out)
          obtain ⟨b5, o5, ha5, _, hc5⟩ := h5 dn.length _ (getmap rfl HG2.out)
          subst ha4 ha5
          have k4 : b4 < w.heap.size := cell_lt hc4
          have k5 : b5 < w.heap.size := cell_lt hc5
          have hsz := hbl.size
          have n4 : w0.heap.size ≠ b4 := by omega
          have n5 : w0.heap.size ≠ b5 := by omega
          have t4 := (keepsB hbl3 Any).cell trivial hc4
          have t5 := (keepsB hbl3 Any).cell trivial hc5
          have hlt2' : (dn.length : Int) < (xs.length : Int) := by omega
          have h02' : (0 : Int) ≤ (dn.length : Int) := by omega
          generalize xs[dn.length] = r at *
          unfold IRow.val at t4
          have f0 := hb2.frozen (dn.length * 2)
          have f1 := hb2.frozen (dn.length * 2 + 1)
          have s0 := (hb2.cell (dn.length * 2)).trans (partS_get Excl.cells _ 2 Excl.cells_len rfl dn hlt2 0 (by decide))
          have s1 := (hb2.cell (dn.length * 2 + 1)).trans (partS_get Excl.cells _ 2 Excl.cells_len rfl dn hlt2 1 (by decide))
          have HB : Hid (Blk ((wr.drew.setCell ⟨w0.heap.size, dn.length * 2, none⟩ (.slice r.roles.a r.roles.xs.length r.roles.cap)).setCell ⟨w0.heap.size, dn.length * 2 + 1, none⟩ (.int .i64 r.limit)) w0.heap.size 88 (partS Excl.cells [.slice none 0 0, .int .i64 0] (dn ++ [r]) xs.length)) := hb2.drew.set2 Excl.cells_len hlt2 r rfl
          clear hc4 hc5
          go_wp2_with fail
          go_region_held3 (fun w' => w'.cell? ⟨b4, o4 + dn.length, none⟩ = some (.slice r.roles.a r.roles.xs.length r.roles.cap) ∧ w'.cell? ⟨b5, o5 + dn.length, none⟩ = some (.int .i64 r.limit)) (go_keep) (fail)
          go_wp2
          go_roundg (gk - 1)
          case measure => omega
          case rel =>
            refine ⟨dn ++ [r], by simp; omega, by rw [List.length_append]; go_num, ?_, HB.out, (hbl2.drew.setCell (Nat.le_refl _) _).setCell (Nat.le_refl _) _⟩
            rw [List.length_append, List.length_singleton, List.take_add_one, HG2.out, ← Hm2.out]; rfl
        · have hdn : dn = xs := by rw [Hm2.out, List.take_of_length_le (by omega)]
          subst hdn
          rw [partS_all _ _ _ (Nat.le_refl _)] at hb2
          have hsz := hbl.size
          have hsz2 := hbl2.size
          have HE : Es (· ≠ bA) wr (some ⟨w0.heap.size, 0, none⟩) dn := hb2.es (by omega) fun r hr => by
            obtain ⟨i, hi⟩ := List.getElem?_of_mem hr
            exact (h4 i _ (getmap rfl hi)).2.keep (keepsB hbl3 _)
          have HA2 := HA.keep (keepsB hbl2 _)
          go_wp2
          go_ret
          refine ⟨wr.heap.size, some ⟨w.heap.size, 0, none⟩, rows.length, some ⟨w0.heap.size, 0, none⟩, dn.length, done, rfl, by omega, by omega, Hm'.out, ?_, ?_, ?_, hbl3.alloc hbl3.size _⟩
          · exact Blk.new wr 93 (spCells _ _ _ _ _ _ _ _ _)
          · exact (HA2.mono (D' := Not2 bA wr.heap.size) fun b hb hl => ⟨hb, Nat.ne_of_lt hl⟩).keep (keeps_alloc _ _ _)
          · exact (HE.mono (D' := Not2 bA wr.heap.size) fun b hb hl => ⟨hb, Nat.ne_of_lt hl⟩).keep (keeps_alloc _ _ _)
end Go.Proofs.Qxb6604686a
