import Derived.Test.Qxb6604686aW5
import Derived.Deep.AppendLies
namespace Go.Proofs.Qxb6604686a
open Go.ChangeShapes Go.WideShapes Go.ChangeAt Go.RowKit
set_option linter.unusedVariables false

/-! ### A row of numbers that the call itself appends to -/
def OwnI (w : World) (base : Nat) (r : IRow) : Prop := w.ownsRow base 3 1 r.val r.xs.length (r.xs.map (Value.int .i64))
theorem OwnI.nil (w : World) (base : Nat) : OwnI w base ⟨none, 0, []⟩ := World.ownsRow_nil w base 3 1
theorem OwnI.alloc {w : World} {base : Nat} {r : IRow} (h : OwnI w base r) (o : Obj) : OwnI (w.alloc o) base r := World.ownsRow.alloc h o
theorem OwnI.drew {w : World} {base : Nat} {r : IRow} (h : OwnI w base r) : OwnI w.drew base r := h
theorem OwnI.below {w : World} {base : Nat} {r : IRow} (h : OwnI w base r) {a : Addr} (ha : a.block < base) (u : Value) : OwnI (w.setCell a u) base r := ownsRow_setCell_below h ha u
theorem OwnI.lt {w : World} {base : Nat} {r : IRow} (h : OwnI w base r) : ∀ k, r.val.ownBlock = some k → base ≤ k ∧ k < w.heap.size := World.ownsRow.lt h
theorem OwnI.kept {w w' : World} {base : Nat} {r : IRow} {row : Option Nat} (h : OwnI w base r) (hg : w.grownBy w' row) (hne : r.val.ownBlock = none ∨ r.val.ownBlock ≠ row) : OwnI w' base r := World.ownsRow.kept h hg hne
theorem OwnI.is {w : World} {base : Nat} {r : IRow} (h : OwnI w base r) : Is (From base) w r.a r.xs := by
  intro i x hx
  have hlt : i < r.xs.length := (List.getElem?_eq_some_iff.1 hx).1
  obtain ⟨g, cap, hv, hb, _⟩ := World.ownsRow.form h (by omega)
  have h' := h
  unfold OwnI at h'
  rw [hv] at h'
  have hc := World.ownsRow.cellAt h' i (by omega)
  unfold IRow.val at hv
  simp only [Value.slice.injEq] at hv
  exact ⟨g, 0, hv.1, hb, by rw [Nat.zero_add, hc]; simp [hx]⟩
theorem OwnI.keep {w w' : World} {base : Nat} {r : IRow} (h : OwnI w base r) {D : Nat → Prop} (k : Keeps D w w') (hD : ∀ b, base ≤ b → D b) : OwnI w' base r := by
  obtain ⟨h1, h2⟩ := h
  refine ⟨h1, ?_⟩
  rcases h2 with h2 | ⟨g, cap, cur, hv, hb, hg, r'⟩
  · exact .inl h2
  · have hl : g < w.heap.size := by
      rcases Nat.lt_or_ge g w.heap.size with hlt | hge
      · exact hlt
      · rw [Array.getElem?_eq_none hge] at hg; cases hg
    exact .inr ⟨g, cap, cur, hv, hb, (k g (hD g hb) hl).trans hg, r'⟩

theorem info3 : (Try.prog.info? 3).map (fun i => (i.zero, i.size, i.bytes)) = some (some (.int .i64 0), 1, 8) := by kernel_rfl

theorem wpList_app45 {ops : Array Oper} {rest : List Oper} {o : Oper} {a : Act} {Q : Exit → Act → World → Prop} (w : World) (hgd : o.guard = none) (s x : Operand)
    (ho : o.op = .call { callee := .builtin .append, args := #[s, x], argTypes := #[45, 45] }) (base : Nat) (r : IRow) (hs : a.eval s = r.val) (hown : OwnI w base r)
    (ad : Addr) (u : Int) (hx : a.eval x = .slice (some ad) 1 1) (hn : w.cell? ad = some (.int .i64 u)) (hl : r.xs.length ≤ 1099511627776) (hbase : base ≤ w.heap.size)
    (h : ∀ (g cap : Nat) (w' : World), OwnI w' base ⟨some ⟨g, 0, none⟩, cap, r.xs ++ [u]⟩ → w.grownBy w' r.val.ownBlock → (r.val.ownBlock = some g ∨ g = w.heap.size) → g < w'.heap.size → wpList Try.prog ops Q rest (a.put o.dst (.slice (some ⟨g, 0, none⟩) (r.xs.length + 1) cap)) w') :
    wpList Try.prog ops Q (o :: rest) a w := by
  obtain ⟨i, hi, hr⟩ := Option.map_eq_some_iff.1 info3
  simp only [Prod.mk.injEq] at hr
  obtain ⟨hz, hsz, hby⟩ := hr
  refine wpList_append_lies w hgd s x 45 ho base 3 i (.int .i64 0) 1 8 Try.underlying45 hi hz hsz hby rfl (by decide) r.val r.xs.length _ hs hown ad 1 1 [.int .i64 u] hx rfl ?_ ?_ (by decide) (by unfold maxLen; omega) (by omega) hbase w.heap.size rfl ?_
  · intro j v hj
    cases j with
    | zero => simp only [List.getElem?_cons_zero, Option.some.injEq] at hj; subst hj; exact hn
    | succ j => simp at hj
  · intro v hv
    obtain rfl := List.mem_singleton.1 hv
    rfl
  · intro g cap w' h1 h2 h3 h4
    refine h g cap w' ?_ h2 h3 h4
    unfold OwnI IRow.val
    simpa using h1

set_option maxHeartbeats 2000000 in
theorem splitExclusions_any (a : Option Addr) (cap : Nat) (xs : List Excl) (w : World) (h : Es Any w a xs) (hn : xs.length ≤ 131072) :
    Calls Try.prog 28 #[.slice a xs.length cap] w fun e w' => ∃ a1 a2 c1 c2, e = .returned (.tuple #[.slice a1 xs.length c1, .slice a2 xs.length c2]) ∧
      Rs Any w' a1 (xs.map Excl.roles) ∧ Is Any w' a2 (xs.map Excl.limit) ∧ Below w.heap.size w w' := by
  have hmk1 := make42 xs.length (by omega)
  have hmk2 := make45 xs.length (by omega)
  go_enter Try.func28, Try.ntmps28
  go_wp2
  go_loopg [16] xs.length (fun g i wr => ∃ k : Nat, k + g = xs.length ∧ i = .int .i64 k ∧ Blk wr w.heap.size 45 (fill (fun r : Excl => r.roles.val) (.slice none 0 0) xs k) ∧ Blk wr (w.heap.size + 1) 3 (fill (fun r : Excl => .int .i64 r.limit) (.int .i64 0) xs k) ∧ Below w.heap.size w wr)
  case atStart =>
    refine ⟨0, by simp, rfl, ?_, ?_, ((Below.refl _ _).alloc (Nat.le_refl _) _).alloc (by simp) _⟩
    · rw [fill_zero]; exact (Blk.new' w 45 _ _).alloc _
    · rw [fill_zero]
      have := Blk.new' (w.alloc (.cells (Array.replicate xs.length (.slice none 0 0)) 45)) 3 xs.length (.int .i64 0)
      simpa using this
  case round =>
    obtain ⟨k, hk, rfl, hc1, hc2, hbl⟩ := hrel
    by_cases hlt : k < xs.length
    · obtain ⟨⟨b2, off2, ha2, _, q0, q1⟩, _⟩ := (h.keep (keepsB hbl Any)) k xs[k] (List.getElem?_eq_getElem hlt)
      subst ha2
      have hlt2' : (k : Int) < (xs.length : Int) := by omega
      have h02' : (0 : Int) ≤ (k : Int) := by omega
      have HG2 : Hid (xs[k]? = some xs[k]) := List.getElem?_eq_getElem hlt
      have hb2w : b2 < wr.heap.size := cell_lt q0
      have z1 := hc1.lt
      have z2 := hc2.lt
      have f1 := hc1.frozen k
      have f2 := hc2.frozen k
      have s1 := (hc1.cell k).trans (fill_at _ _ xs hlt)
      have s2 := (hc2.cell k).trans (fill_at _ _ xs hlt)
      generalize xs[k] = r at *
      unfold IRow.val at q0
      have B1 : Hid (∀ o, Blk (((wr.setCell ⟨w.heap.size, k, none⟩ (.slice r.roles.a r.roles.xs.length r.roles.cap)).setCell ⟨w.heap.size + 1, k, none⟩ (.int .i64 r.limit)).alloc o) w.heap.size 45 (fill (fun r : Excl => r.roles.val) (.slice none 0 0) xs (k + 1))) := fun o =>
        ((hc1.fillset HG2.out rfl).other (by simp) _).alloc o
      have B2 : Hid (∀ o, Blk (((wr.setCell ⟨w.heap.size, k, none⟩ (.slice r.roles.a r.roles.xs.length r.roles.cap)).setCell ⟨w.heap.size + 1, k, none⟩ (.int .i64 r.limit)).alloc o) (w.heap.size + 1) 3 (fill (fun r : Excl => .int .i64 r.limit) (.int .i64 0) xs (k + 1))) := fun o =>
        ((hc2.other (by simp) _).fillset HG2.out rfl).alloc o
      go_wp2
      go_roundg (gk - 1)
      case measure => omega
      case rel =>
        exact ⟨k + 1, by omega, by go_num, B1.out _, B2.out _, ((hbl.setCell (Nat.le_refl _) _).setCell (by simp) _).alloc (by simpa [World.setCell] using hbl.size) _⟩
    · rw [fill_all _ _ _ (by omega)] at hc1 hc2
      go_wp2
      go_ret2
      refine ⟨_, _, _, _, rfl, ?_, ?_, hbl⟩
      · refine Blk.rs (e := 45) ?_ trivial fun r hr => ?_
        · rw [List.map_map]; exact hc1
        · obtain ⟨x, hx, rfl⟩ := List.mem_map.1 hr
          obtain ⟨i, hi⟩ := List.getElem?_of_mem hx
          exact (h i x hi).2.keep (keepsB hbl _)
      · refine Blk.is (e := 3) ?_ trivial
        rw [List.map_map]; exact hc2

set_option maxHeartbeats 1000000 in
theorem orWords_any (a1 a2 : Option Addr) (c1 c2 : Nat) (xs ys : List Nat) (w : World) (h1 : Ws Any w a1 xs) (h2 : Ws Any w a2 ys) (hl : ys.length = xs.length) (hn : xs.length ≤ 131072) :
    Calls Try.prog 35 #[.slice a1 xs.length c1, .slice a2 xs.length c2] w fun e w' => ∃ a' cap', e = .returned (.slice a' xs.length cap') ∧ Ws (From w.heap.size) w' a' (List.zipWith (· ||| ·) xs ys) ∧ Below w.heap.size w w' := by
  have hmk := make41 xs.length (by omega)
  have Hl : Hid (ys.length = xs.length) := hl
  clear hl
  go_enter Try.func35, Try.ntmps35
  go_wp2
  go_loopg [6] xs.length (fun g i wr => ∃ k : Nat, k + g = xs.length ∧ i = .int .i64 k ∧ Blk wr w.heap.size 67 (fill (fun x : Nat => Value.int .u64 (x : Int)) (.int .u64 0) (List.zipWith (· ||| ·) xs ys) k) ∧ Below w.heap.size w wr)
  case atStart =>
    refine ⟨0, by omega, rfl, ?_, (Below.refl _ _).alloc (Nat.le_refl _) _⟩
    rw [fill_zero]
    have := Blk.new' w 67 xs.length (.int .u64 0)
    simpa [Hl.out] using this
  case round =>
    obtain ⟨k, hk, rfl, hb, hbl⟩ := hrel
    by_cases hlt : k < xs.length
    · have hlt2 : k < ys.length := by rw [Hl.out]; exact hlt
      obtain ⟨hw1, b, off, ha, _, hc⟩ := (h1.keep (keepsB hbl Any)) k xs[k] (List.getElem?_eq_getElem hlt)
      obtain ⟨hw2, b', off', ha', _, hc'⟩ := (h2.keep (keepsB hbl Any)) k ys[k] (List.getElem?_eq_getElem hlt2)
      have hbw : b < w.heap.size := by
        obtain ⟨_, b1, o1, e1, _, q⟩ := h1 k xs[k] (List.getElem?_eq_getElem hlt)
        rw [ha] at e1; cases e1; exact cell_lt q
      have hbw' : b' < w.heap.size := by
        obtain ⟨_, b1, o1, e1, _, q⟩ := h2 k ys[k] (List.getElem?_eq_getElem hlt2)
        rw [ha'] at e1; cases e1; exact cell_lt q
      subst ha ha'
      have hne1 : w.heap.size ≠ b := by omega
      have hne2 : w.heap.size ≠ b' := by omega
      have hfr := hb.frozen k
      have hz : k < (List.zipWith (· ||| ·) xs ys).length := by simp [Hl.out, hlt]
      have hcl := (hb.cell k).trans (fill_at _ _ _ hz)
      have hor : bits BinOp.or IntKind.u64 (xs[k] : Int) (ys[k] : Int) = ((xs[k] ||| ys[k] : Nat) : Int) := u64_or_nat _ _ hw1 hw2
      have hg : (List.zipWith (· ||| ·) xs ys)[k]? = some (xs[k] ||| ys[k]) := by
        rw [List.getElem?_zipWith, List.getElem?_eq_getElem hlt, List.getElem?_eq_getElem hlt2]
      have HB : Hid (Blk (wr.drew.setCell ⟨w.heap.size, k, none⟩ (.int .u64 (bits BinOp.or IntKind.u64 (xs[k] : Int) (ys[k] : Int)))) w.heap.size 67 (fill (fun x : Nat => Value.int .u64 (x : Int)) (.int .u64 0) (List.zipWith (· ||| ·) xs ys) (k + 1))) :=
        hb.drew.fillset hg (by rw [hor])
      have hlt' : (k : Int) < (xs.length : Int) := by omega
      have h0' : (0 : Int) ≤ (k : Int) := by omega
      clear hor hg hw1 hw2
      generalize xs[k] = x at *
      generalize ys[k] = y at *
      go_wp2_with fail
      go_region_held3 (fun w' => w'.cell? ⟨b, off + k, none⟩ = some (.int .u64 (x : Int)) ∧ w'.cell? ⟨b', off' + k, none⟩ = some (.int .u64 (y : Int))) (go_keep) (fail)
      go_wp2
      go_roundg (gk - 1)
      case measure => omega
      case rel => exact ⟨k + 1, by omega, by go_num, HB.out, hbl.drew.setCell (Nat.le_refl _) _⟩
    · go_wp2
      go_ret
      refine ⟨some ⟨w.heap.size, 0, none⟩, xs.length, rfl, ?_, hbl⟩
      rw [fill_all _ _ _ (by simp; omega)] at hb
      refine hb.ws (fun x hx => ?_) (Nat.le_refl _)
      obtain ⟨i, hi⟩ := List.getElem?_of_mem hx
      rw [List.getElem?_zipWith] at hi
      cases hx1 : xs[i]? with
      | none => simp [hx1] at hi
      | some p =>
        cases hy1 : ys[i]? with
        | none => simp [hx1, hy1] at hi
        | some q =>
          simp [hx1, hy1] at hi
          subst hi
          exact Nat.or_lt_two_pow (h1 i p hx1).1 (h2 i q hy1).1
end Go.Proofs.Qxb6604686a
