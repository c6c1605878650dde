import Derived.Test.Qxb6604686aW1
namespace Go.Proofs.Qxb6604686a
open Go.ChangeShapes Go.WideShapes Go.ChangeAt Go.RowKit
set_option linter.unusedVariables false

theorem Blk.rs {w : World} {g : Nat} {e : TypeId} {rows : List IRow} (h : Blk w g e (rows.map IRow.val)) {D : Nat → Prop} (hD : D g) (hi : ∀ r ∈ rows, Is D w r.a r.xs) : Rs D w (some ⟨g, 0, none⟩) rows := fun i r hr =>
  ⟨⟨g, 0, rfl, hD, by rw [h.cell]; simp [hr]⟩, hi r (List.mem_of_getElem? hr)⟩

theorem keeps_setF (w : World) (n off : Nat) (u : Value) : Keeps (From (n + 1)) w (w.setCell ⟨n, off, none⟩ u) := keeps_set w (fun h => Nat.lt_irrefl n h) u

/-- Rows made so far, then nil ones. -/
def part {α : Type} (f : α → Value) (z : Value) (done : List α) (n : Nat) : List Value := done.map f ++ List.replicate (n - done.length) z
theorem part_zero {α : Type} (f : α → Value) (z : Value) (n : Nat) : part f z [] n = List.replicate n z := by simp [part]
theorem part_all {α : Type} (f : α → Value) (z : Value) (done : List α) {n : Nat} (h : n ≤ done.length) : part f z done n = done.map f := by simp [part, Nat.sub_eq_zero_of_le h]
theorem part_at {α : Type} (f : α → Value) (z : Value) (done : List α) {n : Nat} (h : done.length < n) : (part f z done n)[done.length]? = some z := by
  unfold part
  rw [List.getElem?_append_right (by simp), List.length_map, Nat.sub_self, List.getElem?_replicate, if_pos (by omega)]
theorem part_set {α : Type} (f : α → Value) (z : Value) (done : List α) {n : Nat} (h : done.length < n) (x : α) : (part f z done n).set done.length (f x) = part f z (done ++ [x]) n := by
  have hr : n - done.length = (n - (done.length + 1)) + 1 := by omega
  unfold part
  rw [List.set_append_right _ _ (by simp), List.length_map, Nat.sub_self, hr, List.replicate_succ, List.set_cons_zero, List.map_append, List.append_assoc, List.length_append]
  rfl

set_option maxHeartbeats 1000000 in
theorem copyIntRows_any (a : Option Addr) (cap : Nat) (rows : List IRow) (w : World) (h : Rs Any w a rows) (hn : rows.length ≤ 131072) (hi : ∀ r ∈ rows, r.xs.length ≤ 131072) :
    Calls Try.prog 23 #[.slice a rows.length cap] w fun e w' => ∃ a' cap' rows', e = .returned (.slice a' rows.length cap') ∧ (a' = none ↔ a = none) ∧ rows'.map IRow.xs = rows.map IRow.xs ∧ Rs (From w.heap.size) w' a' rows' ∧ Below w.heap.size w w' := by
  have heq := fun (w : World) (a : Option Addr) (n c : Nat) => Lib.run_eql_slice_nil (P := Try.prog) w 42 45 a n c 0 0 Try.underlying42
  have hmk := make42 rows.length (by omega)
  cases a with
  | none =>
    obtain rfl := h.nil
    go_enter Try.func23, Try.ntmps23
    go_wp2
    go_ret
    exact ⟨none, 0, [], rfl, by simp, rfl, fun i x hx => by simp at hx, Below.refl _ _⟩
  | some ad =>
    go_enter Try.func23, Try.ntmps23
    go_wp2
    go_loopg [4] rows.length (fun g i wr => ∃ done : List IRow, done.length + g = rows.length ∧ i = .int .i64 done.length ∧ done.map IRow.xs = (rows.take done.length).map IRow.xs ∧ Blk wr w.heap.size 45 (part IRow.val (.slice none 0 0) done rows.length) ∧ (∀ r ∈ done, Is (From (w.heap.size + 1)) wr r.a r.xs) ∧ Below w.heap.size w wr)
    case atStart =>
      refine ⟨[], by simp, rfl, rfl, ?_, fun r hr => by simp at hr, (Below.refl _ _).alloc (Nat.le_refl _) _⟩
      rw [part_zero]; simpa using Blk.new w 45 (List.replicate rows.length (.slice none 0 0))
    case round =>
      obtain ⟨done, hk, rfl, hm, hb, hd, hbl⟩ := hrel
      have Hm : Hid (done.map IRow.xs = (rows.take done.length).map IRow.xs) := hm
      clear hm
      by_cases hlt : done.length < rows.length
      · obtain ⟨⟨b, off, ha, _, hc⟩, his⟩ := (h.keep (keepsB hbl Any)) done.length rows[done.length] (List.getElem?_eq_getElem hlt)
        obtain rfl := Option.some.inj ha
        have hil := hi rows[done.length] (List.getElem_mem hlt)
        have hlt' : (done.length : Int) < (rows.length : Int) := by omega
        have HG : Hid (rows[done.length]? = some rows[done.length]) := List.getElem?_eq_getElem hlt
        generalize rows[done.length] = r at *
        unfold IRow.val at hc
        go_wp2_with fail
        refine (copyInts_any r.a r.cap r.xs _ his hil).mono ?_
        rintro e w' ⟨a', cap', rfl, _, hi', hbl'⟩
        have hb' := hb.below hbl' hb.lt
        have hfr := hb'.frozen done.length
        have hcl := (hb'.cell done.length).trans (part_at IRow.val _ done hlt)
        have HB : Hid (Blk (w'.setCell ⟨w.heap.size, done.length, none⟩ (.slice a' r.xs.length cap')) w.heap.size 45 (part IRow.val (.slice none 0 0) (done ++ [⟨a', cap', r.xs⟩]) rows.length)) := by
          have := hb'.set done.length (IRow.val ⟨a', cap', r.xs⟩)
          rw [part_set _ _ _ hlt] at this
          exact this
        go_wp2
        go_roundg (gk - 1)
        case measure => omega
        case rel =>
          refine ⟨done ++ [⟨a', cap', r.xs⟩], by simp; omega, by rw [List.length_append]; go_num, ?_, HB.out, ?_, ?_⟩
          · rw [List.map_append, Hm.out, List.length_append, List.length_singleton, List.take_add_one, HG.out]; simp
          · intro q hq
            rcases List.mem_append.1 hq with hq | hq
            · exact ((hd q hq).keep (keepsB hbl' _)).keep (keeps_setF _ _ _ _)
            · obtain rfl := List.mem_singleton.1 hq
              exact (hi'.mono (D' := From (w.heap.size + 1)) fun b hb2 _ => Nat.le_trans hb.lt hb2).keep (keeps_setF _ _ _ _)
          · exact (hbl.trans (hbl'.mono hbl.size)).setCell (Nat.le_refl _) _
      · go_wp2
        go_ret
        refine ⟨some ⟨w.heap.size, 0, none⟩, rows.length, done, rfl, by simp, ?_, ?_, hbl⟩
        · rw [Hm.out, List.take_of_length_le (by omega)]
        · rw [part_all _ _ _ (by omega)] at hb
          exact hb.rs (Nat.le_refl _) fun r hr => (hd r hr).mono fun b hb _ => Nat.le_of_succ_le hb
end Go.Proofs.Qxb6604686a
