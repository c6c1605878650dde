import Derived.Test.Qxb6604686aW3
namespace Go.Proofs.Qxb6604686a
open Go.ChangeShapes Go.WideShapes Go.ChangeAt Go.RowKit
set_option linter.unusedVariables false

theorem make43 (n : Nat) (hn : n ≤ 1048576) (w : World) : (Instr.makeSlice 43 (.int .i64 (n : Int)) (.int .i64 (n : Int))).run Try.prog w = .ok (.slice (some ⟨w.heap.size, 0, none⟩) n n) (w.alloc (.cells (List.replicate n (.slice none 0 0)).toArray 74)) :=
  make_any w 43 74 (.slice none 0 0) 24 Try.underlying43 (by kernel_rfl) rfl (by decide) n hn
theorem make74 (n : Nat) (hn : n ≤ 1048576) (w : World) : (Instr.makeSlice 74 (.int .i64 (n : Int)) (.int .i64 (n : Int))).run Try.prog w = .ok (.slice (some ⟨w.heap.size, 0, none⟩) n n) (w.alloc (.cells ((List.replicate n [.int .i64 0, .slice none 0 0, .slice none 0 0]).flatten).toArray 76)) :=
  make_many w 74 76 [.int .i64 0, .slice none 0 0, .slice none 0 0] 56 Try.underlying74 (by kernel_rfl) (by decide) (by decide) n hn

def Rule.cells (x : Rule) : List Value := [.int .i64 x.admin, x.req.val, x.forb.val]
theorem Rule.cells_len (x : Rule) : x.cells.length = 3 := rfl
/-- What a rule says, memory apart. -/
def Rule.data (x : Rule) : Int × List Nat × List Nat := (x.admin, x.req.xs, x.forb.xs)
def LRow.data (x : LRow) : List (Int × List Nat × List Nat) := x.xs.map Rule.data
theorem Blk.ls {w : World} {g : Nat} {e : TypeId} {xs : List Rule} (h : Blk w g e (xs.flatMap Rule.cells)) {D : Nat → Prop} (hD : D g) (hi : ∀ r ∈ xs, Ws D w r.req.a r.req.xs ∧ Ws D w r.forb.a r.forb.xs) : Ls D w (some ⟨g, 0, none⟩) xs := fun i r hr =>
  ⟨⟨g, 0, rfl, hD, by
    have := flatMap_get Rule.cells 3 Rule.cells_len xs i r 0 hr (by decide)
    rw [h.cell, Nat.zero_add]; exact this, by
    have := flatMap_get Rule.cells 3 Rule.cells_len xs i r 1 hr (by decide)
    rw [h.cell, Nat.zero_add]; exact this, by
    have := flatMap_get Rule.cells 3 Rule.cells_len xs i r 2 hr (by decide)
    rw [h.cell, Nat.zero_add]; exact this⟩, hi r (List.mem_of_getElem? hr)⟩
theorem Blk.as {w : World} {g : Nat} {e : TypeId} {rows : List LRow} (h : Blk w g e (rows.map LRow.val)) {D : Nat → Prop} (hD : D g) (hi : ∀ r ∈ rows, Ls D w r.a r.xs) : As D w (some ⟨g, 0, none⟩) rows := fun i r hr =>
  ⟨⟨g, 0, rfl, hD, by rw [h.cell]; simp [hr]⟩, hi r (List.mem_of_getElem? hr)⟩
theorem Ws.drew {D : Nat → Prop} {w : World} {a : Option Addr} {xs : List Nat} (h : Ws D w a xs) : Ws D w.drew a xs := h
theorem Ls.drew {D : Nat → Prop} {w : World} {a : Option Addr} {xs : List Rule} (h : Ls D w a xs) : Ls D w.drew a xs := h

theorem part_skip {α : Type} (f : α → Value) (z : Value) (done : List α) {n : Nat} (h : done.length < n) (x : α) (hx : f x = z) : part f z (done ++ [x]) n = part f z done n := by
  rw [← part_set f z done h x, hx]
  obtain ⟨hi, e⟩ := List.getElem?_eq_some_iff.1 (part_at f z done h)
  have h2 := List.set_getElem_self hi
  rw [e] at h2
  exact h2

set_option maxHeartbeats 4000000 in
theorem copyAssign_any (a : Option Addr) (cap : Nat) (rows : List LRow) (w : World) (h : As Any w a rows) (hn : rows.length ≤ 131072) (hi : ∀ r ∈ rows, r.xs.length ≤ 131072 ∧ ∀ x ∈ r.xs, x.req.xs.length ≤ 131072 ∧ x.forb.xs.length ≤ 131072) :
    Calls Try.prog 24 #[.slice a rows.length cap] w fun e w' => ∃ a' cap' rows', e = .returned (.slice a' rows.length cap') ∧ rows'.map LRow.data = rows.map LRow.data ∧ As (From w.heap.size) w' a' rows' ∧ Below w.heap.size w w' := by
  have heq := fun (w : World) (a : Option Addr) (n c : Nat) => Lib.run_eql_slice_nil (P := Try.prog) w 43 74 a n c 0 0 Try.underlying43
  have heq2 := fun (w : World) (a : Option Addr) (n c : Nat) => Lib.run_eql_slice_nil (P := Try.prog) w 74 76 a n c 0 0 Try.underlying74
  have hmk := make43 rows.length (by omega)
  cases a with
  | none =>
    obtain rfl := h.nil
    go_enter Try.func24, Try.ntmps24
    go_wp2
    go_ret
    exact ⟨none, 0, [], rfl, rfl, fun i x hx => by simp at hx, Below.refl _ _⟩
  | some ad =>
    go_enter Try.func24, Try.ntmps24
    go_wp2
    go_loopg [4] rows.length (fun g i wr => ∃ done : List LRow, done.length + g = rows.length ∧ i = .int .i64 done.length ∧ done.map LRow.data = (rows.take done.length).map LRow.data ∧ Blk wr w.heap.size 74 (part LRow.val (.slice none 0 0) done rows.length) ∧ (∀ r ∈ done, Ls (From (w.heap.size + 1)) wr r.a r.xs) ∧ Below w.heap.size w wr)
    case atStart =>
      refine ⟨[], by simp, rfl, rfl, ?_, fun r hr => by simp at hr, (Below.refl _ _).alloc (Nat.le_refl _) _⟩
      rw [part_zero]; simpa using Blk.new w 74 (List.replicate rows.length (.slice none 0 0))
    case round =>
      obtain ⟨done, hk, rfl, hm, hb, hd, hbl⟩ := hrel
      have Hm : Hid (done.map LRow.data = (rows.take done.length).map LRow.data) := hm
      clear hm
      by_cases hlt : done.length < rows.length
      · obtain ⟨⟨b, off, ha, _, hc⟩, hls⟩ := (h.keep (keepsB hbl Any)) done.length rows[done.length] (List.getElem?_eq_getElem hlt)
        obtain rfl := Option.some.inj ha
        have hil := hi rows[done.length] (List.getElem_mem hlt)
        have hlt' : (done.length : Int) < (rows.length : Int) := by omega
        have h0' : (0 : Int) ≤ (done.length : Int) := by omega
        have HG : Hid (rows[done.length]? = some rows[done.length]) := List.getElem?_eq_getElem hlt
        have hbw : b < w.heap.size := by
          obtain ⟨⟨b', off', ha', _, hc'⟩, _⟩ := h done.length rows[done.length] (List.getElem?_eq_getElem hlt)
          cases ha'; exact cell_lt hc'
        generalize rows[done.length] = r at *
        obtain ⟨ra, rcap, rxs⟩ := r
        unfold LRow.val at hc
        have hmk2 := make74 rxs.length (by have := hil.1; simp at this; omega)
        dsimp only at hc hls hil
        obtain ⟨hil1, hil2⟩ := hil
        cases ra with
        | none =>
          obtain rfl := hls.nil
          have HB : Hid (Blk wr w.heap.size 74 (part LRow.val (.slice none 0 0) (done ++ [⟨none, 0, []⟩]) rows.length)) := by
            have e := part_skip LRow.val (.slice none 0 0) done hlt ⟨none, 0, []⟩ rfl
            show Blk _ _ _ _
            rw [e]; exact hb
          go_wp2
          go_roundg (gk - 1)
          case measure => omega
          case rel =>
            refine ⟨done ++ [⟨none, 0, []⟩], by simp; omega, by rw [List.length_append]; go_num, ?_, HB.out, ?_, hbl⟩
            · rw [List.map_append, Hm.out, List.length_append, List.length_singleton, List.take_add_one, HG.out]; simp [LRow.data]
            · intro q hq
              rcases List.mem_append.1 hq with hq | hq
              · exact hd q hq
              · obtain rfl := List.mem_singleton.1 hq
                intro i x hx; simp at hx
        | some rd =>
          go_wp2
          generalize wr = w0 at *
          generalize gk = g0 at *
          go_loopg [6] rxs.length (fun g i wr => ∃ dn : List Rule, dn.length + g = rxs.length ∧ i = .int .i64 dn.length ∧ dn.map Rule.data = (rxs.take dn.length).map Rule.data ∧ Blk wr w0.heap.size 76 (partS Rule.cells [.int .i64 0, .slice none 0 0, .slice none 0 0] dn rxs.length) ∧ (∀ r ∈ dn, Ws (From (w0.heap.size + 1)) wr r.req.a r.req.xs ∧ Ws (From (w0.heap.size + 1)) wr r.forb.a r.forb.xs) ∧ Below w0.heap.size w0 wr)
          case atStart =>
            refine ⟨[], by simp, rfl, rfl, ?_, fun r hr => by simp at hr, (Below.refl _ _).alloc (Nat.le_refl _) _⟩
            rw [partS_zero]; exact Blk.new w0 76 _
          case round =>
            obtain ⟨dn, hk2, rfl, hm2, hb2, hd2, hbl2⟩ := hrel
            have Hm2 : Hid (dn.map Rule.data = (rxs.take dn.length).map Rule.data) := hm2
            clear hm2
            have hcr := (keepsB hbl2 Any).cell (p := ⟨b, off + done.length, none⟩) trivial hc
            by_cases hlt2 : dn.length < rxs.length
            · obtain ⟨⟨b2, off2, ha2, _, hc0, hc1, hc2⟩, hreq, hforb⟩ := (hls.keep (keepsB hbl2 Any)) dn.length rxs[dn.length] (List.getElem?_eq_getElem hlt2)
              obtain rfl := Option.some.inj ha2
              have hb2w : b2 < w0.heap.size := by
                obtain ⟨⟨b', off', ha', _, hc', _⟩, _⟩ := hls dn.length rxs[dn.length] (List.getElem?_eq_getElem hlt2)
                cases ha'; exact cell_lt hc'
              have hbw0 : b < w0.heap.size := cell_lt hc
              have hne1 : w0.heap.size ≠ b := by omega
              have hne2 : w0.heap.size ≠ b2 := by omega
              obtain ⟨hlr, hlf⟩ := hil2 rxs[dn.length] (List.getElem_mem hlt2)
              have hlt2' : (dn.length : Int) < (rxs.length : Int) := by omega
              have h02' : (0 : Int) ≤ (dn.length : Int) := by omega
              have HG2 : Hid (rxs[dn.length]? = some rxs[dn.length]) := List.getElem?_eq_getElem hlt2
              generalize rxs[dn.length] = r at *
              unfold WRow.val at hc1 hc2
              go_wp2_with fail
              go_region_held3 (fun w' => w'.cell? ⟨b, off + done.length, none⟩ = some (.slice (some ⟨b2, off2, none⟩) rxs.length rcap) ∧ w'.cell? ⟨b2, off2 + dn.length * 3, none⟩ = some (.int .i64 r.admin) ∧ w'.cell? ⟨b2, off2 + dn.length * 3 + 1, none⟩ = some (.slice r.req.a r.req.xs.length r.req.cap) ∧ w'.cell? ⟨b2, off2 + dn.length * 3 + 2, none⟩ = some (.slice r.forb.a r.forb.xs.length r.forb.cap)) (go_keep)
                (first
                 | (go_at_call_of 22 (Value.slice r.req.a r.req.xs.length r.req.cap); refine (copyWords_any r.req.a r.req.cap r.req.xs _ ?_ hlr).mono ?_; exact hreq; rintro e w1 ⟨a1, cap1, rfl, _, hi1, hbl1⟩;
                    have hcr1 := (keepsB hbl1 Any).cell (p := ⟨b, off + done.length, none⟩) trivial hcr;
                    have hc01 := (keepsB hbl1 Any).cell (p := ⟨b2, off2 + dn.length * 3, none⟩) trivial hc0;
                    have hc11 := (keepsB hbl1 Any).cell (p := ⟨b2, off2 + dn.length * 3 + 1, none⟩) trivial hc1;
                    have hc21 := (keepsB hbl1 Any).cell (p := ⟨b2, off2 + dn.length * 3 + 2, none⟩) trivial hc2)
                 | (go_at_call_of 22 (Value.slice r.forb.a r.forb.xs.length r.forb.cap); refine (copyWords_any r.forb.a r.forb.cap r.forb.xs _ ?_ hlf).mono ?_; exact hforb.keep (keepsB hbl1 Any); rintro e w2 ⟨a2, cap2, rfl, _, hi2, hbl3⟩;
                    have hcr2 := (keepsB hbl3 Any).cell (p := ⟨b, off + done.length, none⟩) trivial hcr1;
                    have hc02 := (keepsB hbl3 Any).cell (p := ⟨b2, off2 + dn.length * 3, none⟩) trivial hc01;
                    have hc12 := (keepsB hbl3 Any).cell (p := ⟨b2, off2 + dn.length * 3 + 1, none⟩) trivial hc11;
                    have hc22 := (keepsB hbl3 Any).cell (p := ⟨b2, off2 + dn.length * 3 + 2, none⟩) trivial hc21;
                    have hb' := (hb2.drew.below hbl1 hb2.lt).below hbl3 (Nat.lt_of_lt_of_le hb2.lt hbl1.size);
                    have hf0 := hb'.frozen (dn.length * 3);
                    have hf1 := hb'.frozen (dn.length * 3 + 1);
                    have hf2 := hb'.frozen (dn.length * 3 + 2);
                    have hs0 := (hb'.cell (dn.length * 3)).trans (partS_get Rule.cells _ 3 Rule.cells_len rfl dn hlt2 0 (by decide));
                    have hs1 := (hb'.cell (dn.length * 3 + 1)).trans (partS_get Rule.cells _ 3 Rule.cells_len rfl dn hlt2 1 (by decide));
                    have hs2 := (hb'.cell (dn.length * 3 + 2)).trans (partS_get Rule.cells _ 3 Rule.cells_len rfl dn hlt2 2 (by decide))))
              have HB : Hid (Blk (((w2.setCell ⟨w0.heap.size, dn.length * 3, none⟩ (.int .i64 r.admin)).setCell ⟨w0.heap.size, dn.length * 3 + 1, none⟩ (.slice a1 r.req.xs.length cap1)).setCell ⟨w0.heap.size, dn.length * 3 + 2, none⟩ (.slice a2 r.forb.xs.length cap2)) w0.heap.size 76 (partS Rule.cells [.int .i64 0, .slice none 0 0, .slice none 0 0] (dn ++ [⟨r.admin, ⟨a1, cap1, r.req.xs⟩, ⟨a2, cap2, r.forb.xs⟩⟩]) rxs.length)) := hb'.set3 Rule.cells_len hlt2 ⟨r.admin, ⟨a1, cap1, r.req.xs⟩, ⟨a2, cap2, r.forb.xs⟩⟩ rfl
              go_wp2
              go_roundg (gk - 1)
              case measure => omega
              case rel =>
                refine ⟨dn ++ [⟨r.admin, ⟨a1, cap1, r.req.xs⟩, ⟨a2, cap2, r.forb.xs⟩⟩], by simp; omega, by rw [List.length_append]; go_num, ?_, HB.out, ?_, ?_⟩
                · rw [List.map_append, Hm2.out, List.length_append, List.length_singleton, List.take_add_one, HG2.out]; simp [Rule.data]
                · intro q hq
                  have hsz : w0.heap.size + 1 ≤ w1.heap.size := Nat.le_trans hb2.lt hbl1.size
                  rcases List.mem_append.1 hq with hq | hq
                  · obtain ⟨hq1, hq2⟩ := hd2 q hq
                    exact ⟨((((hq1.drew.keep (keepsB hbl1 _)).keep (keepsB hbl3 _)).keep (keeps_setF _ _ _ _)).keep (keeps_setF _ _ _ _)).keep (keeps_setF _ _ _ _), ((((hq2.drew.keep (keepsB hbl1 _)).keep (keepsB hbl3 _)).keep (keeps_setF _ _ _ _)).keep (keeps_setF _ _ _ _)).keep (keeps_setF _ _ _ _)⟩
                  · obtain rfl := List.mem_singleton.1 hq
                    exact ⟨((((hi1.mono (D' := From (w0.heap.size + 1)) fun b hb3 _ => Nat.le_trans hb2.lt hb3).keep (keepsB hbl3 _)).keep (keeps_setF _ _ _ _)).keep (keeps_setF _ _ _ _)).keep (keeps_setF _ _ _ _), (((hi2.mono (D' := From (w0.heap.size + 1)) fun b hb3 _ => Nat.le_trans hsz hb3).keep (keeps_setF _ _ _ _)).keep (keeps_setF _ _ _ _)).keep (keeps_setF _ _ _ _)⟩
                · exact ((((hbl2.drew.trans (hbl1.mono hbl2.size)).trans (hbl3.mono (Nat.le_trans hbl2.size hbl1.size))).setCell (Nat.le_refl _) _).setCell (Nat.le_refl _) _).setCell (Nat.le_refl _) _
            · have hb0 := hb.below hbl2 hb.lt
              have hf := hb0.frozen done.length
              have hs := (hb0.cell done.length).trans (part_at LRow.val _ done hlt)
              have HB : Hid (Blk (wr.setCell ⟨w.heap.size, done.length, none⟩ (.slice (some ⟨w0.heap.size, 0, none⟩) rxs.length rxs.length)) w.heap.size 74 (part LRow.val (.slice none 0 0) (done ++ [⟨some ⟨w0.heap.size, 0, none⟩, rxs.length, dn⟩]) rows.length)) := by
                have hl : dn.length = rxs.length := by omega
                have := hb0.set done.length (LRow.val ⟨some ⟨w0.heap.size, 0, none⟩, rxs.length, dn⟩)
                rw [part_set _ _ _ hlt] at this
                unfold LRow.val at this
                dsimp only at this
                rw [hl] at this
                exact this
              go_wp2
              go_roundg (g0 - 1)
              case measure => omega
              case rel =>
                refine ⟨done ++ [⟨some ⟨w0.heap.size, 0, none⟩, rxs.length, dn⟩], by simp; omega, by rw [List.length_append]; go_num, ?_, HB.out, ?_, ?_⟩
                · rw [List.map_append, Hm.out, List.length_append, List.length_singleton, List.take_add_one, HG.out]
                  simp [LRow.data, Hm2.out, List.take_of_length_le (Nat.le_of_not_lt hlt2)]
                · intro q hq
                  rcases List.mem_append.1 hq with hq | hq
                  · exact ((hd q hq).keep (keepsB hbl2 _)).keep (keeps_setF _ _ _ _)
                  · obtain rfl := List.mem_singleton.1 hq
                    rw [partS_all _ _ _ (by omega)] at hb2
                    refine (Blk.ls (D := From (w.heap.size + 1)) hb2 hb.lt fun r hr => ?_).keep (keeps_setF _ _ _ _)
                    obtain ⟨h1, h2⟩ := hd2 r hr
                    exact ⟨h1.mono fun b h3 _ => Nat.le_trans hb.lt (Nat.le_of_succ_le h3), h2.mono fun b h3 _ => Nat.le_trans hb.lt (Nat.le_of_succ_le h3)⟩
                · exact (hbl.trans (hbl2.mono hbl.size)).setCell (Nat.le_refl _) _
      · go_wp2
        go_ret
        refine ⟨some ⟨w.heap.size, 0, none⟩, rows.length, done, rfl, ?_, ?_, hbl⟩
        · rw [Hm.out, List.take_of_length_le (by omega)]
        · rw [part_all _ _ _ (by omega)] at hb
          exact hb.as (Nat.le_refl _) fun r hr => (hd r hr).mono fun b hb _ => Nat.le_of_succ_le hb
end Go.Proofs.Qxb6604686a
