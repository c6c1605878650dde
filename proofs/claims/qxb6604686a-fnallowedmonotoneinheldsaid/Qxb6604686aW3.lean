import Derived.Test.Qxb6604686aW2
import Derived.Deep.RegionHeld3
namespace Go.Proofs.Qxb6604686a
open Go.ChangeShapes Go.WideShapes Go.ChangeAt Go.RowKit
set_option linter.unusedVariables false

theorem make_many (w : World) (t e : TypeId) (zs : List Value) (b : Nat) (ht : Try.prog.underlying t = some (.slice e)) (hf : (Try.prog.info? e).map (fun i => (i.zero, i.size, i.bytes)) = some (some (.agg zs.toArray), zs.length, b)) (hz : 0 < zs.length) (hb : b ≤ 64)
    (n : Nat) (hn : n ≤ 1048576) : (Instr.makeSlice t (.int .i64 (n : Int)) (.int .i64 (n : Int))).run Try.prog w = .ok (.slice (some ⟨w.heap.size, 0, none⟩) n n) (w.alloc (.cells ((List.replicate n zs).flatten).toArray e)) := by
  obtain ⟨i, hi, hr⟩ := Option.map_eq_some_iff.1 hf
  simp only [Prod.mk.injEq] at hr
  obtain ⟨hz0, hs, rfl⟩ := hr
  have h1 : (i.bytes : Int) * (n : Int) ≤ 281474976710656 := by
    have : i.bytes * n ≤ 64 * 1048576 := Nat.mul_le_mul hb hn
    have h2 : ((i.bytes * n : Nat) : Int) ≤ 281474976710656 := by omega
    rwa [Int.natCast_mul] at h2
  have := run_make (P := Try.prog) w t e i _ ht hi hz0 .i64 .i64 (n : Int) (n : Int) (by omega) (Int.le_refl _) h1 (by omega)
  rw [this, hs, Int.toNat_natCast]
  show Result.ok _ (w.alloc (.cells (madeCells zs.toArray (n * zs.length)) e)) = _
  rw [made_many zs hz]
theorem make44 (n : Nat) (hn : n ≤ 1048576) (w : World) : (Instr.makeSlice 44 (.int .i64 (n : Int)) (.int .i64 (n : Int))).run Try.prog w = .ok (.slice (some ⟨w.heap.size, 0, none⟩) n n) (w.alloc (.cells ((List.replicate n [.slice none 0 0, .int .i64 0]).flatten).toArray 78)) :=
  make_many w 44 78 [.slice none 0 0, .int .i64 0] 32 Try.underlying44 (by kernel_rfl) (by decide) (by decide) n hn

def Excl.cells (x : Excl) : List Value := [x.roles.val, .int .i64 x.limit]
theorem Excl.cells_len (x : Excl) : x.cells.length = 2 := rfl
theorem Blk.es {w : World} {g : Nat} {e : TypeId} {xs : List Excl} (h : Blk w g e (xs.flatMap Excl.cells)) {D : Nat → Prop} (hD : D g) (hi : ∀ r ∈ xs, Is D w r.roles.a r.roles.xs) : Es D w (some ⟨g, 0, none⟩) xs := fun i r hr =>
  ⟨⟨g, 0, rfl, hD, by
    have := flatMap_get Excl.cells 2 Excl.cells_len xs i r 0 hr (by decide)
    rw [h.cell, Nat.zero_add]; exact this, by
    have := flatMap_get Excl.cells 2 Excl.cells_len xs i r 1 hr (by decide)
    rw [h.cell, Nat.zero_add]; exact this⟩, hi r (List.mem_of_getElem? hr)⟩
/-- What a constraint says, memory apart. -/
def Excl.data (x : Excl) : List Int × Int := (x.roles.xs, x.limit)

theorem Is.drew {D : Nat → Prop} {w : World} {a : Option Addr} {xs : List Int} (h : Is D w a xs) : Is D w.drew a xs := h

set_option maxHeartbeats 2000000 in
theorem copyExclusions_any (a : Option Addr) (cap : Nat) (xs : List Excl) (w : World) (h : Es Any w a xs) (hn : xs.length ≤ 131072) (hi : ∀ r ∈ xs, r.roles.xs.length ≤ 131072) :
    Calls Try.prog 25 #[.slice a xs.length cap] w fun e w' => ∃ a' cap' xs', e = .returned (.slice a' xs.length cap') ∧ xs'.map Excl.data = xs.map Excl.data ∧ Es (From w.heap.size) w' a' xs' ∧ Below w.heap.size w w' := by
  have heq := fun (w : World) (a : Option Addr) (n c : Nat) => Lib.run_eql_slice_nil (P := Try.prog) w 44 78 a n c 0 0 Try.underlying44
  have hmk := make44 xs.length (by omega)
  cases a with
  | none =>
    obtain rfl := h.nil
    go_enter Try.func25, Try.ntmps25
    go_wp2
    go_ret
    exact ⟨none, 0, [], rfl, rfl, fun i x hx => by simp at hx, Below.refl _ _⟩
  | some ad =>
    go_enter Try.func25, Try.ntmps25
    go_wp2
    go_loopg [4] xs.length (fun g i wr => ∃ done : List Excl, done.length + g = xs.length ∧ i = .int .i64 done.length ∧ done.map Excl.data = (xs.take done.length).map Excl.data ∧ Blk wr w.heap.size 78 (partS Excl.cells [.slice none 0 0, .int .i64 0] done xs.length) ∧ (∀ r ∈ done, Is (From (w.heap.size + 1)) wr r.roles.a r.roles.xs) ∧ Below w.heap.size w wr)
    case atStart =>
      refine ⟨[], by simp, rfl, rfl, ?_, fun r hr => by simp at hr, (Below.refl _ _).alloc (Nat.le_refl _) _⟩
      rw [partS_zero]; exact Blk.new w 78 _
    case round =>
      obtain ⟨done, hk, rfl, hm, hb, hd, hbl⟩ := hrel
      have Hm : Hid (done.map Excl.data = (xs.take done.length).map Excl.data) := hm
      clear hm
      by_cases hlt : done.length < xs.length
      · obtain ⟨⟨b, off, ha, _, hc0, hc1⟩, his⟩ := (h.keep (keepsB hbl Any)) done.length xs[done.length] (List.getElem?_eq_getElem hlt)
        obtain rfl := Option.some.inj ha
        have hbw : b < w.heap.size := by
          obtain ⟨⟨b', off', ha', _, hc', _⟩, _⟩ := h done.length xs[done.length] (List.getElem?_eq_getElem hlt)
          cases ha'; exact cell_lt hc'
        have hne : w.heap.size ≠ b := by omega
        have hil := hi xs[done.length] (List.getElem_mem hlt)
        have hlt' : (done.length : Int) < (xs.length : Int) := by omega
        have h0' : (0 : Int) ≤ (done.length : Int) := by omega
        have HG : Hid (xs[done.length]? = some xs[done.length]) := List.getElem?_eq_getElem hlt
        generalize xs[done.length] = r at *
        unfold IRow.val at hc0
        go_wp2_with fail
        go_region_held3 (fun w' => w'.cell? ⟨b, off + done.length * 2, none⟩ = some (.slice r.roles.a r.roles.xs.length r.roles.cap) ∧ w'.cell? ⟨b, off + done.length * 2 + 1, none⟩ = some (.int .i64 r.limit)) (go_keep)
          (first | (go_at_call 26; refine (copyInts_any r.roles.a r.roles.cap r.roles.xs _ ?_ hil).mono ?_; exact his; rintro e w1 ⟨a', cap', rfl, _, hi', hbl'⟩;
                    have hc0' := (keepsB hbl' Any).cell (p := ⟨b, off + done.length * 2, none⟩) trivial hc0;
                    have hc1' := (keepsB hbl' Any).cell (p := ⟨b, off + done.length * 2 + 1, none⟩) trivial hc1;
                    have hb' := hb.drew.below hbl' hb.lt;
                    have hf0 := hb'.frozen (done.length * 2);
                    have hf1 := hb'.frozen (done.length * 2 + 1);
                    have hs0 := (hb'.cell (done.length * 2)).trans (partS_get Excl.cells _ 2 Excl.cells_len rfl done hlt 0 (by decide));
                    have hs1 := (hb'.cell (done.length * 2 + 1)).trans (partS_get Excl.cells _ 2 Excl.cells_len rfl done hlt 1 (by decide))))
        have HB : Hid (Blk ((w1.setCell ⟨w.heap.size, done.length * 2, none⟩ (.slice a' r.roles.xs.length cap')).setCell ⟨w.heap.size, done.length * 2 + 1, none⟩ (.int .i64 r.limit)) w.heap.size 78 (partS Excl.cells [.slice none 0 0, .int .i64 0] (done ++ [⟨⟨a', cap', r.roles.xs⟩, r.limit⟩]) xs.length)) := hb'.set2 Excl.cells_len hlt ⟨⟨a', cap', r.roles.xs⟩, r.limit⟩ rfl
        go_wp2
        go_roundg (gk - 1)
        case measure => omega
        case rel =>
          refine ⟨done ++ [⟨⟨a', cap', r.roles.xs⟩, r.limit⟩], by simp; omega, by rw [List.length_append]; go_num, ?_, HB.out, ?_, ?_⟩
          · rw [List.map_append, Hm.out, List.length_append, List.length_singleton, List.take_add_one, HG.out]; simp [Excl.data]
          · intro q hq
            rcases List.mem_append.1 hq with hq | hq
            · exact (((hd q hq).drew.keep (keepsB hbl' _)).keep (keeps_setF _ _ _ _)).keep (keeps_setF _ _ _ _)
            · obtain rfl := List.mem_singleton.1 hq
              exact ((hi'.mono (D' := From (w.heap.size + 1)) fun b hb2 _ => Nat.le_trans hb.lt hb2).keep (keeps_setF _ _ _ _)).keep (keeps_setF _ _ _ _)
          · exact ((hbl.drew.trans (hbl'.mono hbl.size)).setCell (Nat.le_refl _) _).setCell (Nat.le_refl _) _
      · go_wp2
        go_ret
        refine ⟨some ⟨w.heap.size, 0, none⟩, xs.length, done, rfl, ?_, ?_, hbl⟩
        · rw [Hm.out, List.take_of_length_le (by omega)]
        · rw [partS_all _ _ _ (by omega)] at hb
          exact hb.es (Nat.le_refl _) fun r hr => (hd r hr).mono fun b hb _ => Nat.le_of_succ_le hb
end Go.Proofs.Qxb6604686a
