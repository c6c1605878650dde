import Derived.Test.Qxb6604686aRows
import Derived.Test.Qxb6604686aBase
import Derived.ProofKit
import Derived.Deep.LoopGhost
import Derived.Outline
namespace Go.Proofs.Qxb6604686a
open Go.ChangeShapes Go.WideShapes Go.ChangeAt Go.RowKit
set_option linter.unusedVariables false

/-! ### 'make' -/
theorem make_any (w : World) (t e : TypeId) (z : Value) (b : Nat) (ht : Try.prog.underlying t = some (.slice e)) (hf : (Try.prog.info? e).map (fun i => (i.zero, i.size, i.bytes)) = some (some z, 1, b)) (hz1 : z.cells = #[z]) (hb : b ≤ 64)
    (n : Nat) (hn : n ≤ 1048576) : (Instr.makeSlice t (.int .i64 (n : Int)) (.int .i64 (n : Int))).run Try.prog w = .ok (.slice (some ⟨w.heap.size, 0, none⟩) n n) (w.alloc (.cells (List.replicate n z).toArray e)) := by
  obtain ⟨i, hi, hr⟩ := Option.map_eq_some_iff.1 hf
  simp only [Prod.mk.injEq] at hr
  obtain ⟨hz, hs, rfl⟩ := hr
  have h1 : (i.bytes : Int) * (n : Int) ≤ 281474976710656 := by
    have : i.bytes * n ≤ 64 * 1048576 := Nat.mul_le_mul hb hn
    have h2 : ((i.bytes * n : Nat) : Int) ≤ 281474976710656 := by omega
    rwa [Int.natCast_mul] at h2
  have := run_make (P := Try.prog) w t e i z ht hi hz .i64 .i64 (n : Int) (n : Int) (by omega) (Int.le_refl _) h1 (by omega)
  rw [this, hz1, hs, Nat.mul_one, Int.toNat_natCast, made_one]
theorem make41 (n : Nat) (hn : n ≤ 1048576) (w : World) : (Instr.makeSlice 41 (.int .i64 (n : Int)) (.int .i64 (n : Int))).run Try.prog w = .ok (.slice (some ⟨w.heap.size, 0, none⟩) n n) (w.alloc (.cells (List.replicate n (.int .u64 0)).toArray 67)) :=
  make_any w 41 67 (.int .u64 0) 8 Try.underlying41 (by kernel_rfl) rfl (by decide) n hn
theorem make45 (n : Nat) (hn : n ≤ 1048576) (w : World) : (Instr.makeSlice 45 (.int .i64 (n : Int)) (.int .i64 (n : Int))).run Try.prog w = .ok (.slice (some ⟨w.heap.size, 0, none⟩) n n) (w.alloc (.cells (List.replicate n (.int .i64 0)).toArray 3)) :=
  make_any w 45 3 (.int .i64 0) 8 Try.underlying45 (by kernel_rfl) rfl (by decide) n hn
theorem make42 (n : Nat) (hn : n ≤ 1048576) (w : World) : (Instr.makeSlice 42 (.int .i64 (n : Int)) (.int .i64 (n : Int))).run Try.prog w = .ok (.slice (some ⟨w.heap.size, 0, none⟩) n n) (w.alloc (.cells (List.replicate n (.slice none 0 0)).toArray 45)) :=
  make_any w 42 45 (.slice none 0 0) 24 Try.underlying42 (by kernel_rfl) rfl (by decide) n hn

set_option maxHeartbeats 400000 in
theorem bitOf_any (a : Option Addr) (cap i : Nat) (xs : List Nat) (w : World) (h : Ws Any w a xs) (hi : i / 64 < xs.length) (hn : xs.length ≤ 131072) :
    Calls Try.prog 43 #[.slice a xs.length cap, .int .i64 (i : Int)] w fun e w' => e = .returned (.bool (bit xs i)) ∧ w' = w := by
  obtain ⟨hw, b, off, rfl, _, hc⟩ := h (i / 64) xs[i / 64] (List.getElem?_eq_getElem hi)
  have hbit : bit xs i = xs[i / 64].testBit (i % 64) := by simp [bit, List.getD, hi]
  have hf := bit_form (i % 64) hw
  have Hf : Hid (_ = _) := hf.trans hbit.symm
  clear hf hbit
  generalize xs[i / 64] = x at *
  have Hw : Hid (Word x) := hw
  clear hw
  go_enter Try.func43, Try.ntmps43
  go_wp2
  go_ret
  exact ⟨ret_bool Hf.out, rfl⟩
set_option maxHeartbeats 400000 in
theorem hasBit_any {D : Nat → Prop} (a : Option Addr) (cap i : Nat) (xs : List Nat) (w : World) (h : Ws D w a xs) (hi : i / 64 < xs.length) (hn : xs.length ≤ 131072) :
    Calls Try.prog 47 #[.slice a xs.length cap, .int .i64 (i : Int)] w fun e w' => e = .returned (.bool (bit xs i)) ∧ w' = w := by
  obtain ⟨hw, b, off, rfl, _, hc⟩ := h (i / 64) xs[i / 64] (List.getElem?_eq_getElem hi)
  have hbit : bit xs i = xs[i / 64].testBit (i % 64) := by simp [bit, List.getD, hi]
  have hf := bit_form (i % 64) hw
  have Hf : Hid (_ = _) := hf.trans hbit.symm
  clear hf hbit
  generalize xs[i / 64] = x at *
  have Hw : Hid (Word x) := hw
  clear hw
  go_enter Try.func47, Try.ntmps47
  go_wp2
  go_ret
  exact ⟨ret_bool Hf.out, rfl⟩

theorem Blk.ws {w : World} {g : Nat} {e : TypeId} {xs : List Nat} (h : Blk w g e (xs.map fun x : Nat => Value.int .u64 (x : Int))) (hw : ∀ x ∈ xs, Word x) {D : Nat → Prop} (hD : D g) : Ws D w (some ⟨g, 0, none⟩) xs := fun i x hx =>
  ⟨hw x (List.mem_of_getElem? hx), g, 0, rfl, hD, by rw [h.cell]; simp [hx]⟩
theorem Blk.is {w : World} {g : Nat} {e : TypeId} {xs : List Int} (h : Blk w g e (xs.map fun x : Int => Value.int .i64 x)) {D : Nat → Prop} (hD : D g) : Is D w (some ⟨g, 0, none⟩) xs := fun i x hx =>
  ⟨g, 0, rfl, hD, by rw [h.cell]; simp [hx]⟩
theorem Ws.word {D : Nat → Prop} {w : World} {a : Option Addr} {xs : List Nat} (h : Ws D w a xs) : ∀ x ∈ xs, Word x := fun x hx => by
  obtain ⟨i, hi⟩ := List.getElem?_of_mem hx
  exact (h i x hi).1

set_option maxHeartbeats 1000000 in
theorem copyWords_any (a : Option Addr) (cap : Nat) (xs : List Nat) (w : World) (h : Ws Any w a xs) (hn : xs.length ≤ 131072) :
    Calls Try.prog 22 #[.slice a xs.length cap] w fun e w' => ∃ a' cap', e = .returned (.slice a' xs.length cap') ∧ (a' = none ↔ a = none) ∧ Ws (From w.heap.size) w' a' xs ∧ Below w.heap.size w w' := by
  have heq := fun (w : World) (a : Option Addr) (n c : Nat) => Lib.run_eql_slice_nil (P := Try.prog) w 41 67 a n c 0 0 Try.underlying41
  have hmk := make41 xs.length (by omega)
  cases a with
  | none =>
    obtain rfl := h.nil
    go_enter Try.func22, Try.ntmps22
    go_wp2
    go_ret
    exact ⟨none, 0, rfl, by simp, fun i x hx => by simp at hx, Below.refl _ _⟩
  | some ad =>
    go_enter Try.func22, Try.ntmps22
    go_wp2
    go_loopg [4] xs.length (fun g i wr => ∃ k : Nat, k + g = xs.length ∧ i = .int .i64 k ∧ Blk wr w.heap.size 67 (fill (fun x : Nat => Value.int .u64 (x : Int)) (.int .u64 0) xs k) ∧ Below w.heap.size w wr)
    case atStart =>
      refine ⟨0, by omega, rfl, ?_, (Below.refl _ _).alloc (Nat.le_refl _) _⟩
      rw [fill_zero]; simpa using Blk.new w 67 (List.replicate xs.length (.int .u64 0))
    case round =>
      obtain ⟨k, hk, rfl, hb, hbl⟩ := hrel
      by_cases hlt : k < xs.length
      · obtain ⟨hw, b, off, ha, _, hc⟩ := (h.keep (keepsB hbl Any)) k xs[k] (List.getElem?_eq_getElem hlt)
        obtain rfl := Option.some.inj ha
        have hfr := hb.frozen k
        have hcl := (hb.cell k).trans (fill_at _ _ xs hlt)
        have HB : Hid (Blk (wr.setCell ⟨w.heap.size, k, none⟩ (.int .u64 (xs[k] : Int))) w.heap.size 67 (fill (fun x : Nat => Value.int .u64 (x : Int)) (.int .u64 0) xs (k + 1))) := by
          have := hb.set k (.int .u64 (xs[k] : Int))
          rw [fill_set (fun x : Nat => Value.int .u64 (x : Int)) _ xs (List.getElem?_eq_getElem hlt)] at this
          exact this
        have hlt' : (k : Int) < (xs.length : Int) := by omega
        generalize xs[k] = x at *
        go_wp2
        go_roundg (gk - 1)
        case measure => omega
        case rel => exact ⟨k + 1, by omega, by go_num, HB.out, hbl.setCell (Nat.le_refl _) _⟩
      · go_wp2
        go_ret
        refine ⟨some ⟨w.heap.size, 0, none⟩, xs.length, rfl, by simp, ?_, hbl⟩
        rw [fill_all _ _ _ (by omega)] at hb
        exact hb.ws h.word (Nat.le_refl _)
set_option maxHeartbeats 1000000 in
theorem copyInts_any (a : Option Addr) (cap : Nat) (xs : List Int) (w : World) (h : Is Any w a xs) (hn : xs.length ≤ 131072) :
    Calls Try.prog 26 #[.slice a xs.length cap] w fun e w' => ∃ a' cap', e = .returned (.slice a' xs.length cap') ∧ (a' = none ↔ a = none) ∧ Is (From w.heap.size) w' a' xs ∧ Below w.heap.size w w' := by
  have heq := fun (w : World) (a : Option Addr) (n c : Nat) => Lib.run_eql_slice_nil (P := Try.prog) w 45 3 a n c 0 0 Try.underlying45
  have hmk := make45 xs.length (by omega)
  cases a with
  | none =>
    obtain rfl := h.nil
    go_enter Try.func26, Try.ntmps26
    go_wp2
    go_ret
    exact ⟨none, 0, rfl, by simp, fun i x hx => by simp at hx, Below.refl _ _⟩
  | some ad =>
    go_enter Try.func26, Try.ntmps26
    go_wp2
    go_loopg [4] xs.length (fun g i wr => ∃ k : Nat, k + g = xs.length ∧ i = .int .i64 k ∧ Blk wr w.heap.size 3 (fill (fun x : Int => Value.int .i64 x) (.int .i64 0) xs k) ∧ Below w.heap.size w wr)
    case atStart =>
      refine ⟨0, by omega, rfl, ?_, (Below.refl _ _).alloc (Nat.le_refl _) _⟩
      rw [fill_zero]; simpa using Blk.new w 3 (List.replicate xs.length (.int .i64 0))
    case round =>
      obtain ⟨k, hk, rfl, hb, hbl⟩ := hrel
      by_cases hlt : k < xs.length
      · obtain ⟨b, off, ha, _, hc⟩ := (h.keep (keepsB hbl Any)) k xs[k] (List.getElem?_eq_getElem hlt)
        obtain rfl := Option.some.inj ha
        have hfr := hb.frozen k
        have hcl := (hb.cell k).trans (fill_at _ _ xs hlt)
        have HB : Hid (Blk (wr.setCell ⟨w.heap.size, k, none⟩ (.int .i64 xs[k])) w.heap.size 3 (fill (fun x : Int => Value.int .i64 x) (.int .i64 0) xs (k + 1))) := by
          have := hb.set k (.int .i64 xs[k])
          rw [fill_set (fun x : Int => Value.int .i64 x) _ xs (List.getElem?_eq_getElem hlt)] at this
          exact this
        have hlt' : (k : Int) < (xs.length : Int) := by omega
        generalize xs[k] = x at *
        go_wp2
        go_roundg (gk - 1)
        case measure => omega
        case rel => exact ⟨k + 1, by omega, by go_num, HB.out, hbl.setCell (Nat.le_refl _) _⟩
      · go_wp2
        go_ret
        refine ⟨some ⟨w.heap.size, 0, none⟩, xs.length, rfl, by simp, ?_, hbl⟩
        rw [fill_all _ _ _ (by omega)] at hb
        exact hb.is (Nat.le_refl _)
end Go.Proofs.Qxb6604686a
