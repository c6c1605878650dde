/-
  The plain ground of the two laws on (*rbacSpace).allowed: how memory is read, what a store leaves alone, bits. No Go function in sight.
-/
import Derived.WalkKit
import Derived.Below
import Derived.WalkSpells
import Derived.Laws.OwnMore
import Derived.Laws.BitsAllLaws
namespace Go.Proofs.Qxb6604686a
open Go.RowKit
set_option linter.unusedVariables false

/-! ### Bits -/
def Word (x : Nat) : Prop := x < 2 ^ 64
/-- Bit i of a set of words. -/
def bit (ws : List Nat) (i : Nat) : Bool := (ws.getD (i / 64) 0).testBit (i % 64)

theorem bit_form {x : Nat} (k : Nat) (h : Word x) : (bits BinOp.and IntKind.u64 ((x : Int) / 2 ^ k) 1 == 1) = x.testBit k := by
  have e : ((x : Int) / 2 ^ k) = ((x / 2 ^ k : Nat) : Int) := by simp
  have hx : x < 18446744073709551616 := h
  have hlt : x / 2 ^ k < 18446744073709551616 := Nat.lt_of_le_of_lt (Nat.div_le_self _ _) hx
  have h1 := u64_and_nat (x / 2 ^ k) 1 hlt (by decide)
  rw [e, show (1 : Int) = ((1 : Nat) : Int) from rfl, h1, Nat.and_one_is_mod, Nat.testBit_eq_decide_div_mod_eq]
  rw [Bool.eq_iff_iff]; simp; omega

/-! ### Worlds -/
theorem cell_lt {w : World} {p : Addr} {v : Value} (h : w.cell? p = some v) : p.block < w.heap.size := by
  by_cases hb : p.block < w.heap.size
  · exact hb
  · have : w.heap[p.block]? = none := by simp; omega
    simp [World.cell?, this] at h

/-- The blocks of D are as they were. -/
def Keeps (D : Nat → Prop) (w w' : World) : Prop := ∀ b, D b → b < w.heap.size → w'.heap[b]? = w.heap[b]?
theorem Keeps.cell {D : Nat → Prop} {w w' : World} (k : Keeps D w w') {p : Addr} {v : Value} (hD : D p.block) (h : w.cell? p = some v) : w'.cell? p = some v :=
  (World.cell?_of_block (k p.block hD (cell_lt h))).trans h

theorem keepsB {w w' : World} (h : Below w.heap.size w w') (D : Nat → Prop) : Keeps D w w' := fun b _ hb => h.block b hb

theorem Keeps.refl (D : Nat → Prop) (w : World) : Keeps D w w := fun _ _ _ => rfl
theorem keeps_set {D : Nat → Prop} (w : World) {p : Addr} (hp : ¬ D p.block) (u : Value) : Keeps D w (w.setCell p u) := fun b hb _ => Below.heap_setCell _ _ _ _ (by rintro rfl; exact hp hb)
theorem keeps_alloc (D : Nat → Prop) (w : World) (o : Obj) : Keeps D w (w.alloc o) := fun b _ hl => Below.heap_alloc _ _ _ hl
/-- The blocks from n on. -/
def From (n b : Nat) : Prop := n ≤ b

/-- All that was there is as it was but for the blocks of S; the streams are as they were. -/
structure Kept (S : Nat → Prop) (w w' : World) : Prop where
  os : w'.os = w.os
  tape : w'.tape = w.tape
  output : w'.output = w.output
  size : w.heap.size ≤ w'.heap.size
  block : ∀ k, k < w.heap.size → ¬ S k → w'.heap[k]? = w.heap[k]?

theorem Kept.refl (S : Nat → Prop) (w : World) : Kept S w w := ⟨rfl, rfl, rfl, Nat.le_refl _, fun _ _ _ => rfl⟩
theorem Kept.trans {S : Nat → Prop} {a b c : World} (h : Kept S a b) (k : Kept S b c) : Kept S a c :=
  ⟨k.os.trans h.os, k.tape.trans h.tape, k.output.trans h.output, Nat.le_trans h.size k.size, fun i hi hS => (k.block i (Nat.lt_of_lt_of_le hi h.size) hS).trans (h.block i hi hS)⟩
theorem Kept.mono {S S' : Nat → Prop} {w w' : World} (h : Kept S w w') (hS : ∀ k, S k → S' k) : Kept S' w w' := ⟨h.os, h.tape, h.output, h.size, fun k hk n => h.block k hk fun s => n (hS k s)⟩
theorem Kept.of_below {S : Nat → Prop} {w w' : World} (h : Below w.heap.size w w') : Kept S w w' := ⟨h.os, h.tape, h.output, h.size, fun k hk _ => h.block k hk⟩
theorem Kept.below {S : Nat → Prop} {B : Nat} {w w' : World} (h : Kept S w w') (hB : B ≤ w.heap.size) (hS : ∀ k, k < B → ¬ S k) : Below B w w' :=
  ⟨h.os, h.tape, h.output, h.size, fun k hk => h.block k (Nat.lt_of_lt_of_le hk hB) (hS k hk)⟩
theorem Kept.drew {S : Nat → Prop} {a w : World} (h : Kept S a w) : Kept S a w.drew := ⟨h.os, h.tape, h.output, h.size, h.block⟩
theorem Kept.alloc {S : Nat → Prop} {a w : World} (h : Kept S a w) (o : Obj) : Kept S a (w.alloc o) :=
  h.trans ⟨rfl, rfl, rfl, by simp, fun k hk _ => Below.heap_alloc _ _ _ hk⟩
theorem Kept.setCell {S : Nat → Prop} {a w : World} (h : Kept S a w) {p : Addr} (hp : S p.block ∨ a.heap.size ≤ p.block) (u : Value) : Kept S a (w.setCell p u) :=
  ⟨h.os, h.tape, h.output, by simpa [World.setCell] using h.size, fun k hk hS => (Below.heap_setCell _ _ _ _ (by rintro rfl; rcases hp with hp | hp; exact hS hp; omega)).trans (h.block k hk hS)⟩
theorem Kept.keeps {S D : Nat → Prop} {w w' : World} (h : Kept S w w') (hD : ∀ b, D b → ¬ S b) : Keeps D w w' := fun b hb hl => h.block b hl (hD b hb)

/-! ### A block that is known whole -/
def Blk (w : World) (g : Nat) (e : TypeId) (xs : List Value) : Prop := w.heap[g]? = some (.cells xs.toArray e (0, 0))

theorem Blk.lt {w : World} {g : Nat} {e : TypeId} {xs : List Value} (h : Blk w g e xs) : g < w.heap.size := by
  by_cases hb : g < w.heap.size
  · exact hb
  · have : w.heap[g]? = none := by simp; omega
    simp [Blk, this] at h
theorem Blk.cell {w : World} {g : Nat} {e : TypeId} {xs : List Value} (h : Blk w g e xs) (j : Nat) : w.cell? ⟨g, j, none⟩ = xs[j]? := by
  rw [cell_of_row w g j _ e (0, 0) h]; simp
theorem Blk.frozen {w : World} {g : Nat} {e : TypeId} {xs : List Value} (h : Blk w g e xs) (j : Nat) : w.frozen? ⟨g, j, none⟩ = false := frozen_of_row w g j _ e h
theorem Blk.set {w : World} {g : Nat} {e : TypeId} {xs : List Value} (h : Blk w g e xs) (j : Nat) (u : Value) : Blk (w.setCell ⟨g, j, none⟩ u) g e (xs.set j u) := by
  have := heap_setCell_same w g j xs.toArray e u h
  unfold Blk; rw [this]; simp
theorem Blk.other {w : World} {g : Nat} {e : TypeId} {xs : List Value} (h : Blk w g e xs) {p : Addr} (hp : g ≠ p.block) (u : Value) : Blk (w.setCell p u) g e xs :=
  (Below.heap_setCell _ _ _ _ hp).trans h
theorem Blk.alloc {w : World} {g : Nat} {e : TypeId} {xs : List Value} (h : Blk w g e xs) (o : Obj) : Blk (w.alloc o) g e xs := (Below.heap_alloc _ _ _ h.lt).trans h
theorem Blk.drew {w : World} {g : Nat} {e : TypeId} {xs : List Value} (h : Blk w g e xs) : Blk w.drew g e xs := h
theorem Blk.keep {w w' : World} {g : Nat} {e : TypeId} {xs : List Value} (h : Blk w g e xs) {D : Nat → Prop} (k : Keeps D w w') (hD : D g) : Blk w' g e xs := (k g hD h.lt).trans h
theorem Blk.below {w w' : World} {g : Nat} {e : TypeId} {xs : List Value} (h : Blk w g e xs) {B : Nat} (k : Below B w w') (hg : g < B) : Blk w' g e xs := (k.block g hg).trans h
theorem Blk.new (w : World) (e : TypeId) (xs : List Value) : Blk (w.alloc (.cells xs.toArray e)) w.heap.size e xs := heap_alloc_new w _

/-! ### Slices that are read -/
def Ws (D : Nat → Prop) (w : World) (a : Option Addr) (xs : List Nat) : Prop :=
  ∀ i x, xs[i]? = some x → Word x ∧ ∃ b off, a = some ⟨b, off, none⟩ ∧ D b ∧ w.cell? ⟨b, off + i, none⟩ = some (.int .u64 (x : Int))
def Is (D : Nat → Prop) (w : World) (a : Option Addr) (xs : List Int) : Prop :=
  ∀ i x, xs[i]? = some x → ∃ b off, a = some ⟨b, off, none⟩ ∧ D b ∧ w.cell? ⟨b, off + i, none⟩ = some (.int .i64 x)

theorem Ws.keep {D : Nat → Prop} {w w' : World} {a : Option Addr} {xs : List Nat} (h : Ws D w a xs) (k : Keeps D w w') : Ws D w' a xs := fun i x hx =>
  let ⟨hw, b, off, ha, hb, hc⟩ := h i x hx
  ⟨hw, b, off, ha, hb, k.cell hb hc⟩
theorem Is.keep {D : Nat → Prop} {w w' : World} {a : Option Addr} {xs : List Int} (h : Is D w a xs) (k : Keeps D w w') : Is D w' a xs := fun i x hx =>
  let ⟨b, off, ha, hb, hc⟩ := h i x hx
  ⟨b, off, ha, hb, k.cell hb hc⟩
theorem Ws.mono {D D' : Nat → Prop} {w : World} {a : Option Addr} {xs : List Nat} (h : Ws D w a xs) (hD : ∀ b, D b → b < w.heap.size → D' b) : Ws D' w a xs := fun i x hx =>
  let ⟨hw, b, off, ha, hb, hc⟩ := h i x hx
  ⟨hw, b, off, ha, hD b hb (cell_lt hc), hc⟩
theorem Is.mono {D D' : Nat → Prop} {w : World} {a : Option Addr} {xs : List Int} (h : Is D w a xs) (hD : ∀ b, D b → b < w.heap.size → D' b) : Is D' w a xs := fun i x hx =>
  let ⟨b, off, ha, hb, hc⟩ := h i x hx
  ⟨b, off, ha, hD b hb (cell_lt hc), hc⟩
theorem Ws.nil {D : Nat → Prop} {w : World} {xs : List Nat} (h : Ws D w none xs) : xs = [] := by
  cases xs with
  | nil => rfl
  | cons x t => obtain ⟨_, b, off, ha, _⟩ := h 0 x rfl; cases ha
theorem Is.nil {D : Nat → Prop} {w : World} {xs : List Int} (h : Is D w none xs) : xs = [] := by
  cases xs with
  | nil => rfl
  | cons x t => obtain ⟨b, off, ha, _⟩ := h 0 x rfl; cases ha

/-- A row of numbers: where it lies, its capacity, what it holds. -/
structure IRow where
  a : Option Addr
  cap : Nat
  xs : List Int
structure WRow where
  a : Option Addr
  cap : Nat
  xs : List Nat
def IRow.val (r : IRow) : Value := .slice r.a r.xs.length r.cap
def WRow.val (r : WRow) : Value := .slice r.a r.xs.length r.cap

def Rs (D : Nat → Prop) (w : World) (a : Option Addr) (rows : List IRow) : Prop :=
  ∀ i r, rows[i]? = some r → (∃ b off, a = some ⟨b, off, none⟩ ∧ D b ∧ w.cell? ⟨b, off + i, none⟩ = some r.val) ∧ Is D w r.a r.xs
theorem Rs.keep {D : Nat → Prop} {w w' : World} {a : Option Addr} {xs : List IRow} (h : Rs D w a xs) (k : Keeps D w w') : Rs D w' a xs := fun i x hx =>
  let ⟨⟨b, off, ha, hb, hc⟩, hi⟩ := h i x hx
  ⟨⟨b, off, ha, hb, k.cell hb hc⟩, hi.keep k⟩
theorem Rs.mono {D D' : Nat → Prop} {w : World} {a : Option Addr} {xs : List IRow} (h : Rs D w a xs) (hD : ∀ b, D b → b < w.heap.size → D' b) : Rs D' w a xs := fun i x hx =>
  let ⟨⟨b, off, ha, hb, hc⟩, hi⟩ := h i x hx
  ⟨⟨b, off, ha, hD b hb (cell_lt hc), hc⟩, hi.mono hD⟩
theorem Rs.nil {D : Nat → Prop} {w : World} {xs : List IRow} (h : Rs D w none xs) : xs = [] := by
  cases xs with
  | nil => rfl
  | cons x t => obtain ⟨⟨b, off, ha, _⟩, _⟩ := h 0 x rfl; cases ha

/-- A rule in bits. -/
structure Rule where
  admin : Int
  req : WRow
  forb : WRow
def Ls (D : Nat → Prop) (w : World) (a : Option Addr) (xs : List Rule) : Prop :=
  ∀ i r, xs[i]? = some r → (∃ b off, a = some ⟨b, off, none⟩ ∧ D b ∧ w.cell? ⟨b, off + i * 3, none⟩ = some (.int .i64 r.admin) ∧ w.cell? ⟨b, off + i * 3 + 1, none⟩ = some r.req.val ∧ w.cell? ⟨b, off + i * 3 + 2, none⟩ = some r.forb.val) ∧ Ws D w r.req.a r.req.xs ∧ Ws D w r.forb.a r.forb.xs
theorem Ls.keep {D : Nat → Prop} {w w' : World} {a : Option Addr} {xs : List Rule} (h : Ls D w a xs) (k : Keeps D w w') : Ls D w' a xs := fun i x hx =>
  let ⟨⟨b, off, ha, hb, h0, h1, h2⟩, hr, hf⟩ := h i x hx
  ⟨⟨b, off, ha, hb, k.cell hb h0, k.cell hb h1, k.cell hb h2⟩, hr.keep k, hf.keep k⟩
theorem Ls.mono {D D' : Nat → Prop} {w : World} {a : Option Addr} {xs : List Rule} (h : Ls D w a xs) (hD : ∀ b, D b → b < w.heap.size → D' b) : Ls D' w a xs := fun i x hx =>
  let ⟨⟨b, off, ha, hb, h0, h1, h2⟩, hr, hf⟩ := h i x hx
  ⟨⟨b, off, ha, hD b hb (cell_lt h0), h0, h1, h2⟩, hr.mono hD, hf.mono hD⟩
theorem Ls.nil {D : Nat → Prop} {w : World} {xs : List Rule} (h : Ls D w none xs) : xs = [] := by
  cases xs with
  | nil => rfl
  | cons x t => obtain ⟨⟨b, off, ha, _⟩, _⟩ := h 0 x rfl; cases ha
structure LRow where
  a : Option Addr
  cap : Nat
  xs : List Rule
def LRow.val (r : LRow) : Value := .slice r.a r.xs.length r.cap
def As (D : Nat → Prop) (w : World) (a : Option Addr) (rows : List LRow) : Prop :=
  ∀ i r, rows[i]? = some r → (∃ b off, a = some ⟨b, off, none⟩ ∧ D b ∧ w.cell? ⟨b, off + i, none⟩ = some r.val) ∧ Ls D w r.a r.xs
theorem As.keep {D : Nat → Prop} {w w' : World} {a : Option Addr} {xs : List LRow} (h : As D w a xs) (k : Keeps D w w') : As D w' a xs := fun i x hx =>
  let ⟨⟨b, off, ha, hb, hc⟩, hi⟩ := h i x hx
  ⟨⟨b, off, ha, hb, k.cell hb hc⟩, hi.keep k⟩
theorem As.mono {D D' : Nat → Prop} {w : World} {a : Option Addr} {xs : List LRow} (h : As D w a xs) (hD : ∀ b, D b → b < w.heap.size → D' b) : As D' w a xs := fun i x hx =>
  let ⟨⟨b, off, ha, hb, hc⟩, hi⟩ := h i x hx
  ⟨⟨b, off, ha, hD b hb (cell_lt hc), hc⟩, hi.mono hD⟩
theorem As.nil {D : Nat → Prop} {w : World} {xs : List LRow} (h : As D w none xs) : xs = [] := by
  cases xs with
  | nil => rfl
  | cons x t => obtain ⟨⟨b, off, ha, _⟩, _⟩ := h 0 x rfl; cases ha

/-- A constraint in bits. -/
structure Excl where
  roles : IRow
  limit : Int
def Es (D : Nat → Prop) (w : World) (a : Option Addr) (xs : List Excl) : Prop :=
  ∀ i r, xs[i]? = some r → (∃ b off, a = some ⟨b, off, none⟩ ∧ D b ∧ w.cell? ⟨b, off + i * 2, none⟩ = some r.roles.val ∧ w.cell? ⟨b, off + i * 2 + 1, none⟩ = some (.int .i64 r.limit)) ∧ Is D w r.roles.a r.roles.xs
theorem Es.keep {D : Nat → Prop} {w w' : World} {a : Option Addr} {xs : List Excl} (h : Es D w a xs) (k : Keeps D w w') : Es D w' a xs := fun i x hx =>
  let ⟨⟨b, off, ha, hb, h0, h1⟩, hr⟩ := h i x hx
  ⟨⟨b, off, ha, hb, k.cell hb h0, k.cell hb h1⟩, hr.keep k⟩
theorem Es.mono {D D' : Nat → Prop} {w : World} {a : Option Addr} {xs : List Excl} (h : Es D w a xs) (hD : ∀ b, D b → b < w.heap.size → D' b) : Es D' w a xs := fun i x hx =>
  let ⟨⟨b, off, ha, hb, h0, h1⟩, hr⟩ := h i x hx
  ⟨⟨b, off, ha, hD b hb (cell_lt h0), h0, h1⟩, hr.mono hD⟩
theorem Es.nil {D : Nat → Prop} {w : World} {xs : List Excl} (h : Es D w none xs) : xs = [] := by
  cases xs with
  | nil => rfl
  | cons x t => obtain ⟨⟨b, off, ha, _⟩, _⟩ := h 0 x rfl; cases ha

/-- No block is shut out. -/
def Any (_ : Nat) : Prop := True

/-! ### Filling a row from the left -/
def fill {α : Type} (f : α → Value) (z : Value) (xs : List α) (k : Nat) : List Value := (xs.take k).map f ++ List.replicate (xs.length - k) z
theorem fill_zero {α : Type} (f : α → Value) (z : Value) (xs : List α) : fill f z xs 0 = List.replicate xs.length z := by simp [fill]
theorem fill_all {α : Type} (f : α → Value) (z : Value) (xs : List α) {k : Nat} (h : xs.length ≤ k) : fill f z xs k = xs.map f := by
  simp [fill, List.take_of_length_le h, Nat.sub_eq_zero_of_le h]
theorem fill_length {α : Type} (f : α → Value) (z : Value) (xs : List α) {k : Nat} (h : k ≤ xs.length) : (fill f z xs k).length = xs.length := by
  simp [fill]; omega
theorem fill_set {α : Type} (f : α → Value) (z : Value) (xs : List α) {k : Nat} {x : α} (h : xs[k]? = some x) : (fill f z xs k).set k (f x) = fill f z xs (k + 1) := by
  obtain ⟨hk, hx⟩ := List.getElem?_eq_some_iff.1 h
  have hl : ((xs.take k).map f).length = k := by simp; omega
  have hr : xs.length - k = (xs.length - (k + 1)) + 1 := by omega
  unfold fill
  rw [List.set_append_right _ _ (by omega), hl, Nat.sub_self, hr, List.replicate_succ, List.set_cons_zero, List.take_succ_eq_append_getElem hk, hx, List.map_append, List.append_assoc]
  rfl

theorem fill_at {α : Type} (f : α → Value) (z : Value) (xs : List α) {k : Nat} (h : k < xs.length) : (fill f z xs k)[k]? = some z := by
  have hl : ((xs.take k).map f).length = k := by simp; omega
  unfold fill
  rw [List.getElem?_append_right (by omega), hl, Nat.sub_self, List.getElem?_replicate, if_pos (by omega)]

/-! ### Rows of structs, laid cell by cell -/
def partS {α : Type} (f : α → List Value) (zs : List Value) (done : List α) (n : Nat) : List Value := done.flatMap f ++ (List.replicate (n - done.length) zs).flatten
theorem partS_zero {α : Type} (f : α → List Value) (zs : List Value) (n : Nat) : partS f zs [] n = (List.replicate n zs).flatten := by simp [partS]
theorem partS_all {α : Type} (f : α → List Value) (zs : List Value) (done : List α) {n : Nat} (h : n ≤ done.length) : partS f zs done n = done.flatMap f := by simp [partS, Nat.sub_eq_zero_of_le h]
theorem flatMap_len {α : Type} (f : α → List Value) (c : Nat) (hf : ∀ x, (f x).length = c) : ∀ l : List α, (l.flatMap f).length = l.length * c
  | [] => by simp
  | x :: l => by simp [flatMap_len f c hf l, hf, Nat.succ_mul]; omega
theorem flatMap_get {α : Type} (f : α → List Value) (c : Nat) (hf : ∀ x, (f x).length = c) : ∀ (l : List α) (i : Nat) (x : α) (j : Nat), l[i]? = some x → j < c → (l.flatMap f)[i * c + j]? = (f x)[j]?
  | [], i, x, j, h, _ => by simp at h
  | y :: l, 0, x, j, h, hj => by
    simp only [List.getElem?_cons_zero, Option.some.injEq] at h
    subst h
    rw [List.flatMap_cons, Nat.zero_mul, Nat.zero_add, List.getElem?_append_left (by rw [hf]; exact hj)]
  | y :: l, i + 1, x, j, h, hj => by
    rw [List.flatMap_cons, List.getElem?_append_right (by rw [hf, Nat.succ_mul]; omega), hf, show (i + 1) * c + j - c = i * c + j by rw [Nat.succ_mul]; omega]
    exact flatMap_get f c hf l i x j (by simpa using h) hj
theorem partS_split {α : Type} (f : α → List Value) (zs : List Value) (done : List α) {n : Nat} (h : done.length < n) : partS f zs done n = done.flatMap f ++ (zs ++ (List.replicate (n - (done.length + 1)) zs).flatten) := by
  have hr : n - done.length = (n - (done.length + 1)) + 1 := by omega
  unfold partS
  rw [hr, List.replicate_succ, List.flatten_cons]
theorem partS_get {α : Type} (f : α → List Value) (zs : List Value) (c : Nat) (hf : ∀ x, (f x).length = c) (hz : zs.length = c) (done : List α) {n : Nat} (h : done.length < n) (j : Nat) (hj : j < c) : (partS f zs done n)[done.length * c + j]? = zs[j]? := by
  rw [partS_split f zs done h, List.getElem?_append_right (by rw [flatMap_len f c hf]; omega), flatMap_len f c hf, Nat.add_sub_cancel_left, List.getElem?_append_left (by omega)]
theorem partS_snoc {α : Type} (f : α → List Value) (zs : List Value) (done : List α) {n : Nat} (x : α) : partS f zs (done ++ [x]) n = done.flatMap f ++ (f x ++ (List.replicate (n - (done.length + 1)) zs).flatten) := by
  unfold partS
  simp
theorem partS_set2 {α : Type} (f : α → List Value) (z0 z1 : Value) (hf : ∀ x, (f x).length = 2) (done : List α) {n : Nat} (h : done.length < n) (x : α) {v0 v1 : Value} (hx : f x = [v0, v1]) :
    ((partS f [z0, z1] done n).set (done.length * 2) v0).set (done.length * 2 + 1) v1 = partS f [z0, z1] (done ++ [x]) n := by
  rw [partS_split f _ done h, partS_snoc, hx]
  rw [List.set_append_right _ _ (by rw [flatMap_len f 2 hf]; omega), flatMap_len f 2 hf, Nat.sub_self, List.set_append_right _ _ (by rw [flatMap_len f 2 hf]; omega), flatMap_len f 2 hf, Nat.add_sub_cancel_left]
  rfl
theorem partS_set3 {α : Type} (f : α → List Value) (z0 z1 z2 : Value) (hf : ∀ x, (f x).length = 3) (done : List α) {n : Nat} (h : done.length < n) (x : α) {v0 v1 v2 : Value} (hx : f x = [v0, v1, v2]) :
    (((partS f [z0, z1, z2] done n).set (done.length * 3) v0).set (done.length * 3 + 1) v1).set (done.length * 3 + 2) v2 = partS f [z0, z1, z2] (done ++ [x]) n := by
  rw [partS_split f _ done h, partS_snoc, hx]
  rw [List.set_append_right _ _ (by rw [flatMap_len f 3 hf]; omega), flatMap_len f 3 hf, Nat.sub_self, List.set_append_right _ _ (by rw [flatMap_len f 3 hf]; omega), flatMap_len f 3 hf, Nat.add_sub_cancel_left, List.set_append_right _ _ (by rw [flatMap_len f 3 hf]; omega), flatMap_len f 3 hf, Nat.add_sub_cancel_left]
  rfl

theorem Blk.set2 {α : Type} {w : World} {g : Nat} {e : TypeId} {f : α → List Value} {z0 z1 : Value} {done : List α} {n : Nat} (h : Blk w g e (partS f [z0, z1] done n)) (hf : ∀ x, (f x).length = 2) (hl : done.length < n) (x : α) {v0 v1 : Value} (hx : f x = [v0, v1]) :
    Blk ((w.setCell ⟨g, done.length * 2, none⟩ v0).setCell ⟨g, done.length * 2 + 1, none⟩ v1) g e (partS f [z0, z1] (done ++ [x]) n) := by
  rw [← partS_set2 f z0 z1 hf done hl x hx]
  exact (h.set _ _).set _ _
theorem Blk.set3 {α : Type} {w : World} {g : Nat} {e : TypeId} {f : α → List Value} {z0 z1 z2 : Value} {done : List α} {n : Nat} (h : Blk w g e (partS f [z0, z1, z2] done n)) (hf : ∀ x, (f x).length = 3) (hl : done.length < n) (x : α) {v0 v1 v2 : Value} (hx : f x = [v0, v1, v2]) :
    Blk (((w.setCell ⟨g, done.length * 3, none⟩ v0).setCell ⟨g, done.length * 3 + 1, none⟩ v1).setCell ⟨g, done.length * 3 + 2, none⟩ v2) g e (partS f [z0, z1, z2] (done ++ [x]) n) := by
  rw [← partS_set3 f z0 z1 z2 hf done hl x hx]
  exact ((h.set _ _).set _ _).set _ _

theorem flatten_rep_len (zs : List Value) : ∀ n : Nat, ((List.replicate n zs).flatten).length = n * zs.length
  | 0 => by simp
  | n + 1 => by rw [List.replicate_succ, List.flatten_cons, List.length_append, flatten_rep_len zs n, Nat.succ_mul]; omega
theorem flatten_rep_get (zs : List Value) (hz : 0 < zs.length) : ∀ (n j : Nat), j < n * zs.length → ((List.replicate n zs).flatten)[j]? = zs[j % zs.length]?
  | 0, j, h => by simp at h
  | n + 1, j, h => by
    rw [List.replicate_succ, List.flatten_cons]
    by_cases hj : j < zs.length
    · rw [List.getElem?_append_left hj, Nat.mod_eq_of_lt hj]
    · rw [List.getElem?_append_right (by omega), flatten_rep_get zs hz n (j - zs.length) (by rw [Nat.succ_mul] at h; omega), ← Nat.mod_eq_sub_mod (by omega)]
theorem made_many (zs : List Value) (hz : 0 < zs.length) (n : Nat) : madeCells zs.toArray (n * zs.length) = ((List.replicate n zs).flatten).toArray := by
  apply Array.ext'
  apply List.ext_getElem?
  intro j
  by_cases hj : j < n * zs.length
  · rw [List.toList_toArray, flatten_rep_get zs hz n j hj]
    have hm : j % zs.length < zs.length := Nat.mod_lt _ hz
    simp [madeCells, hj, hm]
  · rw [List.toList_toArray, List.getElem?_eq_none (by simp [madeCells]; omega), List.getElem?_eq_none (by rw [flatten_rep_len]; omega)]

theorem made_one (z : Value) (n : Nat) : madeCells #[z] n = (List.replicate n z).toArray := by
  apply Array.ext'
  rw [toList_madeCells_one]
theorem ret_val {a b : Value} (h : a = b) : Ending.returned a = .returned b := by rw [h]
theorem ret_bool {a b : Bool} (h : a = b) : Ending.returned (.bool a) = .returned (.bool b) := by rw [h]
end Go.Proofs.Qxb6604686a
