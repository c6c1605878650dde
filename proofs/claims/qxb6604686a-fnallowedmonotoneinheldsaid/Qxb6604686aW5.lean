import Derived.Test.Qxb6604686aW4
namespace Go.Proofs.Qxb6604686a
open Go.ChangeShapes Go.WideShapes Go.ChangeAt Go.RowKit
set_option linter.unusedVariables false

/-- A row of rows of words. -/
structure QRow where
  a : Option Addr
  cap : Nat
  xs : List WRow
def QRow.val (r : QRow) : Value := .slice r.a r.xs.length r.cap
/-- The headers alone. -/
def Hs (D : Nat → Prop) (w : World) (a : Option Addr) (xs : List WRow) : Prop :=
  ∀ i r, xs[i]? = some r → ∃ b off, a = some ⟨b, off, none⟩ ∧ D b ∧ w.cell? ⟨b, off + i, none⟩ = some r.val
def Qs (D : Nat → Prop) (w : World) (a : Option Addr) (rows : List QRow) : Prop :=
  ∀ i r, rows[i]? = some r → (∃ b off, a = some ⟨b, off, none⟩ ∧ D b ∧ w.cell? ⟨b, off + i, none⟩ = some r.val) ∧ Hs D w r.a r.xs
theorem Hs.keep {D : Nat → Prop} {w w' : World} {a : Option Addr} {xs : List WRow} (h : Hs D w a xs) (k : Keeps D w w') : Hs D w' a xs := fun i x hx =>
  let ⟨b, off, ha, hb, hc⟩ := h i x hx
  ⟨b, off, ha, hb, k.cell hb hc⟩
theorem Hs.mono {D D' : Nat → Prop} {w : World} {a : Option Addr} {xs : List WRow} (h : Hs D w a xs) (hD : ∀ b, D b → b < w.heap.size → D' b) : Hs D' w a xs := fun i x hx =>
  let ⟨b, off, ha, hb, hc⟩ := h i x hx
  ⟨b, off, ha, hD b hb (cell_lt hc), hc⟩
theorem Qs.keep {D : Nat → Prop} {w w' : World} {a : Option Addr} {xs : List QRow} (h : Qs D w a xs) (k : Keeps D w w') : Qs D w' a xs := fun i x hx =>
  let ⟨⟨b, off, ha, hb, hc⟩, hi⟩ := h i x hx
  ⟨⟨b, off, ha, hb, k.cell hb hc⟩, hi.keep k⟩
theorem Qs.mono {D D' : Nat → Prop} {w : World} {a : Option Addr} {xs : List QRow} (h : Qs D w a xs) (hD : ∀ b, D b → b < w.heap.size → D' b) : Qs D' w a xs := fun i x hx =>
  let ⟨⟨b, off, ha, hb, hc⟩, hi⟩ := h i x hx
  ⟨⟨b, off, ha, hD b hb (cell_lt hc), hc⟩, hi.mono hD⟩
theorem Blk.hs {w : World} {g : Nat} {e : TypeId} {xs : List WRow} (h : Blk w g e (xs.map WRow.val)) {D : Nat → Prop} (hD : D g) : Hs D w (some ⟨g, 0, none⟩) xs := fun i r hr =>
  ⟨g, 0, rfl, hD, by rw [h.cell]; simp [hr]⟩
theorem Blk.qs {w : World} {g : Nat} {e : TypeId} {rows : List QRow} (h : Blk w g e (rows.map QRow.val)) {D : Nat → Prop} (hD : D g) (hi : ∀ r ∈ rows, Hs D w r.a r.xs) : Qs D w (some ⟨g, 0, none⟩) rows := fun i r hr =>
  ⟨⟨g, 0, rfl, hD, by rw [h.cell]; simp [hr]⟩, hi r (List.mem_of_getElem? hr)⟩

theorem make53 (n : Nat) (hn : n ≤ 1048576) (w : World) : (Instr.makeSlice 53 (.int .i64 (n : Int)) (.int .i64 (n : Int))).run Try.prog w = .ok (.slice (some ⟨w.heap.size, 0, none⟩) n n) (w.alloc (.cells (List.replicate n (.slice none 0 0)).toArray 79)) :=
  make_any w 53 79 (.slice none 0 0) 24 Try.underlying53 (by kernel_rfl) rfl (by decide) n hn
theorem make79 (n : Nat) (hn : n ≤ 1048576) (w : World) : (Instr.makeSlice 79 (.int .i64 (n : Int)) (.int .i64 (n : Int))).run Try.prog w = .ok (.slice (some ⟨w.heap.size, 0, none⟩) n n) (w.alloc (.cells (List.replicate n (.slice none 0 0)).toArray 41)) :=
  make_any w 79 41 (.slice none 0 0) 24 Try.underlying79 (by kernel_rfl) rfl (by decide) n hn

theorem Blk.new' (w : World) (e : TypeId) (n : Nat) (z : Value) : Blk (w.alloc (.cells (Array.replicate n z) e)) w.heap.size e (List.replicate n z) := by
  simpa using Blk.new w e (List.replicate n z)

theorem keeps_setL {n : Nat} (w : World) {p : Addr} (h : p.block < n) (u : Value) : Keeps (From n) w (w.setCell p u) := keeps_set w (fun k => Nat.not_le_of_lt h k) u
theorem Blk.fillset {α : Type} {w : World} {g : Nat} {e : TypeId} {f : α → Value} {z : Value} {xs : List α} {k : Nat} (h : Blk w g e (fill f z xs k)) {x : α} (hx : xs[k]? = some x) {v : Value} (hv : f x = v) : Blk (w.setCell ⟨g, k, none⟩ v) g e (fill f z xs (k + 1)) := by
  rw [← fill_set f z xs hx, hv]
  exact h.set _ _
theorem Blk.partset {α : Type} {w : World} {g : Nat} {e : TypeId} {f : α → Value} {z : Value} {done : List α} {n : Nat} (h : Blk w g e (part f z done n)) (hl : done.length < n) (x : α) {v : Value} (hv : f x = v) {k : Nat} (hk : done.length = k) : Blk (w.setCell ⟨g, k, none⟩ v) g e (part f z (done ++ [x]) n) := by
  subst hk
  rw [← part_set f z done hl, hv]
  exact h.set _ _

set_option maxHeartbeats 4000000 in
theorem splitAssign_any (a : Option Addr) (cap : Nat) (rows : List LRow) (w : World) (h : As Any w a rows) (hn : rows.length ≤ 131072) (hi : ∀ r ∈ rows, r.xs.length ≤ 131072) :
    Calls Try.prog 27 #[.slice a rows.length cap] w fun e w' => ∃ a1 a2 a3 c1 c2 c3 r1 r2 r3, e = .returned (.tuple #[.slice a1 rows.length c1, .slice a2 rows.length c2, .slice a3 rows.length c3]) ∧
      r1.map IRow.xs = rows.map (fun r => r.xs.map Rule.admin) ∧ r2.map QRow.xs = rows.map (fun r => r.xs.map Rule.req) ∧ r3.map QRow.xs = rows.map (fun r => r.xs.map Rule.forb) ∧
      Rs Any w' a1 r1 ∧ Qs Any w' a2 r2 ∧ Qs Any w' a3 r3 ∧ Below w.heap.size w w' := by
  have hmk1 := make42 rows.length (by omega)
  have hmk2 := make53 rows.length (by omega)
  go_enter Try.func27, Try.ntmps27
  go_wp2
  go_loopg [26] rows.length (fun g i wr => ∃ (d1 : List IRow) (d2 d3 : List QRow), d1.length + g = rows.length ∧ d2.length = d1.length ∧ d3.length = d1.length ∧ i = .int .i64 d1.length ∧
    d1.map IRow.xs = (rows.take d1.length).map (fun r => r.xs.map Rule.admin) ∧ d2.map QRow.xs = (rows.take d1.length).map (fun r => r.xs.map Rule.req) ∧ d3.map QRow.xs = (rows.take d1.length).map (fun r => r.xs.map Rule.forb) ∧
    Blk wr w.heap.size 45 (part IRow.val (.slice none 0 0) d1 rows.length) ∧ Blk wr (w.heap.size + 1) 79 (part QRow.val (.slice none 0 0) d2 rows.length) ∧ Blk wr (w.heap.size + 1 + 1) 79 (part QRow.val (.slice none 0 0) d3 rows.length) ∧
    (∀ r ∈ d1, Is (From (w.heap.size + 3)) wr r.a r.xs) ∧ (∀ r ∈ d2, Hs (From (w.heap.size + 3)) wr r.a r.xs) ∧ (∀ r ∈ d3, Hs (From (w.heap.size + 3)) wr r.a r.xs) ∧ Below w.heap.size w wr)
  case atStart =>
    refine ⟨[], [], [], by simp, rfl, rfl, rfl, rfl, rfl, rfl, ?_, ?_, ?_, fun r hr => by simp at hr, fun r hr => by simp at hr, fun r hr => by simp at hr, (((Below.refl _ _).alloc (Nat.le_refl _) _).alloc (by simp) _).alloc (by simp; omega) _⟩
    · rw [part_zero]; exact ((Blk.new' w 45 _ _).alloc _).alloc _
    · rw [part_zero]
      have := (Blk.new' (w.alloc (.cells (Array.replicate rows.length (.slice none 0 0)) 45)) 79 rows.length (.slice none 0 0)).alloc (.cells (Array.replicate rows.length (.slice none 0 0)) 79)
      simpa using this
    · rw [part_zero]
      have := Blk.new' ((w.alloc (.cells (Array.replicate rows.length (.slice none 0 0)) 45)).alloc (.cells (Array.replicate rows.length (.slice none 0 0)) 79)) 79 rows.length (.slice none 0 0)
      simpa using this
  case round =>
    obtain ⟨d1, d2, d3, hk, hl2, hl3, rfl, hm1, hm2, hm3, hb1, hb2, hb3, hd1, hd2, hd3, hbl⟩ := hrel
    have Hm : Hid (d1.map IRow.xs = (rows.take d1.length).map (fun r => r.xs.map Rule.admin) ∧ d2.map QRow.xs = (rows.take d1.length).map (fun r => r.xs.map Rule.req) ∧ d3.map QRow.xs = (rows.take d1.length).map (fun r => r.xs.map Rule.forb)) := ⟨hm1, hm2, hm3⟩
    have Hl : Hid (d2.length = d1.length ∧ d3.length = d1.length) := ⟨hl2, hl3⟩
    clear hm1 hm2 hm3 hl2 hl3
    by_cases hlt : d1.length < rows.length
    · obtain ⟨⟨b, off, ha, _, hc⟩, hls⟩ := (h.keep (keepsB hbl Any)) d1.length rows[d1.length] (List.getElem?_eq_getElem hlt)
      subst ha
      have hil := hi rows[d1.length] (List.getElem_mem hlt)
      have hlt' : (d1.length : Int) < (rows.length : Int) := by omega
      have h0' : (0 : Int) ≤ (d1.length : Int) := by omega
      have HG : Hid (rows[d1.length]? = some rows[d1.length]) := List.getElem?_eq_getElem hlt
      generalize rows[d1.length] = r at *
      obtain ⟨ra, rcap, rxs⟩ := r
      unfold LRow.val at hc
      dsimp only at hc hls hil
      have hmk3 := make45 rxs.length (by omega)
      have hmk4 := make79 rxs.length (by omega)
      go_wp2
      generalize wr = w0 at *
      generalize gk = g0 at *
      go_loopg [42] rxs.length (fun g i wr => ∃ k : Nat, k + g = rxs.length ∧ i = .int .i64 k ∧ Blk wr w0.heap.size 3 (fill (fun r : Rule => .int .i64 r.admin) (.int .i64 0) rxs k) ∧
        Blk wr (w0.heap.size + 1) 41 (fill (fun r : Rule => r.req.val) (.slice none 0 0) rxs k) ∧ Blk wr (w0.heap.size + 1 + 1) 41 (fill (fun r : Rule => r.forb.val) (.slice none 0 0) rxs k) ∧ Below w0.heap.size w0 wr)
      case atStart =>
        refine ⟨0, by simp, rfl, ?_, ?_, ?_, (((Below.refl _ _).alloc (Nat.le_refl _) _).alloc (by simp) _).alloc (by simp; omega) _⟩
        · rw [fill_zero]; exact ((Blk.new' w0 3 _ _).alloc _).alloc _
        · rw [fill_zero]
          have := (Blk.new' (w0.alloc (.cells (Array.replicate rxs.length (.int .i64 0)) 3)) 41 rxs.length (.slice none 0 0)).alloc (.cells (Array.replicate rxs.length (.slice none 0 0)) 41)
          simpa using this
        · rw [fill_zero]
          have := Blk.new' ((w0.alloc (.cells (Array.replicate rxs.length (.int .i64 0)) 3)).alloc (.cells (Array.replicate rxs.length (.slice none 0 0)) 41)) 41 rxs.length (.slice none 0 0)
          simpa using this
      case round =>
        obtain ⟨k, hk2, rfl, hc1, hc2, hc3, hbl2⟩ := hrel
        by_cases hlt2 : k < rxs.length
        · obtain ⟨⟨b2, off2, ha2, _, q0, q1, q2⟩, _, _⟩ := (hls.keep (keepsB hbl2 Any)) k rxs[k] (List.getElem?_eq_getElem hlt2)
          subst ha2
          have hlt2' : (k : Int) < (rxs.length : Int) := by omega
          have h02' : (0 : Int) ≤ (k : Int) := by omega
          have HG2 : Hid (rxs[k]? = some rxs[k]) := List.getElem?_eq_getElem hlt2
          have hb2w : b2 < wr.heap.size := cell_lt q0
          have z1 := hc1.lt
          have z2 := hc2.lt
          have z3 := hc3.lt
          have f1 := hc1.frozen k
          have f2 := hc2.frozen k
          have f3 := hc3.frozen k
          have s1 := (hc1.cell k).trans (fill_at _ _ rxs hlt2)
          have s2 := (hc2.cell k).trans (fill_at _ _ rxs hlt2)
          have s3 := (hc3.cell k).trans (fill_at _ _ rxs hlt2)
          generalize rxs[k] = r at *
          unfold WRow.val at q1 q2
          have B1 : Hid (∀ o, Blk ((((wr.setCell ⟨w0.heap.size, k, none⟩ (.int .i64 r.admin)).setCell ⟨w0.heap.size + 1, k, none⟩ (.slice r.req.a r.req.xs.length r.req.cap)).setCell ⟨w0.heap.size + 1 + 1, k, none⟩ (.slice r.forb.a r.forb.xs.length r.forb.cap)).alloc o) w0.heap.size 3 (fill (fun r : Rule => .int .i64 r.admin) (.int .i64 0) rxs (k + 1))) := fun o =>
            (((hc1.fillset HG2.out rfl).other (by simp) _).other (by simp; omega) _).alloc o
          have B2 : Hid (∀ o, Blk ((((wr.setCell ⟨w0.heap.size, k, none⟩ (.int .i64 r.admin)).setCell ⟨w0.heap.size + 1, k, none⟩ (.slice r.req.a r.req.xs.length r.req.cap)).setCell ⟨w0.heap.size + 1 + 1, k, none⟩ (.slice r.forb.a r.forb.xs.length r.forb.cap)).alloc o) (w0.heap.size + 1) 41 (fill (fun r : Rule => r.req.val) (.slice none 0 0) rxs (k + 1))) := fun o =>
            (((hc2.other (by simp) _).fillset HG2.out rfl).other (by simp) _).alloc o
          have B3 : Hid (∀ o, Blk ((((wr.setCell ⟨w0.heap.size, k, none⟩ (.int .i64 r.admin)).setCell ⟨w0.heap.size + 1, k, none⟩ (.slice r.req.a r.req.xs.length r.req.cap)).setCell ⟨w0.heap.size + 1 + 1, k, none⟩ (.slice r.forb.a r.forb.xs.length r.forb.cap)).alloc o) (w0.heap.size + 1 + 1) 41 (fill (fun r : Rule => r.forb.val) (.slice none 0 0) rxs (k + 1))) := fun o =>
            (((hc3.other (by simp; omega) _).other (by simp) _).fillset HG2.out rfl).alloc o
          go_wp2
          go_roundg (gk - 1)
          case measure => omega
          case rel =>
            exact ⟨k + 1, by omega, by go_num, B1.out _, B2.out _, B3.out _, (((hbl2.setCell (Nat.le_refl _) _).setCell (by simp) _).setCell (by simp; omega) _).alloc (by simpa [World.setCell] using hbl2.size) _⟩
        · obtain rfl : k = rxs.length := by omega
          rw [fill_all _ _ _ (Nat.le_refl _)] at hc1 hc2 hc3
          have hl2 := Hl.out.1
          have hl3 := Hl.out.2
          have e1 := hb1.below hbl2 hb1.lt
          have e2 := hb2.below hbl2 hb2.lt
          have e3 := hb3.below hbl2 hb3.lt
          have z1 := e1.lt
          have z2 := e2.lt
          have z3 := e3.lt
          have f1 := e1.frozen d1.length
          have f2 := e2.frozen d1.length
          have f3 := e3.frozen d1.length
          have s1 := (e1.cell d1.length).trans (part_at IRow.val _ d1 hlt)
          have s2 : wr.cell? ⟨w.heap.size + 1, d1.length, none⟩ = some (.slice none 0 0) := by
            rw [← hl2]; exact (e2.cell d2.length).trans (part_at QRow.val _ d2 (by omega))
          have s3 : wr.cell? ⟨w.heap.size + 1 + 1, d1.length, none⟩ = some (.slice none 0 0) := by
            rw [← hl3]; exact (e3.cell d3.length).trans (part_at QRow.val _ d3 (by omega))
          have B1 : Hid (Blk (((wr.setCell ⟨w.heap.size, d1.length, none⟩ (.slice (some ⟨w0.heap.size, 0, none⟩) rxs.length rxs.length)).setCell ⟨w.heap.size + 1, d1.length, none⟩ (.slice (some ⟨w0.heap.size + 1, 0, none⟩) rxs.length rxs.length)).setCell ⟨w.heap.size + 1 + 1, d1.length, none⟩ (.slice (some ⟨w0.heap.size + 1 + 1, 0, none⟩) rxs.length rxs.length)) w.heap.size 45 (part IRow.val (.slice none 0 0) (d1 ++ [⟨some ⟨w0.heap.size, 0, none⟩, rxs.length, rxs.map Rule.admin⟩]) rows.length)) :=
            ((e1.partset hlt _ (by simp [IRow.val]) rfl).other (by simp) _).other (by simp; omega) _
          have B2 : Hid (Blk (((wr.setCell ⟨w.heap.size, d1.length, none⟩ (.slice (some ⟨w0.heap.size, 0, none⟩) rxs.length rxs.length)).setCell ⟨w.heap.size + 1, d1.length, none⟩ (.slice (some ⟨w0.heap.size + 1, 0, none⟩) rxs.length rxs.length)).setCell ⟨w.heap.size + 1 + 1, d1.length, none⟩ (.slice (some ⟨w0.heap.size + 1 + 1, 0, none⟩) rxs.length rxs.length)) (w.heap.size + 1) 79 (part QRow.val (.slice none 0 0) (d2 ++ [⟨some ⟨w0.heap.size + 1, 0, none⟩, rxs.length, rxs.map Rule.req⟩]) rows.length)) :=
            ((e2.other (by simp) _).partset (by omega) _ (by simp [QRow.val]) hl2).other (by simp) _
          have B3 : Hid (Blk (((wr.setCell ⟨w.heap.size, d1.length, none⟩ (.slice (some ⟨w0.heap.size, 0, none⟩) rxs.length rxs.length)).setCell ⟨w.heap.size + 1, d1.length, none⟩ (.slice (some ⟨w0.heap.size + 1, 0, none⟩) rxs.length rxs.length)).setCell ⟨w.heap.size + 1 + 1, d1.length, none⟩ (.slice (some ⟨w0.heap.size + 1 + 1, 0, none⟩) rxs.length rxs.length)) (w.heap.size + 1 + 1) 79 (part QRow.val (.slice none 0 0) (d3 ++ [⟨some ⟨w0.heap.size + 1 + 1, 0, none⟩, rxs.length, rxs.map Rule.forb⟩]) rows.length)) :=
            ((e3.other (by simp; omega) _).other (by simp) _).partset (by omega) _ (by simp [QRow.val]) hl3
          clear hl2 hl3
          go_wp2
          go_roundg (g0 - 1)
          case measure => omega
          case rel =>
            have kp : ∀ u0 u1 u2, Keeps (From (w.heap.size + 3)) wr (((wr.setCell ⟨w.heap.size, d1.length, none⟩ u0).setCell ⟨w.heap.size + 1, d1.length, none⟩ u1).setCell ⟨w.heap.size + 1 + 1, d1.length, none⟩ u2) := fun u0 u1 u2 b hb hl =>
              ((keeps_setL _ (by simp) u2 b hb (by simpa [World.setCell] using hl)).trans (keeps_setL _ (by simp) u1 b hb (by simpa [World.setCell] using hl))).trans (keeps_setL wr (by simp) u0 b hb hl)
            have hw0 : w.heap.size + 3 ≤ w0.heap.size := by have := hb3.lt; omega
            refine ⟨_, _, _, ?_, ?_, ?_, ?_, ?_, ?_, ?_, B1.out, B2.out, B3.out, ?_, ?_, ?_, ((hbl.trans (hbl2.mono hbl.size)).setCell (Nat.le_refl _) _ |>.setCell (by simp) _).setCell (by simp; omega) _⟩
            · simp; omega
            · simp [Hl.out.1]
            · simp [Hl.out.2]
            · rw [List.length_append]; go_num
            · rw [List.map_append, Hm.out.1, List.length_append, List.length_singleton, List.take_add_one, HG.out]; simp
            · rw [List.map_append, Hm.out.2.1, List.length_append, List.length_singleton, List.take_add_one, HG.out]; simp
            · rw [List.map_append, Hm.out.2.2, List.length_append, List.length_singleton, List.take_add_one, HG.out]; simp
            · intro q hq
              rcases List.mem_append.1 hq with hq | hq
              · exact ((hd1 q hq).keep (keepsB hbl2 _)).keep (kp _ _ _)
              · obtain rfl := List.mem_singleton.1 hq
                refine (Blk.is (D := From (w.heap.size + 3)) (xs := rxs.map Rule.admin) (e := 3) ?_ hw0).keep (kp _ _ _)
                rw [List.map_map]; exact hc1
            · intro q hq
              rcases List.mem_append.1 hq with hq | hq
              · exact ((hd2 q hq).keep (keepsB hbl2 _)).keep (kp _ _ _)
              · obtain rfl := List.mem_singleton.1 hq
                refine (Blk.hs (D := From (w.heap.size + 3)) (xs := rxs.map Rule.req) (e := 41) ?_ (Nat.le_succ_of_le hw0)).keep (kp _ _ _)
                rw [List.map_map]; exact hc2
            · intro q hq
              rcases List.mem_append.1 hq with hq | hq
              · exact ((hd3 q hq).keep (keepsB hbl2 _)).keep (kp _ _ _)
              · obtain rfl := List.mem_singleton.1 hq
                refine (Blk.hs (D := From (w.heap.size + 3)) (xs := rxs.map Rule.forb) (e := 41) ?_ (Nat.le_succ_of_le (Nat.le_succ_of_le hw0))).keep (kp _ _ _)
                rw [List.map_map]; exact hc3
    · have hle : rows.length ≤ d1.length := by omega
      have T : Hid (_ ∧ _ ∧ _) := ⟨(by rw [Hm.out.1, List.take_of_length_le hle] : d1.map IRow.xs = rows.map (fun r => r.xs.map Rule.admin)), (by rw [Hm.out.2.1, List.take_of_length_le hle] : d2.map QRow.xs = rows.map (fun r => r.xs.map Rule.req)), (by rw [Hm.out.2.2, List.take_of_length_le hle] : d3.map QRow.xs = rows.map (fun r => r.xs.map Rule.forb))⟩
      rw [part_all _ _ _ hle] at hb1
      rw [part_all _ _ _ (by rw [Hl.out.1]; exact hle)] at hb2
      rw [part_all _ _ _ (by rw [Hl.out.2]; exact hle)] at hb3
      go_wp2
      go_ret3
      exact ⟨_, _, _, _, _, _, d1, d2, d3, rfl, T.out.1, T.out.2.1, T.out.2.2, hb1.rs trivial fun r hr => (hd1 r hr).mono fun _ _ _ => trivial, hb2.qs trivial fun r hr => (hd2 r hr).mono fun _ _ _ => trivial, hb3.qs trivial fun r hr => (hd3 r hr).mono fun _ _ _ => trivial, hbl⟩
end Go.Proofs.Qxb6604686a
