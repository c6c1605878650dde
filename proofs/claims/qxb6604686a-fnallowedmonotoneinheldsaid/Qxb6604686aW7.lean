import Derived.Test.Qxb6604686aW6
namespace Go.Proofs.Qxb6604686a
open Go.ChangeShapes Go.WideShapes Go.ChangeAt Go.RowKit
set_option linter.unusedVariables false

/-! ### listingOf -/
/-- The rows that are appended to, each in a block of its own. -/
structure Tab (w : World) (g : Nat) (rows : List IRow) : Prop where
  blk : Blk w g 45 (rows.map IRow.val)
  own : ∀ (i : Nat) (r : IRow), rows[i]? = some r → OwnI w (g + 1) r
  dist : ∀ (i j : Nat) (ri rj : IRow), i ≠ j → rows[i]? = some ri → rows[j]? = some rj → ri.val.ownBlock = none ∨ ri.val.ownBlock ≠ rj.val.ownBlock
theorem Tab.alloc {w : World} {g : Nat} {rows : List IRow} (h : Tab w g rows) (o : Obj) : Tab (w.alloc o) g rows := ⟨h.blk.alloc o, fun i r hr => (h.own i r hr).alloc o, h.dist⟩
theorem set_at {α : Type} {l : List α} {j : Nat} {r : α} (hr : l[j]? = some r) (x : α) (i : Nat) (y : α) (h : (l.set j x)[i]? = some y) : (i = j ∧ y = x) ∨ (i ≠ j ∧ l[i]? = some y) := by
  have hjl : j < l.length := (List.getElem?_eq_some_iff.1 hr).1
  by_cases hij : i = j
  · subst hij
    rw [List.getElem?_set_self hjl] at h
    exact .inl ⟨rfl, (Option.some.inj h).symm⟩
  · rw [List.getElem?_set_ne (fun e => hij e.symm)] at h
    exact .inr ⟨hij, h⟩
theorem Tab.app {w w' : World} {g : Nat} {rows : List IRow} (h : Tab w g rows) {j : Nat} {r : IRow} (hr : rows[j]? = some r) {g' cap' : Nat} {u : Int}
    (ho : OwnI w' (g + 1) ⟨some ⟨g', 0, none⟩, cap', r.xs ++ [u]⟩) (hg : w.grownBy w' r.val.ownBlock) (hl : r.val.ownBlock = some g' ∨ g' = w.heap.size) (n : Nat) (hn : n = r.xs.length + 1) :
    Tab (w'.setCell ⟨g, j, none⟩ (.slice (some ⟨g', 0, none⟩) n cap')) g (rows.set j ⟨some ⟨g', 0, none⟩, cap', r.xs ++ [u]⟩) := by
  subst hn
  have hv : IRow.val ⟨some ⟨g', 0, none⟩, cap', r.xs ++ [u]⟩ = .slice (some ⟨g', 0, none⟩) (r.xs.length + 1) cap' := by simp [IRow.val]
  have hb : Blk w' g 45 (rows.map IRow.val) := by
    refine (hg.block g h.blk.lt ?_).trans h.blk
    intro e
    have := ((h.own j r hr).lt g e.symm).1
    omega
  refine ⟨?_, ?_, ?_⟩
  · rw [← hv, List.map_set]
    exact hb.set j _
  · intro i q hq
    rcases set_at hr _ i q hq with ⟨rfl, rfl⟩ | ⟨hij, hi⟩
    · exact ho.below (by simp) _
    · exact ((h.own i q hi).kept hg (h.dist i j q r hij hi hr)).below (by simp) _
  · intro i k ri rk hik hi hk
    rcases set_at hr _ i ri hi with ⟨rfl, rfl⟩ | ⟨hij, hi'⟩
    · rcases set_at hr _ k rk hk with ⟨rfl, _⟩ | ⟨hkj, hk'⟩
      · exact absurd rfl hik
      · right
        show (some g' : Option Nat) ≠ _
        rcases hl with hl | hl
        · rw [← hl]
          rcases h.dist i k r rk hik hr hk' with hd | hd
          · rw [hl] at hd; cases hd
          · exact hd
        · intro e
          have := ((h.own k rk hk').lt g' e.symm).2
          omega
    · rcases set_at hr _ k rk hk with ⟨rfl, rfl⟩ | ⟨hkj, hk'⟩
      · rcases h.dist i k ri r hik hi' hr with hd | hd
        · exact .inl hd
        · right
          show _ ≠ (some g' : Option Nat)
          rcases hl with hl | hl
          · rw [← hl]; exact hd
          · intro e
            have := ((h.own i ri hi').lt g' e).2
            omega
      · exact h.dist i k ri rk hik hi' hk'

/-- 2^17, kept shut. -/
def cap17 : Nat := 131072
theorem cap17_eq : cap17 = 131072 := rfl

/-- What the listing says once the first k constraints, and the first m roles of the next one, are entered. -/
structure Lst (xs : List Excl) (k m : Nat) (rows : List IRow) : Prop where
  sound : ∀ (b : Nat) (row : IRow), rows[b]? = some row → ∀ v ∈ row.xs, ∃ (q : Nat) (ex : Excl), v = (q : Int) ∧ xs[q]? = some ex ∧ (b : Int) ∈ ex.roles.xs
  full : ∀ (q : Nat) (ex : Excl), xs[q]? = some ex → ∀ (j : Nat) (y : Int), ex.roles.xs[j]? = some y → (q < k ∨ (q = k ∧ j < m)) → ∃ row, rows[y.toNat]? = some row ∧ (q : Int) ∈ row.xs
  len : ∀ r ∈ rows, r.xs.length ≤ k * cap17 + m
theorem Lst.zero (xs : List Excl) (n : Nat) : Lst xs 0 0 (List.replicate n ⟨none, 0, []⟩) :=
  ⟨fun b row h v hv => by
    obtain rfl := (List.mem_replicate.1 (List.mem_of_getElem? h)).2
    simp at hv, fun q ex h j y hy hc => by omega, fun r hr => by
    obtain rfl := (List.mem_replicate.1 hr).2
    simp⟩
theorem Lst.next {xs : List Excl} {k m : Nat} {rows : List IRow} (h : Lst xs k m rows) {ex : Excl} (hx : xs[k]? = some ex) (hm : ex.roles.xs.length ≤ m) (hm2 : m ≤ cap17) : Lst xs (k + 1) 0 rows :=
  ⟨h.sound, fun q ex' hq j y hy hc => by
    refine h.full q ex' hq j y hy ?_
    by_cases hqk : q = k
    · subst hqk
      rw [hx] at hq
      cases hq
      have := (List.getElem?_eq_some_iff.1 hy).1
      exact .inr ⟨rfl, by omega⟩
    · exact .inl (by omega), fun r hr => by
    have h1 := h.len r hr
    have h2 : (k + 1) * cap17 = k * cap17 + cap17 := Nat.succ_mul k cap17
    omega⟩
theorem Lst.app {xs : List Excl} {k m : Nat} {rows : List IRow} (h : Lst xs k m rows) {ex : Excl} (hx : xs[k]? = some ex) {b : Nat} (hb : ex.roles.xs[m]? = some (b : Int)) {r : IRow} (hr : rows[b]? = some r) (a : Option Addr) (c : Nat) :
    Lst xs k (m + 1) (rows.set b ⟨a, c, r.xs ++ [(k : Int)]⟩) := by
  have hbl : b < rows.length := (List.getElem?_eq_some_iff.1 hr).1
  refine ⟨?_, ?_, ?_⟩
  · intro b' row hrow v hv
    rcases set_at hr _ b' row hrow with ⟨rfl, rfl⟩ | ⟨_, hrow'⟩
    · rcases List.mem_append.1 hv with hv | hv
      · exact h.sound b' r hr v hv
      · obtain rfl := List.mem_singleton.1 hv
        exact ⟨k, ex, rfl, hx, List.mem_of_getElem? hb⟩
    · exact h.sound b' row hrow' v hv
  · intro q ex' hq j y hy hc
    by_cases hnew : q = k ∧ j = m
    · obtain ⟨rfl, rfl⟩ := hnew
      rw [hx] at hq
      cases hq
      rw [hb] at hy
      cases hy
      exact ⟨⟨a, c, r.xs ++ [(q : Int)]⟩, by rw [Int.toNat_natCast]; exact List.getElem?_set_self hbl, by simp⟩
    · obtain ⟨row, hrow, hmem⟩ := h.full q ex' hq j y hy (by omega)
      by_cases hy2 : b = y.toNat
      · refine ⟨⟨a, c, r.xs ++ [(k : Int)]⟩, by rw [← hy2]; exact List.getElem?_set_self hbl, ?_⟩
        rw [← hy2, hr] at hrow
        cases hrow
        exact List.mem_append_left _ hmem
      · exact ⟨row, by rw [List.getElem?_set_ne hy2]; exact hrow, hmem⟩
  · intro q hq
    rcases List.mem_or_eq_of_mem_set hq with hq | rfl
    · have := h.len q hq; omega
    · have := h.len r (List.mem_of_getElem? hr)
      simp; omega

set_option maxHeartbeats 4000000 in
theorem listingOf_any (a : Option Addr) (cap n : Nat) (xs : List Excl) (w : World) (h : Es Any w a xs) (hl : xs.length ≤ 131072) (hi : ∀ r ∈ xs, r.roles.xs.length ≤ 131072) (hr : ∀ r ∈ xs, ∀ y ∈ r.roles.xs, 0 ≤ y ∧ y < (n : Int)) (hn : n ≤ 131072) :
    Calls Try.prog 29 #[.slice a xs.length cap, .int .i64 (n : Int)] w fun e w' => ∃ a' cap' rows, e = .returned (.slice a' n cap') ∧ rows.length = n ∧ Lst xs xs.length 0 rows ∧ Rs Any w' a' rows ∧ Below w.heap.size w w' := by
  have hmk := make42 n (by omega)
  go_enter Try.func29, Try.ntmps29
  go_wp2
  go_loopg [14] xs.length (fun g i wr => ∃ (k : Nat) (rows : List IRow), k + g = xs.length ∧ i = .int .i64 k ∧ rows.length = n ∧ Tab wr w.heap.size rows ∧ Lst xs k 0 rows ∧ Below w.heap.size w wr)
  case atStart =>
    refine ⟨0, List.replicate n ⟨none, 0, []⟩, by omega, rfl, by simp, ⟨?_, ?_, ?_⟩, Lst.zero xs n, (Below.refl _ _).alloc (Nat.le_refl _) _⟩
    · rw [List.map_replicate]; exact Blk.new' w 45 n _
    · intro i r hr
      obtain rfl := (List.mem_replicate.1 (List.mem_of_getElem? hr)).2
      exact OwnI.nil _ _
    · intro i j ri rj _ hi _
      obtain rfl := (List.mem_replicate.1 (List.mem_of_getElem? hi)).2
      exact .inl rfl
  case round =>
    obtain ⟨k, rows, hk, rfl, hrl, ht, hls, hbl⟩ := hrel
    have Hrl : Hid (rows.length = n) := hrl
    clear hrl
    by_cases hlt : k < xs.length
    · obtain ⟨⟨b, off, ha, _, q0, q1⟩, his⟩ := (h.keep (keepsB hbl Any)) k xs[k] (List.getElem?_eq_getElem hlt)
      subst ha
      have hlt' : (k : Int) < (xs.length : Int) := by omega
      have h0' : (0 : Int) ≤ (k : Int) := by omega
      have HG : Hid (xs[k]? = some xs[k]) := List.getElem?_eq_getElem hlt
      have hil := hi xs[k] (List.getElem_mem hlt)
      have hrr := hr xs[k] (List.getElem_mem hlt)
      have hbw : b < wr.heap.size := cell_lt q0
      generalize xs[k] = r at *
      obtain ⟨⟨ra, rcap, rxs⟩, lim⟩ := r
      unfold IRow.val at q0
      dsimp only at q0 q1 his hil hrr
      go_wp2
      generalize wr = w0 at *
      generalize gk = g0 at *
      have ht0 := ht.alloc (.cells #[.slice ra rxs.length rcap, .int .i64 lim] 78)
      have hbl0 : Below w.heap.size w (w0.alloc (.cells #[.slice ra rxs.length rcap, .int .i64 lim] 78)) := hbl.alloc hbl.size _
      generalize (w0.alloc (.cells #[.slice ra rxs.length rcap, .int .i64 lim] 78)) = w1 at *
      have hisw : Is Any w ra rxs := (h k _ HG.out).2
      go_loopg [22] rxs.length (fun g i wr => ∃ (m : Nat) (rows : List IRow), m + g = rxs.length ∧ i = .int .i64 m ∧ rows.length = n ∧ Tab wr w.heap.size rows ∧ Lst xs k m rows ∧ Below w.heap.size w wr)
      case atStart => exact ⟨0, rows, by omega, rfl, Hrl.out, ht0, hls, hbl0⟩
      case round =>
        clear ht0 hbl0 ht hls hbl Hrl his
        obtain ⟨m, rs, hm, rfl, hrl, ht, hls, hbl⟩ := hrel
        have Hrl : Hid (rs.length = n) := hrl
        clear hrl
        by_cases hlt2 : m < rxs.length
        · obtain ⟨b2, off2, ha2, _, hc⟩ := (hisw.keep (keepsB hbl Any)) m rxs[m] (List.getElem?_eq_getElem hlt2)
          subst ha2
          obtain ⟨hy0, hyn⟩ := hrr rxs[m] (List.getElem_mem hlt2)
          have HG2 : Hid (rxs[m]? = some rxs[m]) := List.getElem?_eq_getElem hlt2
          generalize rxs[m] = y at *
          obtain ⟨bb, rfl⟩ := Int.eq_ofNat_of_zero_le hy0
          have hbb : bb < rs.length := by rw [Hrl.out]; omega
          have HR : Hid (rs[bb]? = some rs[bb]) := List.getElem?_eq_getElem hbb
          have hcr := (ht.blk.cell bb).trans (by rw [List.getElem?_map, HR.out]; rfl : (rs.map IRow.val)[bb]? = some rs[bb].val)
          have hown := ht.own bb _ HR.out
          have hlen := hls.len _ (List.mem_of_getElem? HR.out)
          have hfr := ht.blk.frozen bb
          have hzz := ht.blk.lt
          generalize rs[bb] = row at *
          unfold IRow.val at hcr
          have hlt2' : (m : Int) < (rxs.length : Int) := by omega
          have h02' : (0 : Int) ≤ (m : Int) := by omega
          have hrl2 : row.xs.length ≤ 1099511627776 := by
            have h1 : k * cap17 ≤ 131072 * cap17 := Nat.mul_le_mul_right _ (by omega)
            have h2 : 131072 * cap17 = 17179869184 := rfl
            omega
          clear hlen
          go_wp2_with (at_builtin; refine wpList_app45 _ rfl (.tmp 31) (.tmp 33) rfl (w.heap.size + 1) row rfl ?_ ⟨wr.heap.size, 0, none⟩ (k : Int) rfl ?_ ?_ ?_ ?_)
          · exact hown.alloc _
          · simp
          · exact hrl2
          · simp; omega
          · intro g' cap' w' ho hg hl hg'
            have hvn : row.val.ownBlock ≠ some w.heap.size := fun e => by have := (hown.lt _ e).1; omega
            have hgl : row.val.ownBlock = some g' ∨ g' = (wr.alloc (.cells #[.int .i64 (k : Int)] 3)).heap.size := by simpa using hl
            have T : Hid (Tab (w'.setCell ⟨w.heap.size, bb, none⟩ (.slice (some ⟨g', 0, none⟩) (row.xs.length + 1) cap')) w.heap.size (rs.set bb ⟨some ⟨g', 0, none⟩, cap', row.xs ++ [(k : Int)]⟩)) := (ht.alloc _).app HR.out ho hg hgl _ rfl
            have hb' : w'.heap[w.heap.size]? = (wr.alloc (.cells #[.int .i64 (k : Int)] 3)).heap[w.heap.size]? := hg.block _ (ht.alloc _).blk.lt (fun e => hvn e.symm)
            have hcr' : w'.cell? ⟨w.heap.size, bb, none⟩ = some (.slice row.a row.xs.length row.cap) := (World.cell?_of_block hb').trans ((World.cell?_alloc_past _ _ _ ht.blk.lt).trans hcr)
            have hfr' : w'.frozen? ⟨w.heap.size, bb, none⟩ = false := (World.frozen?_of_block hb').trans ((World.frozen?_alloc_past _ _ _ ht.blk.lt).trans hfr)
            have BL : Hid (Below w.heap.size w w') := (hbl.alloc hbl.size _).grown hg (by simp; have := hbl.size; omega) (fun q e => by have := (hown.lt _ e).1; omega)
            have LS := hls.app HG.out HG2.out HR.out (some ⟨g', 0, none⟩) cap'
            clear hl hgl hb' hg ho
            go_wp2
            go_roundg (gk - 1)
            case measure => omega
            case rel => exact ⟨m + 1, _, by omega, by go_num, by rw [List.length_set]; exact Hrl.out, T.out, LS, BL.out.setCell (Nat.le_refl _) _⟩
        · have hme : rxs.length ≤ m := by omega
          have LS := hls.next HG.out hme (by rw [cap17_eq]; omega)
          go_wp2
          go_roundg (g0 - 1)
          case measure => omega
          case rel => exact ⟨k + 1, rs, by omega, by go_num, Hrl.out, ht, LS, hbl⟩
    · go_wp2
      go_ret
      have hke : k = xs.length := by omega
      subst hke
      exact ⟨_, _, rows, rfl, Hrl.out, hls, ht.blk.rs trivial fun r hr => by
        obtain ⟨i, hi⟩ := List.getElem?_of_mem hr
        exact (ht.own i r hi).is.mono fun _ _ _ => trivial, hbl⟩
end Go.Proofs.Qxb6604686a
