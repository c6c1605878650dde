import Derived.Test.Qxb6604686aPlain
import Derived.Test.Qxb6604686aW6
namespace Go.Proofs.Qxb6604686a
open Go.ChangeShapes Go.WideShapes Go.ChangeAt Go.RowKit
set_option linter.unusedVariables false

/-- The juniors of role i. -/
def jun (js : List IRow) (i : Nat) : List Int := match js[i]? with | some r => r.xs | none => []

theorem Kept.grown {S : Nat → Prop} {a w w' : World} {row : Option Nat} (h : Kept S a w) (hg : w.grownBy w' row) (hr : ∀ k, row = some k → a.heap.size ≤ k) : Kept S a w' :=
  ⟨hg.os.trans h.os, hg.tape.trans h.tape, hg.output.trans h.output, Nat.le_trans h.size hg.size, fun k hk hS => (hg.block k (Nat.lt_of_lt_of_le hk h.size) fun e => by have := hr k e.symm; omega).trans (h.block k hk hS)⟩
theorem Blk.grown {w w' : World} {g : Nat} {e : TypeId} {xs : List Value} (h : Blk w g e xs) {row : Option Nat} (hg : w.grownBy w' row) (hne : row ≠ some g) : Blk w' g e xs := (hg.block g h.lt fun e => hne e.symm).trans h
theorem Kept.keepsNe {bA : Nat} {w w' : World} (h : Kept (· = bA) w w') : Keeps (· ≠ bA) w w' := h.keeps fun _ hb hS => hb hS

theorem hasBit_len {D : Nat → Prop} (a : Option Addr) (cap i N : Nat) (xs : List Nat) (hN : xs.length = N) (w : World) (h : Ws D w a xs) (hi : i / 64 < N) (hn : N ≤ 131072) :
    Calls Try.prog 47 #[.slice a N cap, .int .i64 (i : Int)] w fun e w' => e = .returned (.bool (bit xs i)) ∧ w' = w := by
  subst hN; exact hasBit_any a cap i xs w h hi hn
theorem setBit_len (bA cap i N : Nat) (ws : List Nat) (hN : ws.length = N) (w : World) (h : Blk w bA 67 (ws.map fun x : Nat => Value.int .u64 (x : Int))) (hw : ∀ x ∈ ws, Word x) (hi : i / 64 < N) (hn : N ≤ 131072) :
    Calls Try.prog 59 #[.slice (some ⟨bA, 0, none⟩) N cap, .int .i64 (i : Int)] w fun e w' => e = .returned (.tuple #[]) ∧ Blk w' bA 67 ((setW ws i).map fun x : Nat => Value.int .u64 (x : Int)) ∧ Kept (· = bA) w w' := by
  subst hN; exact setBit_any bA cap i ws w h hw hi hn

/-- What the walk of authorize carries. -/
structure Aut (J : Nat → List Int) (n r bA : Nat) (ws0 : List Nat) (w wr : World) (ws : List Nat) (ad : IRow) : Prop where
  que : Que J n r ws0 ws ad.xs
  blk : Blk wr bA 67 (ws.map fun x : Nat => Value.int .u64 (x : Int))
  own : OwnI wr w.heap.size ad
  kept : Kept (· = bA) w wr
theorem Aut.alloc {J : Nat → List Int} {n r bA : Nat} {ws0 : List Nat} {w wr : World} {ws : List Nat} {ad : IRow} (h : Aut J n r bA ws0 w wr ws ad) (o : Obj) : Aut J n r bA ws0 w (wr.alloc o) ws ad := ⟨h.que, h.blk.alloc o, h.own.alloc o, h.kept.alloc o⟩
theorem Aut.ne {J : Nat → List Int} {n r bA : Nat} {ws0 : List Nat} {w wr : World} {ws : List Nat} {ad : IRow} (h : Aut J n r bA ws0 w wr ws ad) (hA : bA < w.heap.size) : ad.val.ownBlock ≠ some bA := fun e => by
  have := (h.own.lt _ e).1; omega

/-- One role more: behind setBit (wr to w1) and append (w1, one block more, to w2). -/
theorem Aut.add {J : Nat → List Int} {n r bA : Nat} {ws0 : List Nat} {w wr w1 w2 : World} {ws : List Nat} {ad : IRow} (h : Aut J n r bA ws0 w wr ws ad) (hA : bA < w.heap.size) {i j : Nat} (hi : (i : Int) ∈ ad.xs) (hj : (j : Int) ∈ J i) (hjn : j < n) (hl : j / 64 < ws.length) (h0 : bit ws j = false)
    (hb : Blk w1 bA 67 ((setW ws j).map fun x : Nat => Value.int .u64 (x : Int))) (hk : Kept (· = bA) wr w1) {o : Obj} {g c : Nat} (ho : OwnI w2 w.heap.size ⟨some ⟨g, 0, none⟩, c, ad.xs ++ [(j : Int)]⟩) (hg : (w1.alloc o).grownBy w2 ad.val.ownBlock) :
    Aut J n r bA ws0 w w2 (setW ws j) ⟨some ⟨g, 0, none⟩, c, ad.xs ++ [(j : Int)]⟩ :=
  ⟨h.que.add hi hj hjn hl h0, (hb.alloc o).grown hg (h.ne hA), ho, ((h.kept.trans hk).alloc o).grown hg fun k e => (h.own.lt k e).1⟩

def AutPost (J : Nat → List Int) (n r bA : Nat) (ws0 : List Nat) (w : World) (e : Ending) (w' : World) : Prop :=
  ∃ (ws : List Nat) (ad : IRow), e = .returned ad.val ∧ Closed J n r ws0 ws ad.xs ∧ ad.xs.length ≤ n ∧ Blk w' bA 67 (ws.map fun x : Nat => Value.int .u64 (x : Int)) ∧ OwnI w' w.heap.size ad ∧ Kept (· = bA) w w'

set_option maxHeartbeats 4000000 in
theorem authorize_any (aJ : Option Addr) (cJ bA cA n r : Nat) (js : List IRow) (ws0 : List Nat) (w : World) (hJ : Rs (· ≠ bA) w aJ js) (hnil : aJ = none ∨ js.length = n)
    (hB : Blk w bA 67 (ws0.map fun x : Nat => Value.int .u64 (x : Int))) (hw : ∀ x ∈ ws0, Word x) (hr : r < n) (hn : n ≤ 64 * ws0.length) (hn2 : ws0.length ≤ 131072) (hn3 : n ≤ 131072) (hh : Hier (jun js) n ws0) (hlen : ∀ q ∈ js, q.xs.length ≤ 131072) :
    Calls Try.prog 56 #[.slice aJ js.length cJ, .slice (some ⟨bA, 0, none⟩) ws0.length cA, .int .i64 (r : Int), .slice none 0 0] w (AutPost (jun js) n r bA ws0 w) := by
  have heq := fun (w : World) (a : Option Addr) (n c : Nat) => Lib.run_eql_slice_nil (P := Try.prog) w 89 45 a n c 0 0 Try.underlying89
  have hA := hB.lt
  have hrl : r / 64 < ws0.length := by omega
  cases hbit : bit ws0 r with
  | true =>
    have HC : Hid (Closed (jun js) n r ws0 ws0 []) := hh.has hr hw hbit
    have Hb : Hid (bit ws0 r = true) := hbit
    clear hbit
    go_enter Try.func56, Try.ntmps56
    go_wp2_with fail
    refine (hasBit_any (D := (· = bA)) (some ⟨bA, 0, none⟩) cA r ws0 _ (hB.ws hw rfl) hrl hn2).mono ?_
    rintro e w' ⟨rfl, rfl⟩
    rw [Hb.out]
    go_wp2
    go_ret
    exact ⟨ws0, ⟨none, 0, []⟩, rfl, HC.out, Nat.zero_le _, hB, OwnI.nil _ _, Kept.refl _ _⟩
  | false =>
    have HQ : Hid (Que (jun js) n r ws0 (setW ws0 r) [(r : Int)]) := Que.start hw hr hrl hbit
    have Hb : Hid (bit ws0 r = false) := hbit
    clear hbit
    go_enter Try.func56, Try.ntmps56
    go_wp2_with fail
    refine (hasBit_any (D := (· = bA)) (some ⟨bA, 0, none⟩) cA r ws0 _ (hB.ws hw rfl) hrl hn2).mono ?_
    rintro e w' ⟨rfl, rfl⟩
    rw [Hb.out]
    go_wp2_with fail
    refine (setBit_any bA cA r ws0 _ hB hw hrl hn2).mono ?_
    rintro e w1 ⟨rfl, hB1, hk1⟩
    go_wp2_with (at_builtin; refine wpList_app45 _ rfl (.tmp 19) (.tmp 21) rfl w'.heap.size ⟨none, 0, []⟩ rfl ?_ ⟨w1.heap.size, 0, none⟩ (r : Int) rfl ?_ ?_ ?_ ?_)
    · exact OwnI.nil _ _
    · simp
    · have := hk1.size; simp; omega
    · intro g c w2 ho hg hl hg2
      have A0 : Aut (jun js) n r bA ws0 w' w2 (setW ws0 r) ⟨some ⟨g, 0, none⟩, c, [(r : Int)]⟩ := ⟨HQ.out, (hB1.alloc _).grown hg (by simp [IRow.val, Value.ownBlock]), ho, (hk1.alloc _).grown hg (fun k e => by cases e)⟩
      clear ho hg hl hg2 hB1 hk1 HQ
      cases aJ with
      | none =>
        obtain rfl := hJ.nil
        have HC : Hid (Closed (jun []) n r ws0 (setW ws0 r) [(r : Int)]) := A0.que.done hh hr (fun i _ j hj => by simp [jun] at hj)
        go_wp2
        go_ret
        exact ⟨_, ⟨some ⟨g, 0, none⟩, c, [(r : Int)]⟩, rfl, HC.out, by simp; omega, A0.blk, A0.own, A0.kept⟩
      | some aj =>
        have Hjl : Hid (js.length = n) := hnil.resolve_left (by simp)
        clear hnil
        go_wp2
        go_loopg [3, 9] n (fun gh v i wr => ∃ (k : Nat) (ws : List Nat) (ad : IRow), k + gh = n ∧ i = .int .i64 k ∧ v = .slice ad.a ad.xs.length ad.cap ∧ k ≤ ad.xs.length ∧ Aut (jun js) n r bA ws0 w' wr ws ad ∧ Done (jun js) ws ad.xs k)
        case atStart => exact ⟨0, _, _, by omega, rfl, rfl, Nat.zero_le _, A0, fun p y hp => by omega⟩
        case round =>
          clear A0
          obtain ⟨k, ws, ad, hk, rfl, rfl, hka, A, hd⟩ := hrel
          have hdl := A.que.len_le
          by_cases hlt : k < ad.xs.length
          · have G0 : Hid (ad.xs[k]? = some ad.xs[k]) := List.getElem?_eq_getElem hlt
            obtain ⟨y0, hy0, hyn, _, _⟩ := A.que.new _ (List.mem_of_getElem? G0.out)
            have G1 : Hid (ad.xs[k]? = some (y0 : Int)) := by rw [← hy0]; exact G0.out
            clear G0 hy0
            have hyj : y0 < js.length := by rw [Hjl.out]; exact hyn
            have GR : Hid (js[y0]? = some js[y0]) := List.getElem?_eq_getElem hyj
            obtain ⟨⟨b0, o0, e0, _, c0⟩, hri⟩ := (hJ.keep A.kept.keepsNe) y0 _ GR.out
            cases e0
            obtain ⟨b1, o1, e1, _, c1⟩ := A.own.is k _ G1.out
            have hrl2 := hlen js[y0] (List.getElem_mem hyj)
            have JR : Hid (jun js y0 = js[y0].xs) := by unfold jun; rw [GR.out]; rfl
            have hrr := hh.range y0
            generalize js[y0] = row at *
            have HRR : Hid (∀ y ∈ row.xs, 0 ≤ y ∧ y < (n : Int)) := by rw [← JR.out]; exact hrr
            clear hrr
            unfold IRow.val at c0
            obtain ⟨ada, adc, adx⟩ := ad
            dsimp only at *
            subst e1
            have q1 : (k : Int) < (adx.length : Int) := by omega
            have q2 : (0 : Int) ≤ (k : Int) := by omega
            have q3 : (y0 : Int) < (js.length : Int) := by omega
            go_wp2
            have hriw : Is (· ≠ bA) w' row.a row.xs := (hJ y0 row GR.out).2
            clear hri c0 c1 q1 q2 q3 hlt
            generalize wr = w0 at *
            generalize gk = g0 at *
            go_loopg [3, 43] row.xs.length (fun gh v i wr => ∃ (m : Nat) (ws : List Nat) (ad : IRow), m + gh = row.xs.length ∧ i = .int .i64 m ∧ v = .slice ad.a ad.xs.length ad.cap ∧ Aut (jun js) n r bA ws0 w' wr ws ad ∧ Done (jun js) ws ad.xs k ∧ ad.xs[k]? = some (y0 : Int) ∧ RowIn ws row.xs m)
            case atStart => exact ⟨0, ws, ⟨some ⟨b1, o1, none⟩, adc, adx⟩, by omega, rfl, rfl, A, hd, G1.out, fun q y hq => by omega⟩
            case round =>
              clear A hd hka hdl G1
              obtain ⟨m, ws, ad, hm, rfl, rfl, A, hd, hg0, hri⟩ := hrel
              have G1 : Hid (ad.xs[k]? = some (y0 : Int)) := hg0
              clear hg0
              have hwl : Hid (ws.length = ws0.length) := A.que.len
              by_cases hlt2 : m < row.xs.length
              · have G2 : Hid (row.xs[m]? = some row.xs[m]) := List.getElem?_eq_getElem hlt2
                obtain ⟨hj0, hjn⟩ := HRR.out _ (List.getElem_mem hlt2)
                obtain ⟨b2, o2, e2, _, c2⟩ := (hriw.keep A.kept.keepsNe) m _ G2.out
                generalize row.xs[m] = y at *
                obtain ⟨j, rfl⟩ := Int.eq_ofNat_of_zero_le hj0
                have hjl : j / 64 < ws0.length := by omega
                have hjn' : j < n := by omega
                obtain ⟨rowa, rowc, rowx⟩ := row
                dsimp only at *
                subst e2
                have q1 : (m : Int) < (rowx.length : Int) := by omega
                have q2 : (0 : Int) ≤ (m : Int) := by omega
                have hws := A.blk.ws A.que.word (D := (· = bA)) rfl
                go_wp2_with fail
                refine (hasBit_len (D := (· = bA)) (some ⟨bA, 0, none⟩) cA j ws0.length ws hwl.out _ hws hjl hn2).mono ?_
                rintro e w3 ⟨rfl, hw3⟩
                subst hw3
                cases hbit : bit ws j with
                | true =>
                  have RS := hri.succ G2.out hbit
                  clear hbit
                  go_wp2
                  go_roundg (gk - 1)
                  case measure => omega
                  case rel => exact ⟨m + 1, ws, ad, by omega, by go_num, rfl, A, hd, G1.out, RS⟩
                | false =>
                  have Hb : Hid (bit ws j = false) := hbit
                  clear hbit
                  go_wp2_with fail
                  refine (setBit_len bA cA j ws0.length ws hwl.out _ A.blk A.que.word hjl hn2).mono ?_
                  rintro e w4 ⟨rfl, hB4, hk4⟩
                  have hadl := A.que.len_le
                  have hw4 : w'.heap.size ≤ w4.heap.size := Nat.le_trans A.kept.size hk4.size
                  have hown4 := A.own.keep hk4.keepsNe (fun b hb => by omega)
                  go_wp2_with (at_builtin; refine wpList_app45 _ rfl (.tmp 54) (.tmp 56) rfl w'.heap.size ad rfl ?_ ⟨w4.heap.size, 0, none⟩ (j : Int) rfl ?_ ?_ ?_ ?_)
                  · exact hown4.alloc _
                  · simp
                  · omega
                  · simp; omega
                  · intro g5 c5 w5 ho5 hg5 _ _
                    have hkl : k ≤ ad.xs.length := Nat.le_of_lt (List.getElem?_eq_some_iff.1 G1.out).1
                    have hjl' : j / 64 < ws.length := by rw [hwl.out]; exact hjl
                    have A5 := A.add hA (List.mem_of_getElem? G1.out) (by rw [JR.out]; exact List.mem_of_getElem? G2.out) hjn' hjl' Hb.out hB4 hk4 ho5 hg5
                    have D5 := hd.add hkl hjl' (j : Int)
                    have R5 := (hri.add hjl').succ G2.out (by rw [setW_bit ws j hjl' j]; simp)
                    have G5 : Hid ((ad.xs ++ [(j : Int)])[k]? = some (y0 : Int)) := by
                      show _ = _
                      rw [List.getElem?_append_left (List.getElem?_eq_some_iff.1 G1.out).1]; exact G1.out
                    clear ho5 hg5 hB4 hk4 hown4 hri hd A
                    go_wp2
                    go_roundg (gk - 1)
                    case measure => omega
                    case rel => exact ⟨m + 1, setW ws j, ⟨some ⟨g5, 0, none⟩, c5, ad.xs ++ [(j : Int)]⟩, by omega, by go_num, by simp, A5, D5, G5.out, R5⟩
              · have D5 : Done (jun js) ws ad.xs (k + 1) := hd.succ G1.out (by rw [JR.out]; intro q y hq hy; exact hri q y (by omega) hy)
                have hkl : k < ad.xs.length := (List.getElem?_eq_some_iff.1 G1.out).1
                have hadl := A.que.len_le
                go_wp2
                go_roundg (g0 - 1)
                case measure => omega
                case rel => exact ⟨k + 1, ws, ad, by omega, by go_num, rfl, hkl, A, D5⟩
          · have HC : Hid (Closed (jun js) n r ws0 ws ad.xs) := A.que.done hh hr (hd.all (by omega))
            go_wp2
            go_ret
            exact ⟨ws, ad, rfl, HC.out, hdl, A.blk, A.own, A.kept⟩
end Go.Proofs.Qxb6604686a
