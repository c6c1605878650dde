import Derived.Test.Qxb6604715aRows
import Derived.WalkKit
import Derived.ProofKit
import Derived.Laws.EntriesVeiled
import Derived.Laws.StructEq
import Derived.Laws.Tables
import Derived.Outline
namespace Go.Proofs.Qxb6604715a.fnOnErrorTouchesOnlyReport
open Go.ChangeShapes Go.WideShapes Go.ChangeAt Go.RowKit
set_option linter.unusedVariables false

/-- What is used of the cells of '&Checker{maxFileSize: m}' (1,044 of them), and of the same with its report set. -/
structure Chk (m : Int) (r : Value) (cs : Array Value) : Prop where
  size : cs.size = 1044
  p0 : cs[0]? = some (.int .i64 0)
  p1 : cs[1]? = some (.int .i64 0)
  p2 : cs[2]? = some (.int .i64 0)
  p3 : cs[3]? = some (.int .i64 0)
  p4 : cs[4]? = some (.int .i64 0)
  given : cs[1032]? = some (.slice none 0 0)
  dirs : cs[1033]? = some (.slice none 0 0)
  max : cs[1034]? = some (.int .i64 m)
  fetch : cs[1035]? = some (.pointer none)
  ocsp : cs[1036]? = some (.pointer none)
  rep : cs[1037]? = some r

theorem chk85 (m : Int) : Chk m .nilFunc (Try.zeroCells85.setIfInBounds 1034 (.int .i64 m)) :=
  ⟨by kernel_rfl, by kernel_rfl, by kernel_rfl, by kernel_rfl, by kernel_rfl, by kernel_rfl, by kernel_rfl, by kernel_rfl, by kernel_rfl, by kernel_rfl, by kernel_rfl, by kernel_rfl⟩

set_option maxHeartbeats 400000 in
theorem new_any (m : Int) (w : World) :
    Calls Try.prog 7 #[.int .i64 m] w fun e w' => e = .returned (.pointer (some ⟨w.heap.size, 0, none⟩)) ∧ ∃ cs, Chk m .nilFunc cs ∧ w' = w.alloc (.cells cs 85) := by
  have hc := chk85 m
  go_enter Try.func7, Try.ntmps7
  go_wp2
  go_ret
  exact ⟨rfl, _, hc, rfl⟩

set_option maxHeartbeats 400000 in
theorem onError_any (r : Value) (hr : r = .nilFunc ∨ r = .func (.func 9) #[] #[]) (w : World) :
    Calls Try.prog 8 #[r] w fun e w' => e = .returned (.func (.func 22) #[] #[.pointer (some ⟨w.heap.size, 0, none⟩)]) ∧ w' = w.alloc (.cells #[r] 27) := by
  rcases hr with rfl | rfl
  · go_enter Try.func8, Try.ntmps8
    go_wp2
    go_ret
    exact ⟨rfl, rfl⟩
  · go_enter Try.func8, Try.ntmps8
    go_wp2
    go_ret
    exact ⟨rfl, rfl⟩

/-- What is used of a Checker at block b. -/
structure At (w : World) (b : Nat) (m : Int) (r : Value) : Prop where
  lt : b < w.heap.size
  p0 : w.cell? ⟨b, 0, none⟩ = some (.int .i64 0)
  p1 : w.cell? ⟨b, 1, none⟩ = some (.int .i64 0)
  p2 : w.cell? ⟨b, 2, none⟩ = some (.int .i64 0)
  p3 : w.cell? ⟨b, 3, none⟩ = some (.int .i64 0)
  p4 : w.cell? ⟨b, 4, none⟩ = some (.int .i64 0)
  given : w.cell? ⟨b, 1032, none⟩ = some (.slice none 0 0)
  dirs : w.cell? ⟨b, 1033, none⟩ = some (.slice none 0 0)
  max : w.cell? ⟨b, 1034, none⟩ = some (.int .i64 m)
  fetch : w.cell? ⟨b, 1035, none⟩ = some (.pointer none)
  ocsp : w.cell? ⟨b, 1036, none⟩ = some (.pointer none)
  rep : w.cell? ⟨b, 1037, none⟩ = some r
  free : w.frozen? ⟨b, 1037, none⟩ = false

theorem Chk.at {m : Int} {r : Value} {cs : Array Value} (h : Chk m r cs) (w : World) : At (w.alloc (.cells cs 85)) w.heap.size m r :=
  ⟨by simp, by simp [h.p0], by simp [h.p1], by simp [h.p2], by simp [h.p3], by simp [h.p4], by simp [h.given], by simp [h.dirs], by simp [h.max], by simp [h.fetch], by simp [h.ocsp], by simp [h.rep], by simp⟩

theorem At.alloc {w : World} {b : Nat} {m : Int} {r : Value} (h : At w b m r) (o : Obj) : At (w.alloc o) b m r := by
  have e : ∀ i, (w.alloc o).cell? ⟨b, i, none⟩ = w.cell? ⟨b, i, none⟩ := fun i => World.cell?_alloc_past _ _ _ h.lt
  have f : (w.alloc o).frozen? ⟨b, 1037, none⟩ = w.frozen? ⟨b, 1037, none⟩ := World.frozen?_alloc_past _ _ _ h.lt
  exact ⟨by simp; have := h.lt; omega, (e _).trans h.p0, (e _).trans h.p1, (e _).trans h.p2, (e _).trans h.p3, (e _).trans h.p4, (e _).trans h.given, (e _).trans h.dirs, (e _).trans h.max, (e _).trans h.fetch, (e _).trans h.ocsp, (e _).trans h.rep, f.trans h.free⟩

theorem At.set {w : World} {b : Nat} {m : Int} {r : Value} (h : At w b m r) (r' : Value) : At (w.setCell ⟨b, 1037, none⟩ r') b m r' := by
  have e : ∀ i, i ≠ 1037 → (w.setCell ⟨b, 1037, none⟩ r').cell? ⟨b, i, none⟩ = w.cell? ⟨b, i, none⟩ := fun i hi => World.cell?_setCell_other _ _ _ _ (by intro e; cases e; exact hi rfl)
  exact ⟨by simpa [World.setCell] using h.lt, (e 0 (by decide)).trans h.p0, (e 1 (by decide)).trans h.p1, (e 2 (by decide)).trans h.p2, (e 3 (by decide)).trans h.p3, (e 4 (by decide)).trans h.p4, (e 1032 (by decide)).trans h.given, (e 1033 (by decide)).trans h.dirs, (e 1034 (by decide)).trans h.max, (e 1035 (by decide)).trans h.fetch, (e 1036 (by decide)).trans h.ocsp, World.cell?_setCell_same _ _ _ h.rep, (World.frozen?_setCell _ _ _ _).trans h.free⟩

set_option maxHeartbeats 400000 in
theorem lit_any (b c : Nat) (r r' : Value) (hr : r' = .nilFunc ∨ r' = .func (.func 9) #[] #[]) (w : World) (h1 : w.cell? ⟨b, 1037, none⟩ = some r) (h2 : w.frozen? ⟨b, 1037, none⟩ = false) (hc : w.cell? ⟨c, 0, none⟩ = some r') :
    Calls Try.prog 22 #[.pointer (some ⟨b, 0, none⟩), .pointer (some ⟨c, 0, none⟩)] w fun e w' => e = .returned (.tuple #[]) ∧ w' = w.setCell ⟨b, 1037, none⟩ r' := by
  rcases hr with rfl | rfl
  · go_enter Try.func22, Try.ntmps22
    go_wp2
    go_end0
    exact ⟨rfl, rfl⟩
  · go_enter Try.func22, Try.ntmps22
    go_wp2
    go_end0
    exact ⟨rfl, rfl⟩

set_option maxHeartbeats 400000 in
theorem set_any (b c : Nat) (r r' : Value) (hr : r' = .nilFunc ∨ r' = .func (.func 9) #[] #[]) (w : World) (h1 : w.cell? ⟨b, 1037, none⟩ = some r) (h2 : w.frozen? ⟨b, 1037, none⟩ = false) (hc : w.cell? ⟨c, 0, none⟩ = some r') :
    Calls Try.prog 10 #[.pointer (some ⟨b, 0, none⟩), .func (.func 22) #[] #[.pointer (some ⟨c, 0, none⟩)]] w fun e w' => e = .returned (.tuple #[]) ∧ w' = w.setCell ⟨b, 1037, none⟩ r' := by
  go_enter Try.func10, Try.ntmps10
  go_wp2_with fail
  refine (lit_any b c r r' hr _ h1 h2 hc).mono ?_
  rintro e w' ⟨rfl, rfl⟩
  go_wp2_with fail
  go_end0
  exact ⟨rfl, rfl⟩

/-- Is the function value set? -/
def setB : Value → Bool
  | .nilFunc => false
  | _ => true

set_option maxHeartbeats 400000 in
theorem has_any (b : Nat) (r : Value) (hr : r = .nilFunc ∨ r = .func (.func 9) #[] #[]) (w : World) (h : w.cell? ⟨b, 1037, none⟩ = some r) :
    Calls Try.prog 23 #[.pointer (some ⟨b, 0, none⟩)] w fun e w' => e = .returned (.bool (setB r)) ∧ w' = w := by
  rcases hr with rfl | rfl
  · have hn : ∀ w, (binOp .neq 27 .nilFunc .nilFunc).run Try.prog w = .ok (.bool false) w := fun w => by kernel_rfl
    go_enter Try.func23, Try.ntmps23
    go_wp2
    go_ret
    exact ⟨rfl, rfl⟩
  · have hn : ∀ w, (binOp .neq 27 (.func (.func 9) #[] #[]) .nilFunc).run Try.prog w = .ok (.bool true) w := fun w => by kernel_rfl
    go_enter Try.func23, Try.ntmps23
    go_wp2
    go_ret
    exact ⟨rfl, rfl⟩
theorem max_any (b : Nat) (m : Int) (w : World) (h : w.cell? ⟨b, 1034, none⟩ = some (.int .i64 m)) :
    Calls Try.prog 24 #[.pointer (some ⟨b, 0, none⟩)] w fun e w' => e = .returned (.int .i64 m) ∧ w' = w := by
  go_enter Try.func24, Try.ntmps24
  go_wp2
  go_ret
  exact ⟨rfl, rfl⟩
theorem fetch_any (b : Nat) (w : World) (h : w.cell? ⟨b, 1035, none⟩ = some (.pointer none)) :
    Calls Try.prog 25 #[.pointer (some ⟨b, 0, none⟩)] w fun e w' => e = .returned (.bool false) ∧ w' = w := by
  go_enter Try.func25, Try.ntmps25
  go_wp2
  go_ret
  exact ⟨rfl, rfl⟩
theorem ocsp_any (b : Nat) (w : World) (h : w.cell? ⟨b, 1036, none⟩ = some (.pointer none)) :
    Calls Try.prog 26 #[.pointer (some ⟨b, 0, none⟩)] w fun e w' => e = .returned (.bool false) ∧ w' = w := by
  go_enter Try.func26, Try.ntmps26
  go_wp2
  go_ret
  exact ⟨rfl, rfl⟩
theorem given_any (b : Nat) (w : World) (h : w.cell? ⟨b, 1032, none⟩ = some (.slice none 0 0)) :
    Calls Try.prog 27 #[.pointer (some ⟨b, 0, none⟩)] w fun e w' => e = .returned (.int .i64 0) ∧ w' = w := by
  go_enter Try.func27, Try.ntmps27
  go_wp2
  go_ret
  exact ⟨rfl, rfl⟩
theorem dirs_any (b : Nat) (w : World) (h : w.cell? ⟨b, 1033, none⟩ = some (.slice none 0 0)) :
    Calls Try.prog 28 #[.pointer (some ⟨b, 0, none⟩)] w fun e w' => e = .returned (.int .i64 0) ∧ w' = w := by
  go_enter Try.func28, Try.ntmps28
  go_wp2
  go_ret
  exact ⟨rfl, rfl⟩
set_option maxHeartbeats 400000 in
theorem pol_any (b : Nat) (m : Int) (r : Value) (w : World) (h : At w b m r) :
    Calls Try.prog 29 #[.pointer (some ⟨b, 0, none⟩)] w fun e w' => e = .returned (.agg #[.int .i64 0, .int .i64 0, .int .i64 0, .int .i64 0, .int .i64 0]) ∧ ∃ cs, w' = w.alloc (.cells cs 49) := by
  have h0 := h.p0
  have h1 := h.p1
  have h2 := h.p2
  have h3 := h.p3
  have h4 := h.p4
  have hl := h.lt
  clear h
  go_enter Try.func29, Try.ntmps29
  go_wp2
  exact bodyPost_ret (v := .agg #[.int .i64 0, .int .i64 0, .int .i64 0, .int .i64 0, .int .i64 0]) (by simp [results, Try.results29, go_sem]) rfl ⟨rfl, _, rfl⟩

theorem eq49 (w : World) : (Op.equalIn 10000 49 (.agg #[.int .i64 0, .int .i64 0, .int .i64 0, .int .i64 0, .int .i64 0]) (.agg #[.int .i64 0, .int .i64 0, .int .i64 0, .int .i64 0, .int .i64 0])).run Try.prog w = .ok true w := by kernel_rfl
theorem guard49 : Try.prog.eqGuardType Try.prog.depth 49 = false := by kernel_rfl

/-- The words on the function value that the walk is handed. -/
def Rep (r : Value) : Prop := r = .nilFunc ∨ r = .func (.func 9) #[] #[]

theorem only_any (b : Nat) (m : Int) (r : Value) (hr : Rep r) (w : World) (h : At w b m r) :
    Calls Try.prog 11 #[.pointer (some ⟨b, 0, none⟩), .int .i64 m, .bool (setB r)] w fun e w' => e = .returned (.bool true) ∧ ∃ c1 c2 c3 : Array Value, w' = ((w.alloc (.cells c1 49)).alloc (.cells c2 49)).alloc (.cells c3 49) := by
  have g49 := guard49
  have q49 := eq49
  go_enter Try.func11, Try.ntmps11
  go_wp2_with fail
  refine (has_any b r hr _ h.rep).mono ?_
  rintro e w' ⟨rfl, rfl⟩
  go_wp2_with fail
  refine (max_any b m _ h.max).mono ?_
  rintro e w' ⟨rfl, rfl⟩
  go_wp2_with fail
  refine (fetch_any b _ h.fetch).mono ?_
  rintro e w' ⟨rfl, rfl⟩
  go_wp2_with fail
  refine (ocsp_any b _ h.ocsp).mono ?_
  rintro e w' ⟨rfl, rfl⟩
  go_wp2_with fail
  refine (given_any b _ h.given).mono ?_
  rintro e w' ⟨rfl, rfl⟩
  go_wp2_with fail
  refine (dirs_any b _ h.dirs).mono ?_
  rintro e w' ⟨rfl, rfl⟩
  go_wp2_with fail
  refine (pol_any b m r _ h).mono ?_
  rintro e w' ⟨rfl, cs, rfl⟩
  go_wp2_with fail
  go_ret
  exact ⟨rfl, _, _, _, rfl⟩

/-- What holds from OnError's call on: the Checker at b, the captured report r at c, nothing old turned. -/
structure St (w0 w : World) (b c : Nat) (m : Int) (r q : Value) : Prop where
  at' : At w b m q
  cell : w.cell? ⟨c, 0, none⟩ = some r
  lt : c < w.heap.size
  ne : b ≠ c
  old : w0.heap.size ≤ b
  grown : Grown w0 w
theorem St.set {w0 w : World} {b c : Nat} {m : Int} {r q : Value} (h : St w0 w b c m r q) : St w0 (w.setCell ⟨b, 1037, none⟩ r) b c m r r :=
  ⟨h.at'.set r, (World.cell?_setCell_other _ _ _ _ (by intro e; cases e)).trans h.cell, by simpa [World.setCell] using h.lt, h.ne, h.old, h.grown.setCell h.old r⟩
theorem St.alloc {w0 w : World} {b c : Nat} {m : Int} {r q : Value} (h : St w0 w b c m r q) (cs : Array Value) (t : TypeId) : St w0 (w.alloc (.cells cs t)) b c m r q :=
  ⟨h.at'.alloc _, (World.cell?_alloc_past _ _ _ h.lt).trans h.cell, by simp; have := h.lt; omega, h.ne, h.old, h.grown.alloc cs t⟩

set_option maxHeartbeats 1000000 in
theorem walk_in (m : Int) (s : Bool) (hm : ¬ m < 0) (w : World) :
    Calls Try.prog 3 #[.int .i64 m, .bool s] w fun e w' => e = .returned (.bool true) ∧ Grown w w' := by
  have hn : ∀ (c : Nat) w, (binOp .eql 25 (.func (.func 22) #[] #[.pointer (some ⟨c, 0, none⟩)]) .nilFunc).run Try.prog w = .ok (.bool false) w := fun c w => by kernel_rfl
  go_enter Try.func3, Try.ntmps3
  go_wp2_with fail
  refine (new_any m _).mono ?_
  rintro e w1 ⟨rfl, cs, hc, hw1⟩
  have A0 : At w1 w.heap.size m .nilFunc := hw1 ▸ hc.at w
  have G0 : Grown w w1 := hw1 ▸ (Grown.refl w).alloc cs 85
  clear hw1
  generalize hb : w.heap.size = b at A0
  have HB : Hid (w.heap.size ≤ b) := Nat.le_of_eq hb
  clear hb
  cases s
  · go_wp2_with fail
    refine (onError_any .nilFunc (.inl rfl) _).mono ?_
    rintro e w2 ⟨rfl, hw2⟩
    have S2 : St w w2 b w1.heap.size m .nilFunc .nilFunc := hw2 ▸ ⟨A0.alloc _, by simp, by simp, Nat.ne_of_lt A0.lt, HB.out, G0.alloc _ _⟩
    clear hw2 A0 G0
    generalize w1.heap.size = c at S2
    go_wp2_with fail
    refine (set_any b c .nilFunc .nilFunc (.inl rfl) _ S2.at'.rep S2.at'.free S2.cell).mono ?_
    rintro e w3 ⟨rfl, hw3⟩
    have S3 : St w w3 b c m .nilFunc .nilFunc := hw3 ▸ S2.set
    clear hw3 S2
    go_wp2_with fail
    refine (only_any b m .nilFunc (.inl rfl) _ S3.at').mono ?_
    rintro e w4 ⟨rfl, c1, c2, c3, hw4⟩
    have S4 : St w w4 b c m .nilFunc .nilFunc := hw4 ▸ ((S3.alloc c1 49).alloc c2 49).alloc c3 49
    clear hw4 S3
    go_wp2_with fail
    refine (set_any b c .nilFunc .nilFunc (.inl rfl) _ S4.at'.rep S4.at'.free S4.cell).mono ?_
    rintro e w5 ⟨rfl, hw5⟩
    have S5 : St w w5 b c m .nilFunc .nilFunc := hw5 ▸ S4.set
    clear hw5 S4
    go_wp2_with fail
    refine (only_any b m .nilFunc (.inl rfl) _ S5.at').mono ?_
    rintro e w6 ⟨rfl, c1', c2', c3', hw6⟩
    have S6 : St w w6 b c m .nilFunc .nilFunc := hw6 ▸ ((S5.alloc c1' 49).alloc c2' 49).alloc c3' 49
    clear hw6 S5
    go_wp2_with fail
    go_ret
    exact ⟨rfl, S6.grown⟩
  · go_wp2_with fail
    refine (onError_any (.func (.func 9) #[] #[]) (.inr rfl) _).mono ?_
    rintro e w2 ⟨rfl, hw2⟩
    have S2 : St w w2 b w1.heap.size m (.func (.func 9) #[] #[]) .nilFunc := hw2 ▸ ⟨A0.alloc _, by simp, by simp, Nat.ne_of_lt A0.lt, HB.out, G0.alloc _ _⟩
    clear hw2 A0 G0
    generalize w1.heap.size = c at S2
    go_wp2_with fail
    refine (set_any b c .nilFunc (.func (.func 9) #[] #[]) (.inr rfl) _ S2.at'.rep S2.at'.free S2.cell).mono ?_
    rintro e w3 ⟨rfl, hw3⟩
    have S3 : St w w3 b c m (.func (.func 9) #[] #[]) (.func (.func 9) #[] #[]) := hw3 ▸ S2.set
    clear hw3 S2
    go_wp2_with fail
    refine (only_any b m (.func (.func 9) #[] #[]) (.inr rfl) _ S3.at').mono ?_
    rintro e w4 ⟨rfl, c1, c2, c3, hw4⟩
    have S4 : St w w4 b c m (.func (.func 9) #[] #[]) (.func (.func 9) #[] #[]) := hw4 ▸ ((S3.alloc c1 49).alloc c2 49).alloc c3 49
    clear hw4 S3
    go_wp2_with fail
    refine (set_any b c (.func (.func 9) #[] #[]) (.func (.func 9) #[] #[]) (.inr rfl) _ S4.at'.rep S4.at'.free S4.cell).mono ?_
    rintro e w5 ⟨rfl, hw5⟩
    have S5 : St w w5 b c m (.func (.func 9) #[] #[]) (.func (.func 9) #[] #[]) := hw5 ▸ S4.set
    clear hw5 S4
    go_wp2_with fail
    refine (only_any b m (.func (.func 9) #[] #[]) (.inr rfl) _ S5.at').mono ?_
    rintro e w6 ⟨rfl, c1', c2', c3', hw6⟩
    have S6 : St w w6 b c m (.func (.func 9) #[] #[]) (.func (.func 9) #[] #[]) := hw6 ▸ ((S5.alloc c1' 49).alloc c2' 49).alloc c3' 49
    clear hw6 S5
    go_wp2_with fail
    go_ret
    exact ⟨rfl, S6.grown⟩

theorem walk (a0 : Int) (a1 : Bool) (w0 : (Lit.int .i64 a0).wf = true) (w : World) :
    Calls Try.prog 3 #[.int .i64 a0, .bool a1] w fun e w' => e = .returned (.bool true) ∧ Grown w w' := by
  by_cases hm : a0 < 0
  · go_enter Try.func3, Try.ntmps3
    go_wp2_with fail
    go_ret
    exact ⟨rfl, Grown.refl _⟩
  · exact walk_in a0 a1 hm w
end Go.Proofs.Qxb6604715a.fnOnErrorTouchesOnlyReport
