/-
  The model's plain laws: a condition bit by bit and word by word; the search by a stack over flags.
-/
import Derived.Test.Qxb6604686aM1
namespace Go.Proofs.Qxb6604686a
set_option linter.unusedVariables false

/-- No bit at or beyond n is set. -/
def Within (n : Nat) (ws : List Nat) : Prop := ∀ j, n ≤ j → bit ws j = false
theorem bit_of {ws : List Nat} {i x t : Nat} (h : ws[i]? = some x) (ht : t < 64) : bit ws (64 * i + t) = x.testBit t := by
  unfold bit
  rw [show (64 * i + t) / 64 = i by omega, show (64 * i + t) % 64 = t by omega, List.getD_eq_getElem?_getD, h]
  rfl
theorem word_bit {x t : Nat} (h : Word x) (ht : x.testBit t = true) : t < 64 := by
  rcases Nat.lt_or_ge t 64 with h1 | h1
  · exact h1
  · have h2 : x < 2 ^ t := Nat.lt_of_lt_of_le h (Nat.pow_le_pow_right (by decide) h1)
    rw [Nat.testBit_lt_two_pow h2] at ht
    cases ht
theorem cond_bits {n N : Nat} {au rq fb : List Nat} (hn : n ≤ 64 * N) (l1 : rq.length = N) (l2 : fb.length = N) (l3 : au.length = N) (hr : ∀ x ∈ rq, Word x) (hf : ∀ x ∈ fb, Word x) (wr : Within n rq) (wf : Within n fb) : BitsTo n au rq fb ↔ CondTo N au rq fb := by
  constructor
  · intro h i x r f hi hx hr' hf'
    refine ⟨Nat.eq_of_testBit_eq fun t => ?_, Nat.eq_of_testBit_eq fun t => ?_⟩
    · rw [Nat.testBit_and]
      cases hc : r.testBit t with
      | false => simp
      | true =>
        have ht := word_bit (hr r (List.mem_of_getElem? hr')) hc
        have hb := (bit_of hr' ht).trans hc
        have hlt : 64 * i + t < n := by
          rcases Nat.lt_or_ge (64 * i + t) n with h1 | h1
          · exact h1
          · rw [wr _ h1] at hb; cases hb
        have h2 := (h _ hlt).1 hb
        rw [bit_of hx ht] at h2
        rw [h2]; rfl
    · rw [Nat.testBit_and, Nat.zero_testBit]
      cases hc : f.testBit t with
      | false => simp
      | true =>
        have ht := word_bit (hf f (List.mem_of_getElem? hf')) hc
        have hb := (bit_of hf' ht).trans hc
        have hlt : 64 * i + t < n := by
          rcases Nat.lt_or_ge (64 * i + t) n with h1 | h1
          · exact h1
          · rw [wf _ h1] at hb; cases hb
        have h2 := (h _ hlt).2 hb
        rw [bit_of hx ht] at h2
        rw [h2]; rfl
  · intro h i hi
    have h1 : i / 64 < rq.length := by omega
    have h2 : i / 64 < fb.length := by omega
    have h3 : i / 64 < au.length := by omega
    have ht : i % 64 < 64 := Nat.mod_lt _ (by decide)
    have hm : 64 * (i / 64) + i % 64 = i := Nat.div_add_mod i 64
    obtain ⟨c1, c2⟩ := h (i / 64) _ _ _ (by omega) (List.getElem?_eq_getElem h3) (List.getElem?_eq_getElem h1) (List.getElem?_eq_getElem h2)
    have e1 := bit_of (List.getElem?_eq_getElem h1) ht
    have e2 := bit_of (List.getElem?_eq_getElem h2) ht
    have e3 := bit_of (List.getElem?_eq_getElem h3) ht
    rw [hm] at e1 e2 e3
    refine ⟨fun hb => ?_, fun hb => ?_⟩
    · rw [e1] at hb
      rw [e3]
      have := congrArg (Nat.testBit · (i % 64)) c1
      simp only [Nat.testBit_and, hb, Bool.and_true] at this
      exact this
    · rw [e2] at hb
      rw [e3]
      have := congrArg (Nat.testBit · (i % 64)) c2
      simp only [Nat.testBit_and, hb, Bool.and_true, Nat.zero_testBit] at this
      exact this

/-! ### The search by a stack -/
def falses : List Bool → Nat
  | [] => 0
  | b :: t => (if b then 0 else 1) + falses t
theorem falses_set : ∀ (fs : List Bool) (j : Nat), fs[j]? = some false → falses (fs.set j true) + 1 = falses fs
  | [], j, h => by simp at h
  | b :: t, 0, h => by
    simp only [List.getElem?_cons_zero, Option.some.injEq] at h
    subst h
    simp [falses]; omega
  | b :: t, j + 1, h => by
    simp only [List.getElem?_cons_succ] at h
    have := falses_set t j h
    simp only [List.set_cons_succ, falses]
    omega
theorem falses_rep : ∀ n, falses (List.replicate n false) = n
  | 0 => rfl
  | n + 1 => by simp [List.replicate_succ, falses, falses_rep n]; omega
theorem flag_set {fs : List Bool} {j b : Nat} (hj : j < fs.length) : (fs.set j true)[b]? = some true ↔ b = j ∨ fs[b]? = some true := by
  rw [List.getElem?_set]
  by_cases h : j = b
  · subst h; simp [hj]
  · have : ¬ b = j := fun e => h e.symm
    simp [h, this]

structure Stk (J : Nat → List Int) (n r : Nat) (fs : List Bool) (td : List Int) (c : Nat) (ex : Option Nat) : Prop where
  len : fs.length = n
  sound : ∀ b, fs[b]? = some true → Reach J r b
  stack : ∀ y ∈ td, ∃ b : Nat, y = (b : Int) ∧ fs[b]? = some true
  exin : ∀ i, ex = some i → fs[i]? = some true
  closed : ∀ i : Nat, fs[i]? = some true → (i : Int) ∈ td ∨ ex = some i ∨ ∀ j : Nat, (j : Int) ∈ J i → fs[j]? = some true
  root : fs[r]? = some true
  room : falses fs + td.length = c
theorem Stk.start {J : Nat → List Int} {n r : Nat} (hr : r < n) : Stk J n r ((List.replicate n false).set r true) [(r : Int)] n none := by
  have hl : r < (List.replicate n false).length := by simpa using hr
  have key : ∀ b, ((List.replicate n false).set r true)[b]? = some true ↔ b = r := fun b => by
    rw [flag_set hl]
    simp [List.getElem?_replicate]
  refine ⟨by simp, fun b hb => ?_, fun y hy => ?_, fun i h => (by cases h), fun i hi => ?_, (key r).2 rfl, ?_⟩
  · rw [(key b).1 hb]; exact Reach.self J r
  · obtain rfl := List.mem_singleton.1 hy
    exact ⟨r, rfl, (key r).2 rfl⟩
  · rw [(key i).1 hi]; simp
  · have := falses_set (List.replicate n false) r (by simp [hr])
    rw [falses_rep] at this
    simpa using this
theorem Stk.pop {J : Nat → List Int} {n r : Nat} {fs : List Bool} {td : List Int} {i : Nat} {c : Nat} (h : Stk J n r fs (td ++ [(i : Int)]) (c + 1) none) : Stk J n r fs td c (some i) := by
  obtain ⟨b, hb, hf⟩ := h.stack (i : Int) (by simp)
  have : b = i := by omega
  subst this
  refine ⟨h.len, h.sound, fun y hy => h.stack y (by simp [hy]), fun i0 e => (by cases e; exact hf), fun i' hi' => ?_, h.root, ?_⟩
  · rcases h.closed i' hi' with h1 | h1 | h1
    · rcases List.mem_append.1 h1 with h1 | h1
      · exact .inl h1
      · have := List.mem_singleton.1 h1
        have : i' = b := by omega
        exact .inr (.inl (by rw [this]))
    · cases h1
    · exact .inr (.inr h1)
  · have := h.room
    simp only [List.length_append, List.length_singleton] at this
    omega
theorem Stk.top {J : Nat → List Int} {n r : Nat} {fs : List Bool} {td : List Int} {y : Int} {c : Nat} {ex : Option Nat} (h : Stk J n r fs (td ++ [y]) c ex) : ∃ i : Nat, y = (i : Int) ∧ i < n := by
  obtain ⟨b, hb, hf⟩ := h.stack y (by simp)
  exact ⟨b, hb, by rw [← h.len]; exact (List.getElem?_eq_some_iff.1 hf).1⟩
theorem Stk.push {J : Nat → List Int} {n r : Nat} {fs : List Bool} {td : List Int} {c i j : Nat} (h : Stk J n r fs td c (some i)) (hj : (j : Int) ∈ J i) (h0 : fs[j]? = some false) : Stk J n r (fs.set j true) (td ++ [(j : Int)]) c (some i) := by
  have hl : j < fs.length := (List.getElem?_eq_some_iff.1 h0).1
  have up : ∀ b, fs[b]? = some true → (fs.set j true)[b]? = some true := fun b hb => (flag_set hl).2 (.inr hb)
  refine ⟨by simpa using h.len, fun b hb => ?_, fun y hy => ?_, fun i' e => up _ (h.exin i' e), fun i' hi' => ?_, up _ h.root, ?_⟩
  · rcases (flag_set hl).1 hb with rfl | hb
    · exact (h.sound i (h.exin i rfl)).step hj
    · exact h.sound b hb
  · rcases List.mem_append.1 hy with hy | hy
    · obtain ⟨b, e, hb⟩ := h.stack y hy
      exact ⟨b, e, up b hb⟩
    · obtain rfl := List.mem_singleton.1 hy
      exact ⟨j, rfl, (flag_set hl).2 (.inl rfl)⟩
  · rcases (flag_set hl).1 hi' with rfl | hi'
    · exact .inl (by simp)
    · rcases h.closed i' hi' with h1 | h1 | h1
      · exact .inl (List.mem_append_left _ h1)
      · exact .inr (.inl h1)
      · exact .inr (.inr fun q hq => up q (h1 q hq))
  · have h1 := falses_set fs j h0
    have h2 := h.room
    simp only [List.length_append, List.length_singleton]
    omega
def RowF (fs : List Bool) (xs : List Int) (m : Nat) : Prop := ∀ (q : Nat) (y : Int), q < m → xs[q]? = some y → fs[y.toNat]? = some true
theorem RowF.set {fs : List Bool} {xs : List Int} {m : Nat} (h : RowF fs xs m) {j : Nat} (hl : j < fs.length) : RowF (fs.set j true) xs m := fun q y hq hy => (flag_set hl).2 (.inr (h q y hq hy))
theorem RowF.succ {fs : List Bool} {xs : List Int} {m : Nat} (h : RowF fs xs m) {j : Nat} (hj : xs[m]? = some (j : Int)) (hb : fs[j]? = some true) : RowF fs xs (m + 1) := fun q y hq hy => by
  by_cases hqm : q = m
  · subst hqm
    rw [hj] at hy
    cases hy
    simpa using hb
  · exact h q y (by omega) hy
theorem Stk.fin {J : Nat → List Int} {n r : Nat} {fs : List Bool} {td : List Int} {c i : Nat} (h : Stk J n r fs td c (some i)) (hr : RowF fs (J i) (J i).length) : Stk J n r fs td c none := by
  refine ⟨h.len, h.sound, h.stack, fun i e => (by cases e), fun i' hi' => ?_, h.root, h.room⟩
  rcases h.closed i' hi' with h1 | h1 | h1
  · exact .inl h1
  · cases h1
    refine .inr (.inr fun j hj => ?_)
    obtain ⟨q, hq⟩ := List.getElem?_of_mem hj
    have := hr q _ (List.getElem?_eq_some_iff.1 hq).1 hq
    simpa using this
  · exact .inr (.inr h1)
theorem Stk.done {J : Nat → List Int} {n r : Nat} {fs : List Bool} {c : Nat} (h : Stk J n r fs [] c none) (b : Nat) : fs[b]? = some true ↔ Reach J r b := by
  refine ⟨h.sound b, fun hR => hR (fun b => fs[b]? = some true) h.root fun i j hi hj => ?_⟩
  rcases h.closed i hi with h1 | h1 | h1
  · simp at h1
  · cases h1
  · exact h1 j hj
end Go.Proofs.Qxb6604686a
