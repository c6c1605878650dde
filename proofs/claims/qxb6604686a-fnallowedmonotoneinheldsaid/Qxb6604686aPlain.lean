/-
  The plain law of the search: the roles below r, found by a queue over words (authorize) or by a stack over flags (the model). No Go in sight.
-/
import Derived.Test.Qxb6604686aW9
namespace Go.Proofs.Qxb6604686a
set_option linter.unusedVariables false

/-- b lies below r (r itself counts): every set that holds r and is closed under J holds b. -/
def Reach (J : Nat → List Int) (r b : Nat) : Prop := ∀ S : Nat → Prop, S r → (∀ i j : Nat, S i → (j : Int) ∈ J i → S j) → S b
theorem Reach.self (J : Nat → List Int) (r : Nat) : Reach J r r := fun _ h _ => h
theorem Reach.step {J : Nat → List Int} {r i j : Nat} (h : Reach J r i) (hj : (j : Int) ∈ J i) : Reach J r j := fun S h0 hs => hs i j (h S h0 hs) hj

/-- How many of the first n bits are 0. -/
def zeros (ws : List Nat) : Nat → Nat
  | 0 => 0
  | n + 1 => zeros ws n + if bit ws n then 0 else 1
theorem zeros_le (ws : List Nat) : ∀ n, zeros ws n ≤ n
  | 0 => Nat.le_refl _
  | n + 1 => by have := zeros_le ws n; unfold zeros; split <;> omega
theorem zeros_set_hi (ws : List Nat) (b : Nat) (hb : b / 64 < ws.length) : ∀ n, n ≤ b → zeros (setW ws b) n = zeros ws n
  | 0, _ => rfl
  | n + 1, h => by
    unfold zeros
    rw [zeros_set_hi ws b hb n (by omega), setW_bit ws b hb n]
    have : ¬ b = n := by omega
    simp [this]
theorem zeros_set (ws : List Nat) (b : Nat) (hb : b / 64 < ws.length) (h0 : bit ws b = false) : ∀ n, b < n → zeros (setW ws b) n + 1 = zeros ws n
  | 0, h => by omega
  | n + 1, h => by
    unfold zeros
    by_cases hbn : b = n
    · subst hbn
      rw [zeros_set_hi ws b hb b (Nat.le_refl _), setW_bit ws b hb b, h0]
      simp
    · rw [← zeros_set ws b hb h0 n (by omega), setW_bit ws b hb n]
      have : decide (b = n) = false := by simp [hbn]
      rw [this, Bool.or_false]
      omega

/-- What the queue has come to: the set ws, out of ws0, and the roles added, in their order. -/
structure Que (J : Nat → List Int) (n r : Nat) (ws0 ws : List Nat) (ad : List Int) : Prop where
  len : ws.length = ws0.length
  word : ∀ x ∈ ws, Word x
  mem : ∀ b : Nat, b < n → (bit ws b = true ↔ bit ws0 b = true ∨ (b : Int) ∈ ad)
  new : ∀ y ∈ ad, ∃ b : Nat, y = (b : Int) ∧ b < n ∧ Reach J r b ∧ bit ws0 b = false
  root : (r : Int) ∈ ad
  room : ad.length + zeros ws n = zeros ws0 n
theorem Que.start {J : Nat → List Int} {n r : Nat} {ws0 : List Nat} (hw : ∀ x ∈ ws0, Word x) (hr : r < n) (hl : r / 64 < ws0.length) (h0 : bit ws0 r = false) : Que J n r ws0 (setW ws0 r) [(r : Int)] := by
  refine ⟨setW_len _ _, setW_word hw r hl, ?_, ?_, by simp, ?_⟩
  · intro b _
    rw [setW_bit ws0 r hl b, Bool.or_eq_true, decide_eq_true_eq, List.mem_singleton]
    constructor
    · rintro (h | h)
      · exact .inl h
      · exact .inr (by omega)
    · rintro (h | h)
      · exact .inl h
      · exact .inr (by omega)
  · intro y hy
    obtain rfl := List.mem_singleton.1 hy
    exact ⟨r, rfl, hr, Reach.self J r, h0⟩
  · have := zeros_set ws0 r hl h0 n hr
    simp; omega
theorem Que.add {J : Nat → List Int} {n r : Nat} {ws0 ws : List Nat} {ad : List Int} (h : Que J n r ws0 ws ad) {i j : Nat} (hi : (i : Int) ∈ ad) (hj : (j : Int) ∈ J i) (hjn : j < n) (hl : j / 64 < ws.length) (h0 : bit ws j = false) : Que J n r ws0 (setW ws j) (ad ++ [(j : Int)]) := by
  refine ⟨(setW_len _ _).trans h.len, setW_word h.word j hl, ?_, ?_, List.mem_append_left _ h.root, ?_⟩
  · intro b hb
    rw [setW_bit ws j hl b, Bool.or_eq_true, h.mem b hb]
    simp only [decide_eq_true_eq, List.mem_append, List.mem_singleton]
    constructor
    · rintro ((h1 | h1) | rfl)
      · exact .inl h1
      · exact .inr (.inl h1)
      · exact .inr (.inr rfl)
    · rintro (h1 | h1 | h1)
      · exact .inl (.inl h1)
      · exact .inl (.inr h1)
      · exact .inr (by omega)
  · intro y hy
    rcases List.mem_append.1 hy with hy | hy
    · exact h.new y hy
    · obtain rfl := List.mem_singleton.1 hy
      obtain ⟨b, hb, _, hR, _⟩ := h.new _ hi
      have hbi : b = i := by omega
      subst hbi
      refine ⟨j, rfl, hjn, hR.step hj, ?_⟩
      have := h.mem j hjn
      cases hc : bit ws0 j with
      | false => rfl
      | true => rw [this.2 (.inl hc)] at h0; cases h0
  · have h1 := zeros_set ws j hl h0 n hjn
    have h2 := h.room
    simp only [List.length_append, List.length_singleton]
    omega
theorem Que.len_le {J : Nat → List Int} {n r : Nat} {ws0 ws : List Nat} {ad : List Int} (h : Que J n r ws0 ws ad) : ad.length ≤ n := by
  have h1 := h.room
  have h2 := zeros_le ws0 n
  omega

/-- The queue has run dry: the set is what was there and all that lies below r. -/
structure Closed (J : Nat → List Int) (n r : Nat) (ws0 ws : List Nat) (ad : List Int) : Prop where
  len : ws.length = ws0.length
  word : ∀ x ∈ ws, Word x
  mem : ∀ b : Nat, b < n → (bit ws b = true ↔ bit ws0 b = true ∨ Reach J r b)
  new : ∀ b : Nat, b < n → ((b : Int) ∈ ad ↔ Reach J r b ∧ bit ws0 b = false)
  range : ∀ y ∈ ad, ∃ b : Nat, y = (b : Int) ∧ b < n

/-- The hierarchy: its roles in range, and ws0 closed under it. -/
structure Hier (J : Nat → List Int) (n : Nat) (ws0 : List Nat) : Prop where
  range : ∀ i : Nat, ∀ y ∈ J i, 0 ≤ y ∧ y < (n : Int)
  closed : ∀ i j : Nat, i < n → bit ws0 i = true → (j : Int) ∈ J i → bit ws0 j = true
theorem Hier.reach_lt {J : Nat → List Int} {n r : Nat} {ws0 : List Nat} (h : Hier J n ws0) (hr : r < n) {b : Nat} (hb : Reach J r b) : b < n :=
  hb (· < n) hr fun i j _ hj => by have := (h.range i j hj).2; omega
theorem Hier.has {J : Nat → List Int} {n r : Nat} {ws0 : List Nat} (h : Hier J n ws0) (hr : r < n) (hw : ∀ x ∈ ws0, Word x) (hb : bit ws0 r = true) : Closed J n r ws0 ws0 [] := by
  have key : ∀ b, Reach J r b → b < n ∧ bit ws0 b = true := fun b hR => hR (fun b => b < n ∧ bit ws0 b = true) ⟨hr, hb⟩ fun i j hi hj => ⟨by have := (h.range i j hj).2; omega, h.closed i j hi.1 hi.2 hj⟩
  refine ⟨rfl, hw, fun b _ => ⟨.inl, fun hc => hc.elim id fun hR => (key b hR).2⟩, fun b _ => ⟨fun hm => by simp at hm, fun ⟨hR, h0⟩ => ?_⟩, fun y hy => by simp at hy⟩
  rw [(key b hR).2] at h0; cases h0
theorem Que.done {J : Nat → List Int} {n r : Nat} {ws0 ws : List Nat} {ad : List Int} (h : Que J n r ws0 ws ad) (hh : Hier J n ws0) (hr : r < n)
    (hp : ∀ i : Nat, (i : Int) ∈ ad → ∀ j : Nat, (j : Int) ∈ J i → bit ws j = true) : Closed J n r ws0 ws ad := by
  have key : ∀ b, Reach J r b → b < n ∧ bit ws b = true := fun b hR => by
    refine hR (fun b => b < n ∧ bit ws b = true) ⟨hr, (h.mem r hr).2 (.inr h.root)⟩ fun i j hi hj => ?_
    have hjn : j < n := by have := (hh.range i j hj).2; omega
    refine ⟨hjn, ?_⟩
    rcases (h.mem i hi.1).1 hi.2 with h1 | h1
    · exact (h.mem j hjn).2 (.inl (hh.closed i j hi.1 h1 hj))
    · exact hp i h1 j hj
  refine ⟨h.len, h.word, fun b hb => ⟨fun hc => ?_, fun hc => ?_⟩, fun b hb => ⟨fun hc => ?_, fun ⟨hR, h0⟩ => ?_⟩, fun y hy => ?_⟩
  · rcases (h.mem b hb).1 hc with h1 | h1
    · exact .inl h1
    · obtain ⟨b', e, _, hR, _⟩ := h.new _ h1
      have : b' = b := by omega
      subst this
      exact .inr hR
  · rcases hc with hc | hc
    · exact (h.mem b hb).2 (.inl hc)
    · exact (key b hc).2
  · obtain ⟨b', e, _, hR, h0⟩ := h.new _ hc
    have : b' = b := by omega
    subst this
    exact ⟨hR, h0⟩
  · rcases (h.mem b hb).1 (key b hR).2 with h1 | h1
    · rw [h1] at h0; cases h0
    · exact h1
  · obtain ⟨b, e, hb, _⟩ := h.new y hy
    exact ⟨b, e, hb⟩

/-- The first k of the queue are looked through. -/
def Done (J : Nat → List Int) (ws : List Nat) (ad : List Int) (k : Nat) : Prop := ∀ (p : Nat) (y : Int), p < k → ad[p]? = some y → ∀ j : Nat, (j : Int) ∈ J y.toNat → bit ws j = true
/-- The first m of a row are in the set. -/
def RowIn (ws : List Nat) (xs : List Int) (m : Nat) : Prop := ∀ (q : Nat) (y : Int), q < m → xs[q]? = some y → bit ws y.toNat = true
theorem bit_mono {ws : List Nat} {b : Nat} (hl : b / 64 < ws.length) {j : Nat} (h : bit ws j = true) : bit (setW ws b) j = true := by rw [setW_bit ws b hl j, h]; rfl
theorem Done.add {J : Nat → List Int} {ws : List Nat} {ad : List Int} {k : Nat} (h : Done J ws ad k) (hk : k ≤ ad.length) {b : Nat} (hl : b / 64 < ws.length) (u : Int) : Done J (setW ws b) (ad ++ [u]) k := fun p y hp hy j hj => by
  rw [List.getElem?_append_left (by omega)] at hy
  exact bit_mono hl (h p y hp hy j hj)
theorem RowIn.add {ws : List Nat} {xs : List Int} {m : Nat} (h : RowIn ws xs m) {b : Nat} (hl : b / 64 < ws.length) : RowIn (setW ws b) xs m := fun q y hq hy => bit_mono hl (h q y hq hy)
theorem RowIn.succ {ws : List Nat} {xs : List Int} {m : Nat} (h : RowIn ws xs m) {j : Nat} (hj : xs[m]? = some (j : Int)) (hb : bit ws j = true) : RowIn ws xs (m + 1) := fun q y hq hy => by
  by_cases hqm : q = m
  · subst hqm
    rw [hj] at hy
    cases hy
    simpa using hb
  · exact h q y (by omega) hy
theorem Done.succ {J : Nat → List Int} {ws : List Nat} {ad : List Int} {k : Nat} (h : Done J ws ad k) {i : Nat} (hi : ad[k]? = some (i : Int)) (hr : RowIn ws (J i) (J i).length) : Done J ws ad (k + 1) := fun p y hp hy j hj => by
  by_cases hpk : p = k
  · subst hpk
    rw [hi] at hy
    cases hy
    rw [Int.toNat_natCast] at hj
    obtain ⟨q, hq⟩ := List.getElem?_of_mem hj
    have := hr q _ (List.getElem?_eq_some_iff.1 hq).1 hq
    simpa using this
  · exact h p y (by omega) hy j hj
theorem Done.all {J : Nat → List Int} {ws : List Nat} {ad : List Int} {k : Nat} (h : Done J ws ad k) (hk : ad.length ≤ k) : ∀ i : Nat, (i : Int) ∈ ad → ∀ j : Nat, (j : Int) ∈ J i → bit ws j = true := fun i hi j hj => by
  obtain ⟨p, hp⟩ := List.getElem?_of_mem hi
  exact h p _ (by have := (List.getElem?_eq_some_iff.1 hp).1; omega) hp j (by simpa using hj)
end Go.Proofs.Qxb6604686a
