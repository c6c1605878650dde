import Derived.Test.Qxb6604566aW1
import Derived.Laws.StructEq
import Derived.Outline
namespace Go.Proofs.Qxb6604566a.fnObjectStringInjective
open Go.ChangeShapes Go.WideShapes Go.ChangeAt Go.RowKit
set_option linter.unusedVariables false

theorem guard25 : Try.prog.eqGuardType Try.prog.depth 25 = false := by kernel_rfl
theorem eq25 (a b c d : ByteArray) (w : World) : (Op.equalIn 10000 25 (.agg #[.string a, .string b]) (.agg #[.string c, .string d])).run Try.prog w = .ok (a.toList == c.toList && b.toList == d.toList) w := by
  have u9 := Try.underlying9
  have hS : Try.prog.underlying 25 = some (.struct (Try.prog.fieldsOf 25)) := by kernel_rfl
  have hp : Try.prog.stoodInHeld 25 = false := by kernel_rfl
  rw [show (10000 : Nat) = 9999 + 1 from rfl, run_equalIn_agg w 9999 25 _ _ hS hp]
  simp only [Program.fieldsOf, Try.underlying25]
  go_simp
  by_cases h1 : a.toList = c.toList <;> by_cases h2 : b.toList = d.toList <;> simp [h1, h2]

/-! ### THE PLAIN LAW -/
theorem get_of {s : ByteArray} {t i : List UInt8} {n : Nat} (d : s.data.toList = t ++ 58 :: i) (hn : n = t.length) (h : n < s.size) : s[n] = 58 := by
  subst hn
  have e : s[t.length] = s.data.toList[t.length]'(by simpa using h) := rfl
  rw [e]
  simp [d]
theorem ext {a b : ByteArray} (h : a.data.toList = b.data.toList) : a = b := by
  obtain ⟨⟨x⟩⟩ := a; obtain ⟨⟨y⟩⟩ := b; simp at h; rw [h]
theorem front_of {s t : ByteArray} {i : List UInt8} (d : s.data.toList = t.data.toList ++ 58 :: i) : s.extract 0 t.size = t := by
  apply ext
  rw [ByteArray.data_extract]
  simp [d, Array.toList_extract, List.extract]
theorem back_of {s t i : ByteArray} (d : s.data.toList = t.data.toList ++ 58 :: i.data.toList) : s.extract (t.size + 1) (t.size + i.size + 1) = i := by
  apply ext
  rw [ByteArray.data_extract]
  simp [d, Array.toList_extract, List.extract]
  have e : t.size + 1 = t.data.toList.length + 1 := rfl
  have e2 : i.size = i.data.toList.length := rfl
  rw [e, List.drop_append, List.drop_of_length_le (by omega)]
  simp
  exact List.take_of_length_le (by omega)
/-- Where neither front holds the colon, the joined texts are equal just where both pairs of parts are. -/
theorem inj : ∀ (a c b d : List UInt8), hcB a = false → hcB c = false → ((a ++ 58 :: b) == (c ++ 58 :: d)) = ((a == c) && (b == d))
  | [], [], b, d, _, _ => by simp
  | [], x :: c, b, d, _, h2 => by
    have : (58 : UInt8) ≠ x := by intro e; subst e; simp [hcB] at h2
    simp [this]
  | x :: a, [], b, d, h1, _ => by
    have : x ≠ (58 : UInt8) := by intro e; subst e; simp [hcB] at h1
    simp [this]
  | x :: a, y :: c, b, d, h1, h2 => by
    have h1' : hcB a = false := by simp [hcB] at h1 ⊢; exact h1.2
    have h2' : hcB c = false := by simp [hcB] at h2 ⊢; exact h2.2
    have ih := inj a c b d h1' h2'
    simp only [List.cons_append, List.cons_beq_cons, ih, Bool.and_assoc]

set_option maxHeartbeats 4000000 in
theorem walk_in (a0 : ByteArray) (a1 : ByteArray) (a2 : ByteArray) (a3 : ByteArray) (w0 : a0.size ≤ 262144) (w1 : a1.size ≤ 262144) (w2 : a2.size ≤ 262144) (w3 : a3.size ≤ 262144) (w : World)
   (hf : fitB a0.size a1.size a2.size a3.size = true) (h0 : hcB a0.data.toList = false) (h2 : hcB a2.data.toList = false) :
    Calls Try.prog 3 #[.string a0, .string a1, .string a2, .string a3] w fun e w' => e = .returned (.bool true) ∧ Grown w w' := by
  have m0 : a0.size ≤ maxLen := by unfold maxLen; omega
  have m1 : a1.size ≤ maxLen := by unfold maxLen; omega
  have m2 : a2.size ≤ maxLen := by unfold maxLen; omega
  have m3 : a3.size ≤ maxLen := by unfold maxLen; omega
  go_enter Try.func3, Try.ntmps3
  go_wp2_with fail
  refine (bytes_any a0 a1 a2 a3 m0 m1 m2 m3 _).mono ?_
  rintro e w' ⟨rfl, rfl⟩
  rw [hf]
  go_wp2_with fail
  refine (colon_any a0 w0 _).mono ?_
  rintro e w' ⟨rfl, rfl⟩
  rw [h0]
  go_wp2_with fail
  refine (colon_any a2 w2 _).mono ?_
  rintro e w' ⟨rfl, rfl⟩
  rw [h2]
  go_wp2_with fail
  refine (string_any a0 a1 w0 w1 _).mono ?_
  rintro e w' ⟨⟨sa, da, za, rfl⟩, rfl⟩
  have Da : Hid (_ = _) := da
  clear da
  go_wp2_with fail
  refine (string_any a2 a3 w2 w3 _).mono ?_
  rintro e w' ⟨⟨sb, db, zb, rfl⟩, rfl⟩
  have Db : Hid (_ = _) := db
  clear db
  have fa := front_of Da.out
  have fb := front_of Db.out
  have ba := back_of Da.out
  have bb := back_of Db.out
  have ga : ∀ h : a0.size < sa.size, sa[a0.size]'h = 58 := fun h => get_of Da.out rfl h
  have gb : ∀ h : a2.size < sb.size, sb[a2.size]'h = 58 := fun h => get_of Db.out rfl h
  have g25 := guard25
  have e25 : ∀ w, (Op.equalIn 10000 25 (.agg #[.string a0, .string a1]) (.agg #[.string a2, .string a3])).run Try.prog w = .ok (sa.toList == sb.toList) w := fun w => by
    rw [eq25, ByteArray.toList_eq, ByteArray.toList_eq, ByteArray.toList_eq, ByteArray.toList_eq, ByteArray.toList_eq, ByteArray.toList_eq, Da.out, Db.out, inj _ _ _ _ h0 h2]
  clear h0 h2
  go_wp2_with fail
  go_ret
  exact ⟨ret_bool (by simp), by repeat (first | exact Grown.refl _ | apply Grown.drew | apply Grown.alloc)⟩

set_option maxHeartbeats 400000 in
/-- The three ways that end ahead of the last row. -/
theorem walk_bytes (a0 : ByteArray) (a1 : ByteArray) (a2 : ByteArray) (a3 : ByteArray) (m0 : a0.size ≤ maxLen) (m1 : a1.size ≤ maxLen) (m2 : a2.size ≤ maxLen) (m3 : a3.size ≤ maxLen) (w : World)
   (hf : fitB a0.size a1.size a2.size a3.size = false) :
    Calls Try.prog 3 #[.string a0, .string a1, .string a2, .string a3] w fun e w' => e = .returned (.bool true) ∧ Grown w w' := by
  go_enter Try.func3, Try.ntmps3
  go_wp2_with fail
  refine (bytes_any a0 a1 a2 a3 m0 m1 m2 m3 _).mono ?_
  rintro e w' ⟨rfl, rfl⟩
  rw [hf]
  go_wp2_with fail
  go_ret
  exact ⟨rfl, Grown.refl _⟩

set_option maxHeartbeats 400000 in
theorem walk_long (a0 : ByteArray) (a1 : ByteArray) (a2 : ByteArray) (a3 : ByteArray) (m0 : a0.size ≤ maxLen) (m1 : a1.size ≤ maxLen) (m2 : a2.size ≤ maxLen) (m3 : a3.size ≤ maxLen) (w : World)
   (hf : fitB a0.size a1.size a2.size a3.size = true) (hl : 262144 < a0.size ∨ 262144 < a1.size ∨ 262144 < a2.size ∨ 262144 < a3.size) :
    Calls Try.prog 3 #[.string a0, .string a1, .string a2, .string a3] w fun e w' => e = .returned (.bool true) ∧ Grown w w' := by
  go_enter Try.func3, Try.ntmps3
  go_wp2_with fail
  refine (bytes_any a0 a1 a2 a3 m0 m1 m2 m3 _).mono ?_
  rintro e w' ⟨rfl, rfl⟩
  rw [hf]
  by_cases c0 : 262144 < (a0.size : Int)
  · go_wp2_with fail
    go_ret
    exact ⟨rfl, Grown.refl _⟩
  · by_cases c1 : 262144 < (a1.size : Int)
    · go_wp2_with fail
      go_ret
      exact ⟨rfl, Grown.refl _⟩
    · by_cases c2 : 262144 < (a2.size : Int)
      · go_wp2_with fail
        go_ret
        exact ⟨rfl, Grown.refl _⟩
      · have c3 : 262144 < (a3.size : Int) := by omega
        clear hl
        go_wp2_with fail
        go_ret
        exact ⟨rfl, Grown.refl _⟩

set_option maxHeartbeats 400000 in
theorem walk_colon (a0 : ByteArray) (a1 : ByteArray) (a2 : ByteArray) (a3 : ByteArray) (w0 : a0.size ≤ 262144) (w1 : a1.size ≤ 262144) (w2 : a2.size ≤ 262144) (w3 : a3.size ≤ 262144) (w : World)
   (hf : fitB a0.size a1.size a2.size a3.size = true) (h0 : hcB a0.data.toList = true) :
    Calls Try.prog 3 #[.string a0, .string a1, .string a2, .string a3] w fun e w' => e = .returned (.bool true) ∧ Grown w w' := by
  have m0 : a0.size ≤ maxLen := by unfold maxLen; omega
  have m1 : a1.size ≤ maxLen := by unfold maxLen; omega
  have m2 : a2.size ≤ maxLen := by unfold maxLen; omega
  have m3 : a3.size ≤ maxLen := by unfold maxLen; omega
  go_enter Try.func3, Try.ntmps3
  go_wp2_with fail
  refine (bytes_any a0 a1 a2 a3 m0 m1 m2 m3 _).mono ?_
  rintro e w' ⟨rfl, rfl⟩
  rw [hf]
  go_wp2_with fail
  refine (colon_any a0 w0 _).mono ?_
  rintro e w' ⟨rfl, rfl⟩
  rw [h0]
  go_wp2_with fail
  go_ret
  exact ⟨rfl, Grown.refl _⟩

set_option maxHeartbeats 400000 in
theorem walk_colon2 (a0 : ByteArray) (a1 : ByteArray) (a2 : ByteArray) (a3 : ByteArray) (w0 : a0.size ≤ 262144) (w1 : a1.size ≤ 262144) (w2 : a2.size ≤ 262144) (w3 : a3.size ≤ 262144) (w : World)
   (hf : fitB a0.size a1.size a2.size a3.size = true) (h0 : hcB a0.data.toList = false) (h2 : hcB a2.data.toList = true) :
    Calls Try.prog 3 #[.string a0, .string a1, .string a2, .string a3] w fun e w' => e = .returned (.bool true) ∧ Grown w w' := by
  have m0 : a0.size ≤ maxLen := by unfold maxLen; omega
  have m1 : a1.size ≤ maxLen := by unfold maxLen; omega
  have m2 : a2.size ≤ maxLen := by unfold maxLen; omega
  have m3 : a3.size ≤ maxLen := by unfold maxLen; omega
  go_enter Try.func3, Try.ntmps3
  go_wp2_with fail
  refine (bytes_any a0 a1 a2 a3 m0 m1 m2 m3 _).mono ?_
  rintro e w' ⟨rfl, rfl⟩
  rw [hf]
  go_wp2_with fail
  refine (colon_any a0 w0 _).mono ?_
  rintro e w' ⟨rfl, rfl⟩
  rw [h0]
  go_wp2_with fail
  refine (colon_any a2 w2 _).mono ?_
  rintro e w' ⟨rfl, rfl⟩
  rw [h2]
  go_wp2_with fail
  go_ret
  exact ⟨rfl, Grown.refl _⟩

theorem walk (a0 : ByteArray) (a1 : ByteArray) (a2 : ByteArray) (a3 : ByteArray) (w0 : a0.size ≤ maxLen) (w1 : a1.size ≤ maxLen) (w2 : a2.size ≤ maxLen) (w3 : a3.size ≤ maxLen) (w : World) :
    Calls Try.prog 3 #[.string a0, .string a1, .string a2, .string a3] w fun e w' => e = .returned (.bool true) ∧ Grown w w' := by
  cases hf : fitB a0.size a1.size a2.size a3.size with
  | false => exact walk_bytes a0 a1 a2 a3 w0 w1 w2 w3 w hf
  | true =>
    by_cases hl : 262144 < a0.size ∨ 262144 < a1.size ∨ 262144 < a2.size ∨ 262144 < a3.size
    · exact walk_long a0 a1 a2 a3 w0 w1 w2 w3 w hf hl
    · cases h0 : hcB a0.data.toList with
      | true => exact walk_colon a0 a1 a2 a3 (by omega) (by omega) (by omega) (by omega) w hf h0
      | false =>
        cases h2 : hcB a2.data.toList with
        | true => exact walk_colon2 a0 a1 a2 a3 (by omega) (by omega) (by omega) (by omega) w hf h0 h2
        | false => exact walk_in a0 a1 a2 a3 (by omega) (by omega) (by omega) (by omega) w hf h0 h2
end Go.Proofs.Qxb6604566a.fnObjectStringInjective
