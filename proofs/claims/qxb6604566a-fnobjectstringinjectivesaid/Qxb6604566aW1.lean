import Derived.Test.Qxb6604566aRows
import Derived.WalkKit
import Derived.ProofKit
import Derived.ShutString
namespace Go.Proofs.Qxb6604566a.fnObjectStringInjective
open Go.ChangeShapes Go.WideShapes Go.ChangeAt Go.RowKit
set_option linter.unusedVariables false

/-- What 'zzBytes' answers: the sum stays within 2^20, prefix by prefix. -/
def fitB (a b c d : Nat) : Bool := decide (a ≤ 1048576 ∧ a + b ≤ 1048576 ∧ a + b + c ≤ 1048576 ∧ a + b + c + d ≤ 1048576)

/-- What 'zzHasColon' answers. -/
def hcB (l : List UInt8) : Bool := l.any (fun c => c == 58)

theorem hcB_snoc (l : List UInt8) (c : UInt8) : hcB (l ++ [c]) = (hcB l || (c == 58)) := by simp [hcB]
theorem take_snoc (s : ByteArray) (k : Nat) (h : k < s.size) : s.data.toList.take (k + 1) = s.data.toList.take k ++ [s[k]] := by
  rw [List.take_succ_eq_append_getElem (by simpa using h)]; rfl
theorem hcB_hit (s : ByteArray) (k : Nat) (h : k < s.size) (h2 : (s[k].toNat : Int) = 58) : hcB s.data.toList = true := by
  unfold hcB
  rw [List.any_eq_true]
  refine ⟨s[k], ?_, ?_⟩
  · have : s[k] = s.data.toList[k]'(by simpa using h) := rfl
    rw [this]; exact List.getElem_mem _
  · rw [beq_iff_eq]; apply UInt8.toNat_inj.1; show s[k].toNat = 58; omega
theorem hcB_step (s : ByteArray) (k : Nat) (h : k < s.size) (h1 : hcB (s.data.toList.take k) = false) (h2 : ¬ (s[k].toNat : Int) = 58) : hcB (s.data.toList.take (k + 1)) = false := by
  rw [take_snoc s k h, hcB_snoc, h1, Bool.false_or, beq_eq_false_iff_ne]
  intro e; apply h2; rw [e]; rfl
theorem hcB_all (s : ByteArray) (k : Nat) (h : ¬ k < s.size) (h1 : hcB (s.data.toList.take k) = false) : hcB s.data.toList = false := by
  rwa [List.take_of_length_le (by simp; omega)] at h1
theorem ret_bool {a b : Bool} (h : a = b) : Ending.returned (.bool a) = .returned (.bool b) := by rw [h]

theorem bytes_any (a0 a1 a2 a3 : ByteArray) (w0 : a0.size ≤ maxLen) (w1 : a1.size ≤ maxLen) (w2 : a2.size ≤ maxLen) (w3 : a3.size ≤ maxLen) (w : World) :
    Calls Try.prog 4 #[.string a0, .string a1, .string a2, .string a3] w fun e w' => e = .returned (.bool (fitB a0.size a1.size a2.size a3.size)) ∧ w' = w := by
  unfold maxLen at w0 w1 w2 w3
  go_enter Try.func4, Try.ntmps4
  go_wp2
  all_goals
    go_ret
    refine ⟨ret_bool ?_, rfl⟩
    simp [fitB]; omega

theorem cat_data (t i : ByteArray) : (t ++ ⟨#[58]⟩ ++ i).data.toList = t.data.toList ++ 58 :: i.data.toList := by simp
theorem cat_size (t i : ByteArray) : (t ++ ⟨#[58]⟩ ++ i).size = t.size + i.size + 1 := by simp; show t.size + 1 + i.size = _; omega
theorem string_any (t i : ByteArray) (w0 : t.size ≤ 262144) (w1 : i.size ≤ 262144) (w : World) :
    Calls Try.prog 6 #[.agg #[.string t, .string i]] w fun e w' => (∃ s, s.data.toList = t.data.toList ++ 58 :: i.data.toList ∧ s.size = t.size + i.size + 1 ∧ e = .returned (.string s)) ∧ w' = w.alloc (.cells #[.string t, .string i] 25) := by
  go_enter Try.func6, Try.ntmps6
  go_wp2
  go_ret
  exact ⟨⟨_, cat_data t i, cat_size t i, rfl⟩, rfl⟩

theorem colon_any (s : ByteArray) (w0 : s.size ≤ 262144) (w : World) :
    Calls Try.prog 5 #[.string s] w fun e w' => e = .returned (.bool (hcB s.data.toList)) ∧ w' = w := by
  go_enter Try.func5, Try.ntmps5
  go_wp2
  go_loop [3] (fun i => ∃ k : Nat, k ≤ s.size ∧ i = .int .i64 k ∧ hcB (s.data.toList.take k) = false) (fun i => s.size - (intOf i).toNat)
  case atStart => exact ⟨0, Nat.zero_le _, rfl, rfl⟩
  case round =>
    obtain ⟨k, hk, rfl, hb0⟩ := hrel
    have hb : Hid (hcB (s.data.toList.take k) = false) := hb0
    clear hb0
    by_cases hlt : k < s.size
    · by_cases hc : (s[k].toNat : Int) = 58
      · have hh : Hid (true = hcB s.data.toList) := (hcB_hit s k hlt hc).symm
        go_wp2
        go_ret
        exact ⟨ret_bool hh.out, rfl⟩
      · have hh : Hid (hcB (s.data.toList.take (k + 1)) = false) := hcB_step s k hlt hb.out hc
        go_wp2
        go_round
        case rel => exact ⟨k + 1, by omega, by go_num, hh.out⟩
        case measure => simp [intOf]; omega
    · go_wp2
      go_ret
      exact ⟨ret_bool (hcB_all s k hlt hb.out).symm, rfl⟩
end Go.Proofs.Qxb6604566a.fnObjectStringInjective
