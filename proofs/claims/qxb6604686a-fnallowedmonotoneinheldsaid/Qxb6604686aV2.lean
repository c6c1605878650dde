import Derived.Test.Qxb6604686aV1
import Derived.WalkKit
import Derived.ProofKit
import Derived.OpenShut
namespace Go.Proofs.Qxb6604686a
open Go.ChangeShapes Go.WideShapes Go.ChangeAt Go.RowKit
set_option linter.unusedVariables false

theorem own : ownKnob Try.prog.godebug = none := by kernel_rfl
theorem laidOut : laidOutB Try.prog = true := by kernel_rfl

section
variable {H : Type} {enc : TypeId × Value → H} {W : World} {base : Nat} {v : Value} {d : DataW H} {p : List MemPlace}
set_option maxRecDepth 100000 in
theorem arg_ws (hv : Value.okWide Try.prog W .any base 41 v) (h : DataW.Trod enc Try.prog W 0 (fun _ => true) true 41 v d p) : ∃ r : WRow, v = r.val ∧ Ws Any W r.a r.xs := by
  have hs := okWide_slice Try.underlying41 hv
  clear hv
  obtain ⟨a, len, cap, rfl⟩ := hs
  obtain ⟨fuel, hf⟩ := h
  obtain ⟨r, e, i⟩ := to_ws hf
  exact ⟨r, by simpa [Value.cells] using e, i⟩
set_option maxRecDepth 100000 in
theorem arg_is (hv : Value.okWide Try.prog W .any base 45 v) (h : DataW.Trod enc Try.prog W 0 (fun _ => true) true 45 v d p) : ∃ r : IRow, v = r.val ∧ Is Any W r.a r.xs := by
  have hs := okWide_slice Try.underlying45 hv
  clear hv
  obtain ⟨a, len, cap, rfl⟩ := hs
  obtain ⟨fuel, hf⟩ := h
  obtain ⟨r, e, i⟩ := to_is hf
  exact ⟨r, by simpa [Value.cells] using e, i⟩
set_option maxRecDepth 100000 in
theorem arg_rs (hv : Value.okWide Try.prog W .any base 42 v) (h : DataW.Trod enc Try.prog W 0 (fun _ => true) true 42 v d p) : ∃ (a : Option Addr) (cap : Nat) (rows : List IRow), v = .slice a rows.length cap ∧ Rs Any W a rows := by
  have hs := okWide_slice Try.underlying42 hv
  clear hv
  obtain ⟨a, len, cap, rfl⟩ := hs
  obtain ⟨fuel, hf⟩ := h
  obtain ⟨a', cap', rows, e, i⟩ := to_rs hf
  exact ⟨a', cap', rows, by simpa [Value.cells] using e, i⟩
set_option maxRecDepth 100000 in
theorem arg_as (hv : Value.okWide Try.prog W .any base 43 v) (h : DataW.Trod enc Try.prog W 0 (fun _ => true) true 43 v d p) : ∃ (a : Option Addr) (cap : Nat) (rows : List LRow), v = .slice a rows.length cap ∧ As Any W a rows := by
  have hs := okWide_slice Try.underlying43 hv
  clear hv
  obtain ⟨a, len, cap, rfl⟩ := hs
  obtain ⟨fuel, hf⟩ := h
  obtain ⟨a', cap', rows, e, i⟩ := to_as hf
  exact ⟨a', cap', rows, by simpa [Value.cells] using e, i⟩
set_option maxRecDepth 100000 in
theorem arg_es (hv : Value.okWide Try.prog W .any base 44 v) (h : DataW.Trod enc Try.prog W 0 (fun _ => true) true 44 v d p) : ∃ (a : Option Addr) (cap : Nat) (xs : List Excl), v = .slice a xs.length cap ∧ Es Any W a xs := by
  have hs := okWide_slice Try.underlying44 hv
  clear hv
  obtain ⟨a, len, cap, rfl⟩ := hs
  obtain ⟨fuel, hf⟩ := h
  obtain ⟨a', cap', rows, e, i⟩ := to_es hf
  exact ⟨a', cap', rows, by simpa [Value.cells] using e, i⟩
end
end Go.Proofs.Qxb6604686a
