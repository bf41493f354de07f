/-
  The walk of values: the six names with pointers to the six values of the line at block L.
-/
import Derived.Test.Qxb6000782aValue
namespace Go.Proofs.Qxb6000782a
open Go.ChangeShapes Go.WideShapes Go.ChangeAt Go.RowKit
set_option linter.unusedVariables false

/-- values. -/
theorem values_any (L : Nat) (w : World) :
    Calls Try.prog 34 #[.pointer (some ⟨L, 0, none⟩)] w fun e w' => e = .returned (.agg #[.string ⟨#[116, 105, 109, 101]⟩, .pointer (some ⟨L, 0, none⟩), .string ⟨#[98, 108, 111, 99, 107]⟩, .pointer (some ⟨L, 3, none⟩), .string ⟨#[97, 99, 99, 111, 117, 110, 116]⟩, .pointer (some ⟨L, 6, none⟩), .string ⟨#[111, 112]⟩, .pointer (some ⟨L, 9, none⟩), .string ⟨#[97, 109, 111, 117, 110, 116]⟩, .pointer (some ⟨L, 12, none⟩), .string ⟨#[108, 111, 99, 107, 117, 112]⟩, .pointer (some ⟨L, 15, none⟩)]) ∧ w'.heap.size = w.heap.size + 1 ∧ Below w.heap.size w w' := by
  go_enter Try.func34, Try.ntmps34
  go_wp2
  go_region
  go_wp2
  refine bodyPost_ret (v := .agg #[.string ⟨#[116, 105, 109, 101]⟩, .pointer (some ⟨L, 0, none⟩), .string ⟨#[98, 108, 111, 99, 107]⟩, .pointer (some ⟨L, 3, none⟩), .string ⟨#[97, 99, 99, 111, 117, 110, 116]⟩, .pointer (some ⟨L, 6, none⟩), .string ⟨#[111, 112]⟩, .pointer (some ⟨L, 9, none⟩), .string ⟨#[97, 109, 111, 117, 110, 116]⟩, .pointer (some ⟨L, 12, none⟩), .string ⟨#[108, 111, 99, 107, 117, 112]⟩, .pointer (some ⟨L, 15, none⟩)]) (by simp [results, Try.results34, go_sem]) rfl ⟨rfl, by simp, ?_⟩
  exact ((Below.refl _ _).alloc (Nat.le_refl _) _).drew

end Go.Proofs.Qxb6000782a
