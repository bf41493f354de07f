/-
  The three maps that FnAllowsDomainMatchesOnlyWhole makes: an empty one, one with a single entry; what a look-up in them answers.
-/
import Derived.Test.Qxb6000489aWalks2
import Derived.MapKept
namespace Go.Proofs.Qxb6000489a
open Go.ChangeShapes Go.WideShapes Go.ChangeAt Go.RowKit
set_option linter.unusedVariables false


/-- Block r is an empty map. -/
def NoEntry (w : World) (r : Nat) : Prop := w.heap[r]? = some (.map #[] 0)
/-- Block r is a map with the one entry d: true. -/
def OneEntry (w : World) (r : Nat) (d : ByteArray) : Prop := w.heap[r]? = some (.map #[{ key := .string d, val := .bool true, born := 0 }] 1)

theorem look_none {w : World} {r : Nat} (h : NoEntry w r) (s : ByteArray) : (Instr.lookup 30 (.map (some r)) (.string s) false).run Try.prog w = .ok (.bool false) w := by
  have hf : Instr.findNow TypeDesc.string (.string s) [] 0 = some none := rfl
  simp [Instr.lookup, run_underlying Try.underlying30, MapKept.run_getObj_map h, MapKept.run_checkKey Try.underlying9 (show MapKept.IsKey .string (.string s) from trivial) true 9999, MapKept.run_findKey Try.underlying9 hf, Result.andThen]

theorem same_bytes (s d : ByteArray) : (s == d) = eqB s d := by
  rw [Bool.eq_iff_iff, MapKept.bytes_beq]
  unfold eqB
  rw [beq_iff_eq]
  constructor
  · rintro rfl; rfl
  · intro h
    obtain ⟨⟨la⟩⟩ := s
    obtain ⟨⟨lb⟩⟩ := d
    simpa using h

theorem look_one {w : World} {r : Nat} {d : ByteArray} (h : OneEntry w r d) (s : ByteArray) : (Instr.lookup 30 (.map (some r)) (.string s) false).run Try.prog w = .ok (.bool (eqB s d)) w := by
  cases he : eqB s d with
  | true =>
    have hf : Instr.findNow TypeDesc.string (.string s) [{ key := .string d, val := .bool true, born := 0 }] 0 = some (some (0, .bool true)) := by
      simp [Instr.findNow, Instr.sameNow, same_bytes, he]
    simp [Instr.lookup, run_underlying Try.underlying30, MapKept.run_getObj_map h, MapKept.run_checkKey Try.underlying9 (show MapKept.IsKey .string (.string s) from trivial) false 9999, MapKept.run_findKey Try.underlying9 hf, Result.andThen]
  | false =>
    have hf : Instr.findNow TypeDesc.string (.string s) [{ key := .string d, val := .bool true, born := 0 }] 0 = some none := by
      simp [Instr.findNow, Instr.sameNow, same_bytes, he]
    simp [Instr.lookup, run_underlying Try.underlying30, MapKept.run_getObj_map h, MapKept.run_checkKey Try.underlying9 (show MapKept.IsKey .string (.string s) from trivial) false 9999, MapKept.run_findKey Try.underlying9 hf, Result.andThen]

/-- 'map[string]bool{d: true}': the entry laid into the second of two new maps. -/
theorem insert_one (w : World) (d : ByteArray) : ∃ w2, (Instr.mapUpdate 30 (.map (some (w.heap.size + 1))) (.string d) (.bool true)).run Try.prog ((w.alloc (.map #[] 0)).alloc (.map #[] 0)) = .ok () w2 ∧
    NoEntry w2 w.heap.size ∧ OneEntry w2 (w.heap.size + 1) d ∧ w2.heap.size = w.heap.size + 2 ∧ Below w.heap.size w w2 := by
  have hb : ((w.alloc (.map #[] 0)).alloc (.map #[] 0)).heap[w.heap.size + 1]? = some (.map #[] 0) := by
    have := heap_alloc_new (w.alloc (.map #[] 0)) (.map #[] 0)
    simpa using this
  have h0 : ((w.alloc (.map #[] 0)).alloc (.map #[] 0)).heap[w.heap.size]? = some (.map #[] 0) :=
    (Below.heap_alloc (w.alloc (.map #[] 0)) (.map #[] 0) w.heap.size (by simp)).trans (heap_alloc_new w _)
  have hf : Instr.findNow TypeDesc.string (.string d) [] 0 = some none := rfl
  have hset := MapKept.heap_set (o' := .map #[{ key := .string d, val := .bool true, born := 0 }] 1) hb
  refine ⟨{ ((w.alloc (.map #[] 0)).alloc (.map #[] 0)) with heap := ((w.alloc (.map #[] 0)).alloc (.map #[] 0)).heap.setIfInBounds (w.heap.size + 1) (.map #[{ key := .string d, val := .bool true, born := 0 }] 1) }, ?_, ?_, ?_, ?_, ?_⟩
  · simp [Instr.mapUpdate, run_underlying Try.underlying30, MapKept.run_getObj_map hb, MapKept.run_checkKey Try.underlying9 (show MapKept.IsKey .string (.string d) from trivial) false 9999, MapKept.run_findKey Try.underlying9 hf, MapKept.run_setObj_map _ hb, Result.andThen]
  · exact (hset.2 w.heap.size (by omega)).trans h0
  · exact hset.1
  · simp
  · have hbel : Below w.heap.size w ((w.alloc (.map #[] 0)).alloc (.map #[] 0)) := ((Below.refl _ _).alloc (Nat.le_refl _) _).alloc (by simp) _
    exact hbel.trans ⟨rfl, rfl, rfl, by simp, fun k hk => hset.2 k (by omega)⟩

theorem NoEntry.below {w w' : World} {r B : Nat} (h : NoEntry w r) (hb : Below B w w') (hr : r < B) : NoEntry w' r := (hb.block r hr).trans h
theorem OneEntry.below {w w' : World} {r B : Nat} {d : ByteArray} (h : OneEntry w r d) (hb : Below B w w') (hr : r < B) : OneEntry w' r d := (hb.block r hr).trans h

end Go.Proofs.Qxb6000489a
