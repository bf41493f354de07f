/-
  The walk of allows, and of ZZAllows.
-/
import Derived.Test.Qxb6000489aMaps
import Derived.Deep.QuietTactic
import Derived.BigQuiet
namespace Go.Proofs.Qxb6000489a
open Go.ChangeShapes Go.WideShapes Go.ChangeAt Go.RowKit
set_option linter.unusedVariables false

/-- slices.IndexFunc over nothing. -/
theorem idx_nil (fv : Value) (w : World) : Calls Try.prog 31 #[.slice none 0 0, fv] w fun e w' => e = .returned (.int .i64 (-1)) ∧ w = w' := by
  go_enter Try.func31, Try.ntmps31
  go_wp2
  refine wp_loop_rounds 1 ?_
  rw [rounds_succ]
  go_wp2
  go_ret
  exact ⟨rfl, rfl⟩
theorem cont_nil (fv : Value) (w : World) : Calls Try.prog 28 #[.slice none 0 0, fv] w fun e w' => e = .returned (.bool false) ∧ w = w' := by
  go_enter Try.func28, Try.ntmps28
  go_wp2_with (go_at_call 31; refine (idx_nil _ _).mono ?_; rintro e w' ⟨rfl, rfl⟩)
  go_ret
  exact ⟨rfl, rfl⟩

theorem bcell {W w1 : World} (hb : Below W.heap.size W w1) : (∀ b o, b < W.heap.size → w1.cell? ⟨b, o, none⟩ = W.cell? ⟨b, o, none⟩) ∧ (∀ b o, b < W.heap.size → w1.frozen? ⟨b, o, none⟩ = W.frozen? ⟨b, o, none⟩) :=
  ⟨fun b o h => hb.cell (p := ⟨b, o, none⟩) h, fun b o h => hb.frozen (p := ⟨b, o, none⟩) h⟩

/-- The two boxes' cells that are read behind lowerASCII. -/
theorem box_cells (w w1 : World) (m1 m2 m3 : Value) (a b c d : Value) (hb : Below ((w.alloc (.cells #[.bool false, m1, m2, m3] 36)).alloc (.cells #[a, b, c, d] 39)).heap.size ((w.alloc (.cells #[.bool false, m1, m2, m3] 36)).alloc (.cells #[a, b, c, d] 39)) w1) :
    w1.cell? ⟨w.heap.size, 1, none⟩ = some m1 ∧ w1.cell? ⟨w.heap.size, 2, none⟩ = some m2 ∧ w1.cell? ⟨w.heap.size, 3, none⟩ = some m3 ∧ w1.cell? ⟨w.heap.size + 1, 3, none⟩ = some d := by
  refine ⟨?_, ?_, ?_, ?_⟩
  · refine (hb.cell (p := ⟨w.heap.size, 1, none⟩) (by simp; omega)).trans ?_
    rw [World.cell?_alloc_old _ _ _ (by simp), World.cell?_alloc_new]; rfl
  · refine (hb.cell (p := ⟨w.heap.size, 2, none⟩) (by simp; omega)).trans ?_
    rw [World.cell?_alloc_old _ _ _ (by simp), World.cell?_alloc_new]; rfl
  · refine (hb.cell (p := ⟨w.heap.size, 3, none⟩) (by simp; omega)).trans ?_
    rw [World.cell?_alloc_old _ _ _ (by simp), World.cell?_alloc_new]; rfl
  · refine (hb.cell (p := ⟨w.heap.size + 1, 3, none⟩) (by simp)).trans ?_
    have h := World.cell?_alloc_new (w.alloc (.cells #[.bool false, m1, m2, m3] 36)) #[a, b, c, d] 39 3
    have hz : (w.alloc (.cells #[.bool false, m1, m2, m3] 36)).heap.size = w.heap.size + 1 := by simp
    rw [hz] at h
    exact h

theorem allows_any (s d e0 : ByteArray) (r1 r2 r3 : Nat) (w : World) (hs : s.size ≤ 1048576) (h1 : NoEntry w r1) (h2 : OneEntry w r2 d) (l1 : r1 < w.heap.size) (l2 : r2 < w.heap.size) :
    Calls Try.prog 26 #[.agg #[.bool false, .map (some r1), .map (some r2), .map (some r3)], .agg #[.string e0, .string s, .string e0, .slice none 0 0]] w fun e w' => e = .returned (.bool (allowsB s d)) ∧ Below w.heap.size w w' := by
  go_enter Try.func26, Try.ntmps26
  go_wp2_with fail
  refine (low_any s _ hs).mono ?_
  rintro e w1 ⟨rfl, hb⟩
  obtain ⟨c1, c2, c3, c4⟩ := box_cells _ _ _ _ _ _ _ _ _ hb
  have hbel : Below w.heap.size w w1 := (((Below.refl _ _).alloc (Nat.le_refl _) _).alloc (by simp) _).trans (hb.mono (by simp; omega))
  clear hb
  have n1 := look_none (h1.below hbel l1)
  have n2 : ∀ (m : Nat) (s : ByteArray), (Instr.lookup 30 (.map (some r2)) (.string s) false).run Try.prog (w1.drewN m) = .ok (.bool (eqB s d)) (w1.drewN m) := fun m => look_one (show OneEntry (w1.drewN m) r2 d from (h2.below hbel l2 : OneEntry w1 r2 d))
  clear h1 h2
  have hts : (low s).size ≤ 1048576 := by rw [low_size]; exact hs
  have hla := last_at (low s) w1 hts
  have hbd := lastAt_bd (ch (low s)) (low s).size
  have HA : Hid (allowsB s d = if 0 ≤ lastAt (ch (low s)) (low s).size then eqB ((low s).extract (lastAt (ch (low s)) (low s).size + 1).toNat (low s).size) d else false) := by
    show allowsB s d = _
    unfold allowsB
    rw [low_size]
  generalize low s = t at *
  generalize lastAt (ch t) t.size = p at *
  have HL : Hid (Calls Try.prog 27 #[.string t, .int .u8 64] w1 fun e w' => e = .returned (.int .i64 p) ∧ w1 = w') := hla
  clear hla
  by_cases hp : 0 ≤ p
  · obtain ⟨q, rfl⟩ : ∃ q : Nat, p = q := ⟨p.toNat, by omega⟩
    rw [if_pos hp, show ((q : Int) + 1).toNat = q + 1 from by omega] at HA
    have hq : q + 1 ≤ t.size := by omega
    clear hbd
    have hwr : IntKind.i64.wrap ((q : Int) + 1) = ((q + 1 : Nat) : Int) := by rw [IntKind.wrap_i64]; omega
    have hsl : ∀ W, (Instr.slice 9 (.string t) (some (.int .i64 ((q : Int) + 1))) none none).run Try.prog W = .ok (.string (t.extract (q + 1) t.size)) W := fun W => by
      rw [run_slice_string_from_if W 9 t .i64 ((q : Int) + 1) Try.underlying9, if_pos ⟨by omega, by omega⟩, show ((q : Int) + 1).toNat = q + 1 from by omega]
    cases hE : eqB (t.extract (q + 1) t.size) d with
    | true =>
      rw [hE] at HA
      go_wp2_with fail
      refine HL.out.mono ?_
      rintro e w' ⟨rfl, rfl⟩
      go_wp2
      go_quiet (fail)
      go_wp2
      go_ret
      exact ⟨ret_bool HA.out.symm, below_drewN hbel _⟩
    | false =>
      rw [hE] at HA
      go_wp2_with fail
      refine HL.out.mono ?_
      rintro e w' ⟨rfl, rfl⟩
      go_wp2
      go_quiet (fail)
      go_wp2_with (go_at_call 28; refine (cont_nil _ _).mono ?_; rintro e w' ⟨rfl, rfl⟩)
      go_ret
      exact ⟨ret_bool HA.out.symm, below_drewN hbel _⟩
  · rw [if_neg hp] at HA
    have hd : decide ((0 : Int) ≤ p) = false := decide_eq_false hp
    go_wp2_with fail
    refine HL.out.mono ?_
    rintro e w' ⟨rfl, rfl⟩
    go_wp2
    go_quiet (fail)
    go_wp2_with (go_at_call 28; refine (cont_nil _ _).mono ?_; rintro e w' ⟨rfl, rfl⟩)
    go_ret
    exact ⟨ret_bool HA.out.symm, below_drewN hbel _⟩

end Go.Proofs.Qxb6000489a
