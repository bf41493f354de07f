/-
  The walk of makeRoom, in its three ways.
-/
import Derived.Test.Qxb6001347aWalks
namespace Go.Proofs.Qxb6001347a
open Go.ChangeShapes Go.WideShapes Go.ChangeAt Go.RowKit
set_option linter.unusedVariables false

/-- Block W is the window: buf, pos, read, size, origin. -/
def WinB (w : World) (W : Nat) (bv : Value) (p r s o : Int) : Prop := w.heap[W]? = some (.cells #[bv, .int .i64 p, .int .i64 r, .int .i64 s, .int .i64 o] 51 (0, 0))
section
variable {w : World} {W : Nat} {bv : Value} {p r s o : Int}
theorem WinB.lt (h : WinB w W bv p r s o) : W < w.heap.size := (Array.getElem?_eq_some_iff.1 h).1
theorem WinB.cells (h : WinB w W bv p r s o) : w.cell? ⟨W, 0, none⟩ = some bv ∧ w.cell? ⟨W, 1, none⟩ = some (.int .i64 p) ∧ w.cell? ⟨W, 2, none⟩ = some (.int .i64 r) ∧ w.cell? ⟨W, 3, none⟩ = some (.int .i64 s) ∧ w.cell? ⟨W, 4, none⟩ = some (.int .i64 o) := by
  refine ⟨?_, ?_, ?_, ?_, ?_⟩
  all_goals (rw [cell_of_row w W _ _ 51 (0, 0) h]; rfl)
theorem WinB.frozen (h : WinB w W bv p r s o) (i : Nat) : w.frozen? ⟨W, i, none⟩ = false := frozen_of_row w W i _ 51 h
theorem WinB.block {w' : World} (h : WinB w W bv p r s o) (hb : w'.heap[W]? = w.heap[W]?) : WinB w' W bv p r s o := hb.trans h
theorem WinB.drew (h : WinB w W bv p r s o) : WinB w.drew W bv p r s o := h
theorem WinB.set0 (h : WinB w W bv p r s o) (v : Value) : WinB (w.setCell ⟨W, 0, none⟩ v) W v p r s o := by
  have hh := heap_setCell_same w W 0 _ 51 v h
  unfold WinB; rw [hh]; rfl
theorem WinB.set1 (h : WinB w W bv p r s o) (x : Int) : WinB (w.setCell ⟨W, 1, none⟩ (.int .i64 x)) W bv x r s o := by
  have hh := heap_setCell_same w W 1 _ 51 (.int .i64 x) h
  unfold WinB; rw [hh]; rfl
theorem WinB.set2 (h : WinB w W bv p r s o) (x : Int) : WinB (w.setCell ⟨W, 2, none⟩ (.int .i64 x)) W bv p x s o := by
  have hh := heap_setCell_same w W 2 _ 51 (.int .i64 x) h
  unfold WinB; rw [hh]; rfl
theorem WinB.set4 (h : WinB w W bv p r s o) (x : Int) : WinB (w.setCell ⟨W, 4, none⟩ (.int .i64 x)) W bv p r s x := by
  have hh := heap_setCell_same w W 4 _ 51 (.int .i64 x) h
  unfold WinB; rw [hh]; rfl
end

/-- There is room: nothing happens. -/
theorem room_noop (W : Nat) (a : Option Addr) (n c : Nat) (p r s o : Int) (w : World) (h0 : 0 ≤ p) (hp : p < n) (hw : WinB w W (.slice a n c) p r s o) :
    Calls Try.prog 27 #[.pointer (some ⟨W, 0, none⟩)] w fun e w' => e = .returned (.tuple #[]) ∧ ∃ q, w' = w.drewN q := by
  obtain ⟨c0, c1, c2, c3, c4⟩ := hw.cells
  go_enter Try.func27, Try.ntmps27
  go_wp2
  go_quiet (fail)
  go_wp2
  exact bodyPost_ret (v := .tuple #[]) (by simp [results, Try.results27]) rfl ⟨rfl, _, rfl⟩

/-- The window outgrows its small buffer. -/
theorem room_grow (W g : Nat) (a : Option Addr) (n : Nat) (f : Nat → Int) (r s o : Int) (w : World) (hn : (n : Int) < s + 262144) (h0 : 0 ≤ s) (h1 : s ≤ 65536) (ha : 0 < n → a = some ⟨g, 0, none⟩) (ha0 : a = none → n = 0)
    (hgW : g ≠ W) (hw : WinB w W (.slice a n n) n r s o) (hc : ∀ i, i < n → w.cell? ⟨g, 0 + i, none⟩ = some (.int .u8 (f i))) :
    Calls Try.prog 27 #[.pointer (some ⟨W, 0, none⟩)] w fun e w' => e = .returned (.tuple #[]) ∧
      ∃ G N : Nat, (N : Int) = s + 262144 ∧ w.heap.size ≤ G ∧ WinB w' W (.slice (some ⟨G, 0, none⟩) N N) n r s o ∧ Row 5 w' G N (fun i => if i < n then f i else 0) ∧ w.heap.size ≤ w'.heap.size ∧ Below W w w' ∧ (∀ k, k ≠ W → k < w.heap.size → w'.heap[k]? = w.heap[k]?) := by
  obtain ⟨N, hN⟩ : ∃ N : Nat, (N : Int) = s + 262144 := ⟨(s + 262144).toNat, by omega⟩
  have HN : Hid ((N : Int) = s + 262144) := hN
  have hle : n ≤ N := by omega
  obtain ⟨c0, c1, c2, c3, c4⟩ := hw.cells
  have hge : ¬ (n : Int) < (n : Int) := by omega
  clear hN
  go_enter Try.func27, Try.ntmps27
  go_wp2
  go_quiet (fail)
  go_wp2_with fail
  refine (length_any W s (w.drewN nq) h0 h1 c3).mono ?_
  rintro e w1 ⟨rfl, hw1⟩
  have hW1 : WinB w1 W (.slice a n n) n r s o := by rw [hw1]; exact hw
  have hc1 : ∀ i, i < n → w1.cell? ⟨g, 0 + i, none⟩ = some (.int .u8 (f i)) := by rw [hw1]; exact hc
  have HW1 : Hid (Below w1.heap.size w w1 ∧ w1.heap.size = w.heap.size) := by rw [hw1]; exact ⟨⟨rfl, rfl, rfl, Nat.le_refl _, fun _ _ => rfl⟩, rfl⟩
  clear hw1 c0 c1 c2 c3 c4
  obtain ⟨c0, c1, c2, c3, c4⟩ := hW1.cells
  go_wp2_with (at_make; refine wpList_make_row _ rfl _ _ 22 rfl 5 Try.underlying22 Try.info5 _ _ _ _ N rfl rfl HN.out.symm HN.out.symm (by have := HN.out; omega) ?_; intro w2 hr2 hs2 hb2; clear hs2)
  have hW2 : WinB w2 W (.slice a n n) n r s o := hW1.block (hb2.block W hW1.lt)
  have hgs : 0 < n → g < w1.heap.size := fun h => World.block_lt_of_cell? w1 _ (hc1 0 h)
  have hc2 : ∀ i, i < n → w2.drew.cell? ⟨g, 0 + i, none⟩ = some (.int .u8 (f i)) := fun i hi => (hb2.cell (p := ⟨g, 0 + i, none⟩) (hgs (by omega))).trans (hc1 i hi)
  obtain ⟨w3, hcp, hr3, hs3, hb3, ho3⟩ := run_copy_bytes (P := Try.prog) w2.drew 22 22 3 5 Try.underlying22 Try.size5 w1.heap.size N n N n a g 0 f (fun _ => 0) ha hle hr2 hc2
  clear c0 c1 c2 c3 c4
  obtain ⟨c0, c1, c2, c3, c4⟩ := hW2.cells
  have hWlt : W < w1.heap.size := hW1.lt
  have hW3 : WinB w3 W (.slice a n n) n r s o := hW2.block (ho3 W (by omega))
  obtain ⟨d0, d1, d2, d3, d4⟩ := hW3.cells
  have e0 := hW3.frozen 0
  go_region
  go_wp2
  refine bodyPost_ret (v := .tuple #[]) (by simp [results, Try.results27]) rfl ⟨rfl, w1.heap.size, N, HN.out, by have := HW1.out.2; omega, hW3.set0 _, ?_, ?_, ?_, ?_⟩
  · exact (hr3.other ⟨W, 0, none⟩ (by show w1.heap.size ≠ W; omega) _)
  · have h1 := hb2.size; have h2 := HW1.out.2; have h3 : w2.drew.heap.size = w2.heap.size := rfl; simp [World.setCell]; omega
  · have hB1 : Below W w w1 := HW1.out.1.mono (by omega)
    have hB3 : Below W w2 w3 := ⟨hb3.os, hb3.tape, hb3.output, hb3.size, fun k hk => hb3.block k (by omega)⟩
    exact ((hB1.trans (hb2.mono (by omega))).trans hB3).setCell (p := ⟨W, 0, none⟩) (Nat.le_refl _) _
  · intro k hk hkw
    have h2 := HW1.out.2
    rw [Below.heap_setCell _ ⟨W, 0, none⟩ _ k hk, ho3 k (by omega)]
    exact (hb2.block k (by omega)).trans (HW1.out.1.block k (by omega))

/-- The window is full: the dictionary moves to its start. -/
theorem room_move (W g n : Nat) (f : Nat → Int) (r s o : Int) (w : World) (hn : n ≤ 1048576) (h0 : 0 ≤ s) (h1 : s ≤ 65536) (hS : s + 262144 ≤ (n : Int))
    (hgW : g ≠ W) (hw : WinB w W (.slice (some ⟨g, 0, none⟩) n n) n r s o) (hr : Row 5 w g n f) :
    Calls Try.prog 27 #[.pointer (some ⟨W, 0, none⟩)] w fun e w' => e = .returned (.tuple #[]) ∧
      ∃ (h : Nat → Int) (o' : Int), WinB w' W (.slice (some ⟨g, 0, none⟩) n n) s s s o' ∧ Row 5 w' g n h ∧ w.heap.size ≤ w'.heap.size ∧ (∀ k, k ≠ W → k ≠ g → k < w.heap.size → w'.heap[k]? = w.heap[k]?) ∧ Below 0 w w' := by
  obtain ⟨c0, c1, c2, c3, c4⟩ := hw.cells
  have hge : ¬ (n : Int) < (n : Int) := by omega
  go_enter Try.func27, Try.ntmps27
  go_wp2
  go_quiet (fail)
  go_wp2_with fail
  refine (length_any W s (w.drewN nq) h0 h1 c3).mono ?_
  rintro e w1 ⟨rfl, hw1⟩
  have hW1 : WinB w1 W (.slice (some ⟨g, 0, none⟩) n n) n r s o := by rw [hw1]; exact hw
  have hr1 : Row 5 w1 g n f := by rw [hw1]; exact hr
  have HW1 : Hid (Below w1.heap.size w w1 ∧ w1.heap.size = w.heap.size) := by rw [hw1]; exact ⟨⟨rfl, rfl, rfl, Nat.le_refl _, fun _ _ => rfl⟩, rfl⟩
  clear hw1 c0 c1 c2 c3 c4
  obtain ⟨c0, c1, c2, c3, c4⟩ := hW1.cells
  go_wp2
  go_quiet (fail)
  go_wp2
  obtain ⟨w2, hw2⟩ : ∃ w2, w2 = w1.drewN nq := ⟨_, rfl⟩
  have hW2 : WinB w2 W (.slice (some ⟨g, 0, none⟩) n n) n r s o := by rw [hw2]; exact hW1
  have hr2 : Row 5 w2 g n f := by rw [hw2]; exact hr1
  have HW2 : Hid (Below w2.heap.size w w2 ∧ w2.heap.size = w.heap.size) := by rw [hw2]; exact ⟨⟨HW1.out.1.os, HW1.out.1.tape, HW1.out.1.output, HW1.out.1.size, fun k hk => HW1.out.1.block k hk⟩, HW1.out.2⟩
  rw [← hw2]
  clear hw2 c0 c1 c2 c3 c4 HW1 hW1 hr1 hw hr
  obtain ⟨D, hD⟩ : ∃ D : Nat, (n : Int) - s = D := ⟨((n : Int) - s).toNat, by omega⟩
  have hDn : D ≤ n := by omega
  have hsD : (n : Int) - (D : Int) = s := by omega
  have HSD : Hid ((n : Int) - (D : Int) = s) := hsD
  rw [hD]
  clear hD hsD
  obtain ⟨c0, c1, c2, c3, c4⟩ := hW2.cells
  rcases Nat.lt_or_ge D n with hlt | hge2
  · obtain ⟨w3, hcp, hr3, hs3, hb3, ho3⟩ := run_copy_bytes (P := Try.prog) w2.drew 22 22 3 5 Try.underlying22 Try.size5 g n (n - D) n (n - D) (some ⟨g, D, none⟩) g D (fun i => f (D + i)) f (fun _ => rfl) (by omega) hr2 (fun i hi => hr2.cell (D + i) (by omega))
    have hW3 : WinB w3 W (.slice (some ⟨g, 0, none⟩) n n) n r s o := hW2.block (ho3 W (by omega))
    obtain ⟨d0, d1, d2, d3, d4⟩ := hW3.cells
    have e1 := hW3.frozen 1
    have e2 := hW3.frozen 2
    have e4 := hW3.frozen 4
    clear c2 c3 c4
    go_region
    go_wp2
    go_end0
    rw [HSD.out]
    refine ⟨rfl, _, _, ((hW3.set1 s).set2 s).set4 _, ((hr3.other ⟨W, 1, none⟩ hgW _).other ⟨W, 2, none⟩ hgW _).other ⟨W, 4, none⟩ hgW _, ?_, ?_, ?_⟩
    · have := HW2.out.2; have h3 : w2.drew.heap.size = w2.heap.size := rfl; simp [World.setCell]; omega
    · intro k hk hkg hkw
      have h2 := HW2.out.2
      rw [Below.heap_setCell _ ⟨W, 4, none⟩ _ k hk, Below.heap_setCell _ ⟨W, 2, none⟩ _ k hk, Below.heap_setCell _ ⟨W, 1, none⟩ _ k hk, ho3 k hkg]
      exact HW2.out.1.block k (by omega)
    · have h3 : Below 0 w2 w3 := ⟨hb3.os, hb3.tape, hb3.output, hb3.size, fun k hk => absurd hk (by omega)⟩
      exact ((((HW2.out.1.mono (Nat.zero_le _)).trans h3).setCell (p := ⟨W, 1, none⟩) (Nat.zero_le _) _).setCell (p := ⟨W, 2, none⟩) (Nat.zero_le _) _).setCell (p := ⟨W, 4, none⟩) (Nat.zero_le _) _
  · obtain rfl : D = n := by omega
    obtain ⟨w3, hcp, hr3, hs3, hb3, ho3⟩ := run_copy_bytes (P := Try.prog) w2.drew 22 22 3 5 Try.underlying22 Try.size5 g D 0 D 0 (some ⟨g, 0, none⟩) g 0 f f (fun h => absurd h (by omega)) (by omega) hr2 (fun i hi => absurd hi (by omega))
    have hW3 : WinB w3 W (.slice (some ⟨g, 0, none⟩) D D) D r s o := hW2.block (ho3 W (by omega))
    obtain ⟨d0, d1, d2, d3, d4⟩ := hW3.cells
    have e1 := hW3.frozen 1
    have e2 := hW3.frozen 2
    have e4 := hW3.frozen 4
    clear c2 c3 c4
    go_region
    go_wp2
    obtain rfl : s = 0 := by have := HSD.out; omega
    go_end0
    refine ⟨rfl, _, _, ((hW3.set1 0).set2 0).set4 _, ((hr3.other ⟨W, 1, none⟩ hgW _).other ⟨W, 2, none⟩ hgW _).other ⟨W, 4, none⟩ hgW _, ?_, ?_, ?_⟩
    · have := HW2.out.2; have h3 : w2.drew.heap.size = w2.heap.size := rfl; simp [World.setCell]; omega
    · intro k hk hkg hkw
      have h2 := HW2.out.2
      rw [Below.heap_setCell _ ⟨W, 4, none⟩ _ k hk, Below.heap_setCell _ ⟨W, 2, none⟩ _ k hk, Below.heap_setCell _ ⟨W, 1, none⟩ _ k hk, ho3 k hkg]
      exact HW2.out.1.block k (by omega)
    · have h3 : Below 0 w2 w3 := ⟨hb3.os, hb3.tape, hb3.output, hb3.size, fun k hk => absurd hk (by omega)⟩
      exact ((((HW2.out.1.mono (Nat.zero_le _)).trans h3).setCell (p := ⟨W, 1, none⟩) (Nat.zero_le _) _).setCell (p := ⟨W, 2, none⟩) (Nat.zero_le _) _).setCell (p := ⟨W, 4, none⟩) (Nat.zero_le _) _

end Go.Proofs.Qxb6001347a
