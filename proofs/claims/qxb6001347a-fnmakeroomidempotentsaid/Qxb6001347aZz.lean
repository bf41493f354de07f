/-
  The walk of ZZMakeRoom, in its three ways.
-/
import Derived.Test.Qxb6001347aRoom
namespace Go.Proofs.Qxb6001347a
open Go.ChangeShapes Go.WideShapes Go.ChangeAt Go.RowKit
set_option linter.unusedVariables false

theorem calls_one {P : Program} {g : FuncId} {args : Array Value} {Q : Ending → World → Prop} (w : World) (o1 : Obj)
    (h : ∀ W, W.heap[w.heap.size]? = some o1 → W.heap.size = w.heap.size + 1 → Below w.heap.size w W → Calls P g args W Q) :
    Calls P g args (w.alloc o1) Q :=
  h _ (heap_alloc_new w o1) (by simp) ((Below.refl _ w).alloc (Nat.le_refl _) o1)

theorem zz_noop (a : Option Addr) (n c : Nat) (p r s o : Int) (w : World) (h0 : 0 ≤ p) (hp : p < n) :
    Calls Try.prog 13 #[.slice a n c, .int .i64 p, .int .i64 r, .int .i64 s, .int .i64 o] w fun e w' => e = .returned (.tuple #[.slice a n c, .int .i64 p, .int .i64 r, .int .i64 s, .int .i64 o]) ∧ Below w.heap.size w w' := by
  go_enter Try.func13, Try.ntmps13
  go_wp2_with fail
  refine calls_one w _ ?_
  intro W hW hsW hbW
  have hwin : WinB W w.heap.size (.slice a n c) p r s o := hW
  refine (room_noop w.heap.size a n c p r s o W h0 hp hwin).mono ?_
  rintro e w1 ⟨rfl, q, hw1⟩
  have hwin1 : WinB w1 w.heap.size (.slice a n c) p r s o := by rw [hw1]; exact hwin
  have hb1 : Below w.heap.size w w1 := by rw [hw1]; exact below_drewN hbW q
  clear hw1 hW hsW hbW hwin
  obtain ⟨c0, c1, c2, c3, c4⟩ := hwin1.cells
  go_wp2
  go_quiet (fail)
  go_wp2
  exact bodyPost_ret (v := .tuple #[.slice a n c, .int .i64 p, .int .i64 r, .int .i64 s, .int .i64 o]) (by simp [results, Try.results13]) rfl ⟨rfl, below_drewN hb1 _⟩

theorem zz_grow (a : Option Addr) (g n : Nat) (f : Nat → Int) (r s o : Int) (w : World) (hn : (n : Int) < s + 262144) (h0 : 0 ≤ s) (h1 : s ≤ 65536) (ha : 0 < n → a = some ⟨g, 0, none⟩) (ha0 : a = none → n = 0)
    (hgW : g ≠ w.heap.size) (hg : 0 < n → g < w.heap.size) (hc : ∀ i, i < n → w.cell? ⟨g, 0 + i, none⟩ = some (.int .u8 (f i))) :
    Calls Try.prog 13 #[.slice a n n, .int .i64 n, .int .i64 r, .int .i64 s, .int .i64 o] w fun e w' =>
      ∃ (G N : Nat) (h : Nat → Int), (N : Int) = s + 262144 ∧ w.heap.size ≤ G ∧ e = .returned (.tuple #[.slice (some ⟨G, 0, none⟩) N N, .int .i64 n, .int .i64 r, .int .i64 s, .int .i64 o]) ∧ Row 5 w' G N h ∧ Below w.heap.size w w' := by
  go_enter Try.func13, Try.ntmps13
  go_wp2_with fail
  refine calls_one w _ ?_
  intro W hW hsW hbW
  have hwin : WinB W w.heap.size (.slice a n n) n r s o := hW
  refine (room_grow w.heap.size g a n f r s o W hn h0 h1 ha ha0 hgW hwin (fun i hi => (hbW.cell (p := ⟨g, 0 + i, none⟩) (hg (by omega))).trans (hc i hi))).mono ?_
  rintro e w1 ⟨rfl, G, N, hN, hG, hwin1, hr1, hs1, hb1, _⟩
  have hbw1 : Below w.heap.size w w1 := hbW.trans hb1
  have HN : Hid ((N : Int) = s + 262144) := hN
  have hGw : w.heap.size ≤ G := by omega
  clear hW hsW hbW hwin hN
  obtain ⟨c0, c1, c2, c3, c4⟩ := hwin1.cells
  go_wp2
  go_quiet (fail)
  go_wp2
  exact bodyPost_ret (v := .tuple #[.slice (some ⟨G, 0, none⟩) N N, .int .i64 n, .int .i64 r, .int .i64 s, .int .i64 o]) (by simp [results, Try.results13]) rfl ⟨G, N, _, HN.out, hGw, rfl, hr1, below_drewN hbw1 _⟩

theorem zz_move (g n : Nat) (f : Nat → Int) (r s o : Int) (w : World) (hn : n ≤ 1048576) (h0 : 0 ≤ s) (h1 : s ≤ 65536) (hS : s + 262144 ≤ (n : Int)) (hr : Row 5 w g n f) :
    Calls Try.prog 13 #[.slice (some ⟨g, 0, none⟩) n n, .int .i64 n, .int .i64 r, .int .i64 s, .int .i64 o] w fun e w' =>
      ∃ (h : Nat → Int) (o' : Int), e = .returned (.tuple #[.slice (some ⟨g, 0, none⟩) n n, .int .i64 s, .int .i64 s, .int .i64 s, .int .i64 o']) ∧ Row 5 w' g n h ∧ w.heap.size ≤ w'.heap.size ∧ (∀ k, k ≠ g → k < w.heap.size → w'.heap[k]? = w.heap[k]?) ∧ Below 0 w w' := by
  have hg := hr.lt
  go_enter Try.func13, Try.ntmps13
  go_wp2_with fail
  refine calls_one w _ ?_
  intro W hW hsW hbW
  have hwin : WinB W w.heap.size (.slice (some ⟨g, 0, none⟩) n n) n r s o := hW
  refine (room_move w.heap.size g n f r s o W hn h0 h1 hS (by omega) hwin (hr.below hbW hg)).mono ?_
  rintro e w1 ⟨rfl, h, o', hwin1, hr1, hs1, ho1, hb1⟩
  have hbw1 : Below 0 w w1 := (hbW.mono (Nat.zero_le _)).trans hb1
  have hold : ∀ k, k ≠ g → k < w.heap.size → w1.heap[k]? = w.heap[k]? := fun k hk hkw => (ho1 k (by omega) hk (by omega)).trans (hbW.block k hkw)
  have hsz : w.heap.size ≤ w1.heap.size := by omega
  clear hW hsW hbW hwin ho1 hs1
  obtain ⟨c0, c1, c2, c3, c4⟩ := hwin1.cells
  go_wp2
  go_quiet (fail)
  go_wp2
  exact bodyPost_ret (v := .tuple #[.slice (some ⟨g, 0, none⟩) n n, .int .i64 s, .int .i64 s, .int .i64 s, .int .i64 o']) (by simp [results, Try.results13]) rfl ⟨h, o', rfl, hr1, hsz, hold, below_drewN hbw1 _⟩

end Go.Proofs.Qxb6001347a
