/-
  The walks of zzEqualBytes and of FnReadPlainReuseIsFresh.
-/
import Derived.Test.Qxb6000782aZz
import Derived.Deep.WholeRow
namespace Go.Proofs.Qxb6000782a
open Go.ChangeShapes Go.WideShapes Go.ChangeAt Go.RowKit
set_option linter.unusedVariables false

/-- zzEqualBytes of two rows of the same bytes. -/
theorem eqb_pos (ga gb n ca cb : Nat) (h : Nat → Int) (w : World) (hn : n ≤ 9223372036854775807)
    (hca : ∀ i, i < n → w.cell? ⟨ga, i, none⟩ = some (.int .u8 (h i))) (hcb : ∀ i, i < n → w.cell? ⟨gb, i, none⟩ = some (.int .u8 (h i))) :
    Calls Try.prog 19 #[.slice (some ⟨ga, 0, none⟩) n ca, .slice (some ⟨gb, 0, none⟩) n cb] w fun e w' => e = .returned (.bool true) ∧ ∃ q, w' = w.drewN q := by
  go_enter Try.func19, Try.ntmps19
  go_wp2
  go_loopw [5] (fun t wr => ∃ k : Nat, k ≤ n ∧ t = .int .i64 k ∧ ∃ q, wr = w.drewN q) (fun t _ => n - (intOf t).toNat)
  case atStart => exact ⟨0, Nat.zero_le _, rfl, 0, rfl⟩
  case round =>
    obtain ⟨k, hk, rfl, q, rfl⟩ := hrel
    by_cases hlt : k < n
    · have hck : (w.drewN q).cell? ⟨ga, k, none⟩ = some (.int .u8 (h k)) := hca k hlt
      have hck' : (w.drewN q).cell? ⟨gb, k, none⟩ = some (.int .u8 (h k)) := hcb k hlt
      have hki : (k : Int) < (n : Int) := by omega
      clear hca hcb
      obtain ⟨w2, hw2⟩ : ∃ w2, w2 = w.drewN q := ⟨_, rfl⟩
      rw [← hw2] at hck hck' ⊢
      have HW : Hid (w2 = w.drewN q) := hw2
      clear hw2
      have hne : (h k != h k) = false := by simp
      go_wp2
      go_quiet (fail)
      go_wp2
      go_roundw
      case rel => exact ⟨k + 1, by omega, by go_num, _, by rw [HW.out, drewN_drewN]⟩
      case measure => simp [intOf]; omega
    · go_wp2
      go_ret
      exact ⟨rfl, q, rfl⟩
theorem eqb_zero (ao bo : Option Addr) (ca cb : Nat) (w : World) :
    Calls Try.prog 19 #[.slice ao 0 ca, .slice bo 0 cb] w fun e w' => e = .returned (.bool true) ∧ ∃ q, w' = w.drewN q := by
  go_enter Try.func19, Try.ntmps19
  go_wp2
  refine wp_loop_rounds 1 ?_
  rw [rounds_succ]
  go_wp2
  go_ret
  exact ⟨rfl, 0, rfl⟩

theorem getD_map (r : List Int) (i : Nat) (hi : i < r.length) : (r.map (Value.int .u8))[i]? = some (.int .u8 (r.getD i 0)) := by
  rw [List.getElem?_map, List.getElem?_eq_getElem hi, List.getD_eq_getElem?_getD, List.getElem?_eq_getElem hi]; rfl

/-- zzEqualBytes of two slices that own the same bytes. -/
theorem eqb_owns (A B : Nat) (va vb : Value) (r : List Int) (w : World) (ha : w.ownsRow A 5 1 va r.length (r.map (Value.int .u8))) (hb : w.ownsRow B 5 1 vb r.length (r.map (Value.int .u8))) (n : Nat) :
    Calls Try.prog 19 #[va, vb] (w.drewN n) fun e w' => e = .returned (.bool true) ∧ ∃ q, w' = w.drewN q := by
  have key : Calls Try.prog 19 #[va, vb] (w.drewN n) fun e w' => e = .returned (.bool true) ∧ ∃ q, w' = (w.drewN n).drewN q := by
    rcases Nat.eq_zero_or_pos r.length with h0 | h0
    · obtain ⟨ao, n1, c1, e1⟩ : ∃ ao n1 c1, va = .slice ao n1 c1 ∧ n1 = 0 := by
        rcases ha.2 with ⟨h, hn⟩ | ⟨g, cap, cur, h, _⟩
        · exact ⟨_, _, _, h, rfl⟩
        · exact ⟨_, _, _, h, h0⟩
      obtain ⟨bo, n2, c2, e2⟩ : ∃ ao n1 c1, vb = .slice ao n1 c1 ∧ n1 = 0 := by
        rcases hb.2 with ⟨h, hn⟩ | ⟨g, cap, cur, h, _⟩
        · exact ⟨_, _, _, h, rfl⟩
        · exact ⟨_, _, _, h, h0⟩
      obtain ⟨rfl, rfl⟩ := e1
      obtain ⟨rfl, rfl⟩ := e2
      exact eqb_zero _ _ _ _ _
    · rcases ha.2 with ⟨h, hn⟩ | ⟨g, cap, cur, hva, _, hg, hl1, hl2, _, htk⟩
      · omega
      rcases hb.2 with ⟨h, hn⟩ | ⟨g', cap', cur', hvb, _, hg', _, _, _, htk'⟩
      · omega
      subst hva
      subst hvb
      refine eqb_pos g g' r.length cap cap' (fun i => r.getD i 0) (w.drewN n) (by unfold maxLen at hl2; omega) (fun i hi => ?_) (fun i hi => ?_)
      · exact ((ha.cellAt i (by omega)).trans (getD_map r i hi) : w.cell? ⟨g, i, none⟩ = _)
      · exact ((hb.cellAt i (by omega)).trans (getD_map r i hi) : w.cell? ⟨g', i, none⟩ = _)
  exact key.mono (fun e w' ⟨h1, q, h2⟩ => ⟨h1, n + q, by rw [h2, drewN_drewN]⟩)

theorem outF_0 (ok : Bool) (gs ts : Nat → Bool) (vs : Nat → Value) : outF ok gs ts vs 6 0 = .bool ok := rfl
theorem outF_g (ok : Bool) (gs ts : Nat → Bool) (vs : Nat → Value) (k : Nat) (hk : k < 6) : outF ok gs ts vs 6 (1 + k) = .bool (gs k) := by
  unfold outF; rw [if_neg (by omega), if_pos (by omega), if_pos (by omega), show 1 + k - 1 = k from by omega]
theorem outF_t (ok : Bool) (gs ts : Nat → Bool) (vs : Nat → Value) (k : Nat) (hk : k < 6) : outF ok gs ts vs 6 (7 + k) = .bool (ts k) := by
  unfold outF; rw [if_neg (by omega), if_neg (by omega), if_pos (by omega), if_pos (by omega), show 7 + k - 7 = k from by omega]
theorem outF_v (ok : Bool) (gs ts : Nat → Bool) (vs : Nat → Value) (k : Nat) (hk : k < 6) : outF ok gs ts vs 6 (13 + k) = vs k := by
  unfold outF; rw [if_neg (by omega), if_neg (by omega), if_neg (by omega), if_pos (by omega), show 13 + k - 13 = k from by omega]

theorem walk8_long (a0 a1 : Option Addr) (n c m d : Nat) (w : World) (hn : n ≤ maxLen) (hm : m ≤ maxLen) (h : 524288 < n ∨ 524288 < m) :
    Calls Try.prog 8 #[.slice a0 n c, .slice a1 m d] w fun e w' => e = .returned (.bool true) ∧ Below w.heap.size w w' := by
  by_cases hb : 1048576 < n + m
  · go_enter Try.func8, Try.ntmps8
    go_wp2_with (go_at_call 29; refine (bytes29_no _ _ _ _ _ _ _ hn hm hb).mono ?_; rintro e w' ⟨rfl, rfl⟩)
    go_ret
    exact ⟨rfl, Below.refl _ _⟩
  · by_cases h1 : 524288 < n
    all_goals
      go_enter Try.func8, Try.ntmps8
      go_wp2_with (go_at_call 29; refine (bytes29_yes _ _ _ _ _ _ _ (by omega)).mono ?_; rintro e w' ⟨rfl, rfl⟩)
      go_ret
      exact ⟨rfl, Below.refl _ _⟩

theorem walk8_zero (a0 a1 : Option Addr) (c m d : Nat) (w : World) (hm : m ≤ 524288) :
    Calls Try.prog 8 #[.slice a0 0 c, .slice a1 m d] w fun e w' => e = .returned (.bool true) ∧ Below w.heap.size w w' := by
  go_enter Try.func8, Try.ntmps8
  go_wp2_with (go_at_call 29; refine (bytes29_yes _ _ _ _ _ _ _ (by omega)).mono ?_; rintro e w' ⟨rfl, rfl⟩)
  go_ret
  exact ⟨rfl, Below.refl _ _⟩

theorem walk8_early (b off n c m d : Nat) (a1 : Option Addr) (x : Int) (w : World) (hn : n ≤ 524288) (hm : m ≤ 524288) (h0 : 0 < n) (hc : w.cell? ⟨b, off, none⟩ = some (.int .u8 x)) (h : x ≠ 123 ∨ m = 0) :
    Calls Try.prog 8 #[.slice (some ⟨b, off, none⟩) n c, .slice a1 m d] w fun e w' => e = .returned (.bool true) ∧ Below w.heap.size w w' := by
  have hz : ((n : Int) == 0) = false := by simp; omega
  have hp : (0 : Int) < (n : Int) := by omega
  by_cases hx : x = 123
  · obtain rfl : m = 0 := by omega
    subst hx
    go_enter Try.func8, Try.ntmps8
    go_wp2_with (go_at_call 29; refine (bytes29_yes _ _ _ _ _ _ _ (by omega)).mono ?_; rintro e w' ⟨rfl, rfl⟩)
    go_ret
    exact ⟨rfl, Below.refl _ _⟩
  · have hxb : (x != 123) = true := by simpa using hx
    clear hx h
    go_enter Try.func8, Try.ntmps8
    go_wp2_with (go_at_call 29; refine (bytes29_yes _ _ _ _ _ _ _ (by omega)).mono ?_; rintro e w' ⟨rfl, rfl⟩)
    go_ret
    exact ⟨rfl, Below.refl _ _⟩

theorem walk8_early2 (b off n c b' off' m d : Nat) (y : Int) (w : World) (hn : n ≤ 524288) (hm : m ≤ 524288) (h0 : 0 < n) (h1 : 0 < m) (hc : w.cell? ⟨b, off, none⟩ = some (.int .u8 123)) (hc' : w.cell? ⟨b', off', none⟩ = some (.int .u8 y)) (hy : y ≠ 123) :
    Calls Try.prog 8 #[.slice (some ⟨b, off, none⟩) n c, .slice (some ⟨b', off', none⟩) m d] w fun e w' => e = .returned (.bool true) ∧ Below w.heap.size w w' := by
  have hz : ((n : Int) == 0) = false := by simp; omega
  have hp : (0 : Int) < (n : Int) := by omega
  have hz' : ((m : Int) == 0) = false := by simp; omega
  have hp' : (0 : Int) < (m : Int) := by omega
  have hyb : (y != 123) = true := by simpa using hy
  clear hy
  go_enter Try.func8, Try.ntmps8
  go_wp2_with (go_at_call 29; refine (bytes29_yes _ _ _ _ _ _ _ (by omega)).mono ?_; rintro e w' ⟨rfl, rfl⟩)
  go_ret
  exact ⟨rfl, Below.refl _ _⟩

theorem boxed (w : World) (old cs : Array Value) (ty : TypeId) : ((w.alloc (.cells old ty)).setRow w.heap.size cs).heap[w.heap.size]? = some (.cells cs ty (0, 0)) ∧
    ((w.alloc (.cells old ty)).setRow w.heap.size cs).heap.size = w.heap.size + 1 ∧ Below w.heap.size w ((w.alloc (.cells old ty)).setRow w.heap.size cs) :=
  ⟨setRow_heap _ _ old _ ty (0, 0) (heap_alloc_new w _), by simp, below_setRow ((Below.refl _ w).alloc (Nat.le_refl _) _) (Nat.le_refl _) _⟩
theorem calls_boxed {P : Program} {k : FuncId} {args : Array Value} {Q : Ending → World → Prop} (w : World) (old cs : Array Value) (ty : TypeId)
    (h : ∀ W, W.heap[w.heap.size]? = some (.cells cs ty (0, 0)) → W.heap.size = w.heap.size + 1 → Below w.heap.size w W → Calls P k args W Q) :
    Calls P k args ((w.alloc (.cells old ty)).setRow w.heap.size cs) Q :=
  h _ (boxed w old cs ty).1 (boxed w old cs ty).2.1 (boxed w old cs ty).2.2
theorem wp_boxed {P : Program} {c : Code} {Q : Exit → Act → World → Prop} {a : Act} (w : World) (old cs : Array Value) (ty : TypeId)
    (h : ∀ W, W.heap[w.heap.size]? = some (.cells cs ty (0, 0)) → W.heap.size = w.heap.size + 1 → Below w.heap.size w W → Code.wp P c Q a W) :
    Code.wp P c Q a ((w.alloc (.cells old ty)).setRow w.heap.size cs) :=
  h _ (boxed w old cs ty).1 (boxed w old cs ty).2.1 (boxed w old cs ty).2.2

theorem walk8_main (b off n c b' off' m d : Nat) (f g : Nat → Int) (w : World) (hn : n ≤ 524288) (hm : m ≤ 524288) (h0 : 0 < n) (h1 : 0 < m) (hbw : b < w.heap.size) (hbw' : b' < w.heap.size)
    (hf : ∀ i, i < n → 0 ≤ f i ∧ f i ≤ 255) (hg : ∀ i, i < m → 0 ≤ g i ∧ g i ≤ 255)
    (hc : ∀ i, i < n → w.cell? ⟨b, off + i, none⟩ = some (.int .u8 (f i))) (hc' : ∀ i, i < m → w.cell? ⟨b', off' + i, none⟩ = some (.int .u8 (g i))) (hx : f 0 = 123) (hy : g 0 = 123) :
    Calls Try.prog 8 #[.slice (some ⟨b, off, none⟩) n c, .slice (some ⟨b', off', none⟩) m d] w fun e w' => e = .returned (.bool true) ∧ Below w.heap.size w w' := by
  have hz : ((n : Int) == 0) = false := by simp; omega
  have hz' : ((m : Int) == 0) = false := by simp; omega
  have hp : (0 : Int) < (n : Int) := by omega
  have hp' : (0 : Int) < (m : Int) := by omega
  have hc0 : w.cell? ⟨b, off, none⟩ = some (.int .u8 123) := by have := hc 0 h0; rw [hx] at this; simpa using this
  have hc0' : w.cell? ⟨b', off', none⟩ = some (.int .u8 123) := by have := hc' 0 h1; rw [hy] at this; simpa using this
  have HC : Hid (∀ i, i < n → w.cell? ⟨b, off + i, none⟩ = some (.int .u8 (f i))) := hc
  have HC' : Hid (∀ i, i < m → w.cell? ⟨b', off' + i, none⟩ = some (.int .u8 (g i))) := hc'
  clear hc hc' hx hy
  have hlaw := readP_same g m noV (readP f n noV).2
  obtain ⟨r1, e1⟩ : ∃ r, r = readP g m noV := ⟨_, rfl⟩
  obtain ⟨r2, e2⟩ : ∃ r, r = readP g m (readP f n noV).2 := ⟨_, rfl⟩
  rw [← e1, ← e2] at hlaw
  have HE1 : Hid (readP g m noV = r1) := e1.symm
  have HE2 : Hid (readP g m (readP f n noV).2 = r2) := e2.symm
  have HLW : Hid (r1.1 = r2.1 ∧ Same r1.2 r2.2) := hlaw
  clear hlaw e1 e2
  go_enter Try.func8, Try.ntmps8
  go_wp2_with (go_at_call 29; refine (bytes29_yes _ _ _ _ _ _ _ (by omega)).mono ?_; rintro e w' ⟨rfl, rfl⟩)
  refine (clone_any b off n c f _ (by omega) hbw HC.out).mono ?_
  rintro e w1 ⟨rfl, hr1, hb1⟩
  have hs1 := hr1.lt
  go_wp2_with fail
  refine (clone_any b' off' m d g _ (by omega) (by omega) (fun i hi => (hb1.cell (p := ⟨b', off' + i, none⟩) hbw').trans (HC'.out i hi))).mono ?_
  rintro e w2 ⟨rfl, hr2, hb2⟩
  have hs2 := hr2.lt
  have hr12 := hr1.below hb2 hs1
  go_wp2_with fail
  refine (zzread_aux r1 w1.heap.size 0 m m g _ HE1 h1 (by omega) (Nat.le_refl _) hs2 hg hr2.cell0).mono ?_
  rintro e w3 ⟨v, rfl, ⟨vs, rfl, B3, hown3⟩, hb3⟩
  have hr13 := hr12.below hb3 (by omega)
  have hr23 := hr2.below hb3 hs2
  have hbw3 : Below w.heap.size w w3 := (hb1.trans (hb2.mono (by omega))).trans (hb3.mono (by omega))
  have hs3 := hb3.size
  have hsz : ∀ ok gs ts vs, (Try.prog.info? 45).map (·.size) = some (zzC ok gs ts vs).size := fun ok gs ts vs => by rw [zzC_size]; exact Try.size45
  have HSZ : Hid (∀ ok gs ts vs, (Try.prog.info? 45).map (·.size) = some (zzC ok gs ts vs).size) := hsz
  clear hsz
  have hsh3 : ∀ j, j < 6 → ∃ a n c, vs j = .slice a n c := fun j hj => owns_shape (hown3 j hj)
  go_wp2_with (refine wpList_store_row rfl 45 _ _ rfl w3.heap.size (zzC r1.1 (fun j => (r1.2 j).giv) (fun j => (r1.2 j).twi) vs) rfl rfl 45 _ (heap_alloc_new w3 _) (HSZ.out _ _ _ _) (zzC_size _ _ _ _).symm (zzC_one _ _ _ _ hsh3) ?_)
  refine calls_boxed w3 _ _ 45 ?_
  intro w4 hB4 hs4 hb4
  have hr14 := hr13.below hb4 (by omega)
  have hr24 := hr23.below hb4 (by omega)
  refine (zzafter_aux (readP f n noV) r2 w1.heap.size 0 m m w.heap.size 0 n n g f w4 rfl HE2 h1 (by omega) (Nat.le_refl _) (by omega) hg hr24.cell0 h0 (by omega) (Nat.le_refl _) (by omega) hf hr14.cell0).mono ?_
  rintro e w5 ⟨v, rfl, ⟨vs', rfl, B5, hown5⟩, hb5⟩
  have hs5 := hb5.size
  have hB5 := (hb5.block w3.heap.size (by omega)).trans hB4
  have hsh5 : ∀ j, j < 6 → ∃ a n c, vs' j = .slice a n c := fun j hj => owns_shape (hown5 j hj)
  have hown35 : ∀ j, j < 6 → w5.ownsRow B3 5 1 (vs j) (r1.2 j).raw.length ((r1.2 j).raw.map (Value.int .u8)) := fun j hj =>
    ((hown3 j hj).kept (grownBy_below (row := none) hb4) (by cases (vs j).ownBlock <;> simp)).kept (grownBy_below (row := none) hb5) (by cases (vs j).ownBlock <;> simp)
  have hbw5 : Below w.heap.size w w5 := (hbw3.trans (hb4.mono (by omega))).trans (hb5.mono (by omega))
  clear hB4 hr14 hr24 hr13 hr23 hr12 hr1 hr2
  go_wp2_with (refine wpList_store_row rfl 45 _ _ rfl w5.heap.size (zzC r2.1 (fun j => (r2.2 j).giv) (fun j => (r2.2 j).twi) vs') rfl rfl 45 _ (heap_alloc_new w5 _) (HSZ.out _ _ _ _) (zzC_size _ _ _ _).symm (zzC_one _ _ _ _ hsh5) ?_)
  refine wp_boxed w5 _ _ 45 ?_
  intro w6 hB6 hs6 hb6
  have hA : Blk w6 w3.heap.size 45 19 (outF r1.1 (fun j => (r1.2 j).giv) (fun j => (r1.2 j).twi) vs 6) := (hb6.block w3.heap.size (by omega)).trans hB5
  have hB : Blk w6 w5.heap.size 45 19 (outF r2.1 (fun j => (r2.2 j).giv) (fun j => (r2.2 j).twi) vs' 6) := hB6
  have hownA : ∀ j, j < 6 → w6.ownsRow B3 5 1 (vs j) (r1.2 j).raw.length ((r1.2 j).raw.map (Value.int .u8)) := fun j hj =>
    (hown35 j hj).kept (grownBy_below (row := none) hb6) (by cases (vs j).ownBlock <;> simp)
  have hownB : ∀ j, j < 6 → w6.ownsRow B5 5 1 (vs' j) (r2.2 j).raw.length ((r2.2 j).raw.map (Value.int .u8)) := fun j hj =>
    (hown5 j hj).kept (grownBy_below (row := none) hb6) (by cases (vs' j).ownBlock <;> simp)
  have hbw6 : Below w.heap.size w w6 := hbw5.trans (hb6.mono (by omega))
  clear hB6 hB5 hown35 hown3 hown5 hs4 hs5 hs6 hb6 hb5 hb4 hb3 hb2 hb1 hs1 hs2 hs3 hbw3 hbw5 HSZ HE1 HE2 HC HC' hf hg hc0 hc0' hz hz' hp hp'
  go_loopw [7] (fun t wr => ∃ k : Nat, k ≤ 6 ∧ t = .int .i64 k ∧ ∃ q, wr = w6.drewN q) (fun t _ => 6 - (intOf t).toNat)
  case atStart => exact ⟨0, by omega, rfl, 0, rfl⟩
  case round =>
    obtain ⟨k, hk, rfl, q, rfl⟩ := hrel
    obtain ⟨w7, hw7⟩ : ∃ w7, w7 = w6.drewN q := ⟨_, rfl⟩
    have hA7 : Blk w7 w3.heap.size 45 19 (outF r1.1 (fun j => (r1.2 j).giv) (fun j => (r1.2 j).twi) vs 6) := by rw [hw7]; exact hA
    have hB7 : Blk w7 w5.heap.size 45 19 (outF r2.1 (fun j => (r2.2 j).giv) (fun j => (r2.2 j).twi) vs' 6) := by rw [hw7]; exact hB
    have HW : Hid (w7 = w6.drewN q) := hw7
    rw [← hw7]
    clear hw7
    by_cases hlt : k < 6
    · have a1 := hA7.cell (1 + k) (by omega)
      have a2 := hA7.cell (7 + k) (by omega)
      have a3 := hA7.cell (13 + k) (by omega)
      have b1 := hB7.cell (1 + k) (by omega)
      have b2 := hB7.cell (7 + k) (by omega)
      have b3 := hB7.cell (13 + k) (by omega)
      rw [outF_g _ _ _ _ k hlt] at a1 b1
      rw [outF_t _ _ _ _ k hlt] at a2 b2
      rw [outF_v _ _ _ _ k hlt] at a3 b3
      have hsame := HLW.out.2 k
      rw [← hsame.1] at b1
      rw [← hsame.2.1] at b2
      have hraw := hsame.2.2
      have hoA := hownA k hlt
      have hoB := hownB k hlt
      clear hA7 hB7 hsame hA hB hownA hownB
      generalize (r1.2 k).giv = G at a1 b1 hraw
      generalize (r1.2 k).twi = T at a2 b2
      generalize (r1.2 k).raw = ra at hraw hoA
      generalize (r2.2 k).raw = rb at hraw hoB
      have hGG : (G != G) = false := by cases G <;> rfl
      have hTT : (T != T) = false := by cases T <;> rfl
      have hki : (k : Int) < 6 := by omega
      go_wp2
      go_quiet (fail)
      obtain ⟨w8, hw8⟩ : ∃ w8, w8 = w7.drewN nq := ⟨_, rfl⟩
      have a1' : w8.cell? ⟨w3.heap.size, 1 + k, none⟩ = some (.bool G) := by rw [hw8]; exact a1
      have a3' : w8.cell? ⟨w3.heap.size, 13 + k, none⟩ = some (vs k) := by rw [hw8]; exact a3
      have b3' : w8.cell? ⟨w5.heap.size, 13 + k, none⟩ = some (vs' k) := by rw [hw8]; exact b3
      have hoA' : w8.ownsRow B3 5 1 (vs k) ra.length (ra.map (Value.int .u8)) := by rw [hw8, HW.out]; exact hoA
      have hoB' : w8.ownsRow B5 5 1 (vs' k) rb.length (rb.map (Value.int .u8)) := by rw [hw8, HW.out]; exact hoB
      have HW8 : Hid (w8 = w6.drewN (q + nq)) := by show w8 = _; rw [hw8, HW.out, drewN_drewN]
      rw [← hw8]
      clear hw8 a1 a2 a3 b1 b2 b3 hoA hoB
      cases G with
      | false =>
        go_wp2
        go_quiet (fail)
        go_wp2
        go_roundw
        case rel => exact ⟨k + 1, by omega, by go_num, _, by rw [HW8.out, drewN_drewN]⟩
        case measure => simp [intOf]; omega
      | true =>
        obtain rfl := hraw rfl
        obtain ⟨xa, na, da, hva⟩ := hsh3 k hlt
        obtain ⟨xb, nb, db, hvb⟩ := hsh5 k hlt
        rw [hva] at a3' hoA'
        rw [hvb] at b3' hoB'
        have hcall := eqb_owns B3 B5 _ _ ra w8 hoA' hoB'
        have HCL : Hid (∀ n, Calls Try.prog 19 #[.slice xa na da, .slice xb nb db] (w8.drewN n) fun e w' => e = .returned (.bool true) ∧ ∃ q, w' = w8.drewN q) := hcall
        clear hcall hva hvb hoA' hoB' hraw
        go_wp2
        go_quiet ((go_at_call 19; exact HCL.out _))
        go_wp2
        go_roundw
        case rel => exact ⟨k + 1, by omega, by go_num, _, by rw [HW8.out, drewN_drewN]⟩
        case measure => simp [intOf]; omega
    · have a0 := hA7.cell 0 (by omega)
      have b0 := hB7.cell 0 (by omega)
      rw [outF_0] at a0 b0
      rw [← HLW.out.1] at b0
      generalize r1.1 = K at a0 b0
      clear hA7 hB7 hA hB
      go_wp2
      go_ret
      exact ⟨ret_bool (by simp), by rw [HW.out]; exact below_drewN hbw6 _⟩

end Go.Proofs.Qxb6000782a
