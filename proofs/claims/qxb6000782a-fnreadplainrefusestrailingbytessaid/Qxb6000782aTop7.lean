/-
  The walks of zzConcat and of FnReadPlainRefusesTrailingBytes.
-/
import Derived.Test.Qxb6000782aZz
import Derived.Laws.AppendOwnNone
namespace Go.Proofs.Qxb6000782a
open Go.ChangeShapes Go.WideShapes Go.ChangeAt Go.RowKit
set_option linter.unusedVariables false

/-- Two rows, one behind the other. -/
def cat (f g : Nat → Int) (n : Nat) : Nat → Int := fun i => if i < n then f i else g (i - n)
theorem rowOf_cat (f g : Nat → Int) (n m : Nat) : rowOf f n ++ rowOf g m = rowOf (cat f g n) (n + m) := by
  apply List.ext_getElem?
  intro j
  rw [List.getElem?_append, rowOf_len]
  by_cases hj : j < n
  · rw [if_pos hj, rowOf_at _ _ _ hj, rowOf_at _ _ _ (by omega)]; unfold cat; rw [if_pos hj]
  · rw [if_neg hj]
    by_cases h2 : j - n < m
    · rw [rowOf_at _ _ _ h2, rowOf_at _ _ _ (by omega)]; unfold cat; rw [if_neg hj]
    · rw [rowOf_past _ _ _ (by omega), rowOf_past _ _ _ (by omega)]

theorem rowOf_news {e : TypeId} {w : World} {g n : Nat} {f : Nat → Int} (h : Row e w g n f) : ∀ j u, (rowOf f n)[j]? = some u → w.cell? ((⟨g, 0, none⟩ : Addr).add j) = some u := by
  intro j u hu
  obtain ⟨hj, rfl⟩ := rowOf_get f n j u hu
  rw [Addr.add_lit]; exact h.cell0 j hj

theorem row_of_owns {w : World} {B g n : Nat} {f : Nat → Int} (h : w.ownsRow B 5 1 (.slice (some ⟨g, 0, none⟩) n n) n (rowOf f n)) : Row 5 w g n f := by
  rcases h.2 with ⟨h', _⟩ | ⟨g', cap', cur, h', _, hg, _, _, hcs, htk⟩
  · simp at h'
  · simp only [Value.slice.injEq, Option.some.injEq, Addr.mk.injEq, and_true, true_and] at h'
    obtain ⟨rfl, rfl⟩ := h'
    have e : cur.toList = rowOf f n := by
      rw [← htk, List.take_of_length_le]
      rw [Array.length_toList, hcs]; exact Nat.le_refl _
    unfold Row
    rw [hg, ← e]

theorem concat_any (ga gb n m : Nat) (f g : Nat → Int) (w : World) (hn : n ≤ 524288) (hm : m ≤ 524288) (hra : Row 5 w ga n f) (hrb : Row 5 w gb m g) :
    Calls Try.prog 14 #[.slice (some ⟨ga, 0, none⟩) n n, .slice (some ⟨gb, 0, none⟩) m m, .slice none 0 0] w fun e w' =>
      e = .returned (.slice (some ⟨w.heap.size, 0, none⟩) (n + m) (n + m)) ∧ Row 5 w' w.heap.size (n + m) (cat f g n) ∧ Below w.heap.size w w' := by
  obtain ⟨i0, hi, hz0, hz1, hz2⟩ := info_parts Try.info5
  have ha := hra.lt
  have hb := hrb.lt
  have hna : some ga ≠ some w.heap.size := by intro e; injection e with e; omega
  have hnb : some gb ≠ some w.heap.size := by intro e; injection e with e; omega
  go_enter Try.func14, Try.ntmps14
  go_wp2_with (first
    | (at_make; refine wpList_make_own _ rfl _ _ 22 rfl w.heap.size 5 i0 (.int .u8 0) 1 Try.underlying22 hi hz0 hz1 _ _ _ (n + m) rfl rfl (by omega) (by rw [hz2]; omega) (by unfold maxLen; omega) (Nat.le_refl _) ?_; intro w1 hown1 hgr1)
    | (at_builtin; refine wpList_append_fits _ rfl (.tmp 17) (.tmp 18) 22 rfl w.heap.size 5 i0 1 Try.underlying22 hi hz1 w.heap.size 0 (n + m) [] rfl hown1 ⟨ga, 0, none⟩ n n (rowOf f n) rfl (by rw [rowOf_len]; omega) (rowOf_news (show Row 5 w1 ga n f from (hgr1.block ga ha (by simp)).trans hra)) (rowOf_one f n) (by omega) ?_; intro w2 hown2 hgr2; simp only [Nat.zero_add, List.nil_append] at hown2)
    | (at_builtin; refine wpList_append_fits _ rfl (.tmp 20) (.tmp 21) 22 rfl w.heap.size 5 i0 1 Try.underlying22 hi hz1 w.heap.size n (n + m) (rowOf f n) rfl hown2 ⟨gb, 0, none⟩ m m (rowOf g m) rfl (by rw [rowOf_len]; omega) (rowOf_news (show Row 5 w2 gb m g from (hgr2.block gb (Nat.lt_of_lt_of_le hb hgr1.size) hnb).trans ((hgr1.block gb hb (by simp)).trans hrb))) (rowOf_one g m) (by omega) ?_; intro w3 hown3 hgr3)
    | (at_builtin; refine wpList_append_own_none rfl (.tmp 23) (.tmp 24) 22 rfl w.heap.size 5 i0 1 Try.underlying22 hi _ (n + m) _ rfl hown3 rfl ?_))
  go_ret
  rw [rowOf_cat] at hown3
  refine ⟨rfl, row_of_owns hown3, ?_⟩
  exact (((Below.refl _ _).grown hgr1 (Nat.le_refl _) (fun k e => by cases e)).grown hgr2 hgr1.size (fun k e => by cases e; exact Nat.le_refl _)).grown hgr3 (Nat.le_trans hgr1.size hgr2.size) (fun k e => by cases e; exact Nat.le_refl _)

/-- The first field of a ZZLine. -/
theorem field_ok (ok : Bool) (gs ts : Nat → Bool) (vs : Nat → Value) (W : World) : (Instr.field 45 (.agg (zzC ok gs ts vs)) 0).run Try.prog W = .ok (.bool ok) W := by kernel_rfl

theorem walk7_long (a0 a1 : Option Addr) (n c m d : Nat) (w : World) (hn : n ≤ maxLen) (hm : m ≤ maxLen) (h : 524288 < n ∨ 524288 < m) :
    Calls Try.prog 7 #[.slice a0 n c, .slice a1 m d] w fun e w' => e = .returned (.bool true) ∧ Below w.heap.size w w' := by
  by_cases hb : 1048576 < n + m
  · go_enter Try.func7, Try.ntmps7
    go_wp2_with (go_at_call 28; refine (bytes28_no _ _ _ _ _ _ _ hn hm hb).mono ?_; rintro e w' ⟨rfl, rfl⟩)
    go_ret
    exact ⟨rfl, Below.refl _ _⟩
  · by_cases h1 : 524288 < n
    all_goals
      go_enter Try.func7, Try.ntmps7
      go_wp2_with (go_at_call 28; refine (bytes28_yes _ _ _ _ _ _ _ (by omega)).mono ?_; rintro e w' ⟨rfl, rfl⟩)
      go_ret
      exact ⟨rfl, Below.refl _ _⟩

theorem walk7_zero (a0 a1 : Option Addr) (c m d : Nat) (w : World) (hm : m ≤ 524288) :
    Calls Try.prog 7 #[.slice a0 0 c, .slice a1 m d] w fun e w' => e = .returned (.bool true) ∧ Below w.heap.size w w' := by
  go_enter Try.func7, Try.ntmps7
  go_wp2_with (go_at_call 28; refine (bytes28_yes _ _ _ _ _ _ _ (by omega)).mono ?_; rintro e w' ⟨rfl, rfl⟩)
  go_ret
  exact ⟨rfl, Below.refl _ _⟩

theorem walk7_early (b off n c m d : Nat) (a1 : Option Addr) (x : Int) (w : World) (hn : n ≤ 524288) (hm : m ≤ 524288) (h0 : 0 < n) (hc : w.cell? ⟨b, off, none⟩ = some (.int .u8 x)) (h : x ≠ 123 ∨ m = 0) :
    Calls Try.prog 7 #[.slice (some ⟨b, off, none⟩) n c, .slice a1 m d] w fun e w' => e = .returned (.bool true) ∧ Below w.heap.size w w' := by
  have hz : ((n : Int) == 0) = false := by simp; omega
  have hp : (0 : Int) < (n : Int) := by omega
  by_cases hx : x = 123
  · obtain rfl : m = 0 := by omega
    subst hx
    go_enter Try.func7, Try.ntmps7
    go_wp2_with (go_at_call 28; refine (bytes28_yes _ _ _ _ _ _ _ (by omega)).mono ?_; rintro e w' ⟨rfl, rfl⟩)
    go_ret
    exact ⟨rfl, Below.refl _ _⟩
  · have hxb : (x != 123) = true := by simpa using hx
    clear hx h
    go_enter Try.func7, Try.ntmps7
    go_wp2_with (go_at_call 28; refine (bytes28_yes _ _ _ _ _ _ _ (by omega)).mono ?_; rintro e w' ⟨rfl, rfl⟩)
    go_ret
    exact ⟨rfl, Below.refl _ _⟩

theorem walk7_main (b off n c b' off' m d : Nat) (f g : Nat → Int) (w : World) (hn : n ≤ 524288) (hm : m ≤ 524288) (h0 : 0 < n) (h1 : 0 < m) (hbw : b < w.heap.size) (hbw' : b' < w.heap.size)
    (hf : ∀ i, i < n → 0 ≤ f i ∧ f i ≤ 255) (hg : ∀ i, i < m → 0 ≤ g i ∧ g i ≤ 255)
    (hc : ∀ i, i < n → w.cell? ⟨b, off + i, none⟩ = some (.int .u8 (f i))) (hc' : ∀ i, i < m → w.cell? ⟨b', off' + i, none⟩ = some (.int .u8 (g i))) (hx : f 0 = 123) :
    Calls Try.prog 7 #[.slice (some ⟨b, off, none⟩) n c, .slice (some ⟨b', off', none⟩) m d] w fun e w' => e = .returned (.bool true) ∧ Below w.heap.size w w' := by
  have hz : ((n : Int) == 0) = false := by simp; omega
  have hz' : ((m : Int) == 0) = false := by simp; omega
  have hp : (0 : Int) < (n : Int) := by omega
  have hc0 : w.cell? ⟨b, off, none⟩ = some (.int .u8 123) := by have := hc 0 h0; rw [hx] at this; simpa using this
  have HC : Hid (∀ i, i < n → w.cell? ⟨b, off + i, none⟩ = some (.int .u8 (f i))) := hc
  have HC' : Hid (∀ i, i < m → w.cell? ⟨b', off' + i, none⟩ = some (.int .u8 (g i))) := hc'
  clear hc hc' hx
  have hlaw : (readP f n noV).1 = true → (readP (cat f g n) (n + m) noV).1 = false := readP_longer f (cat f g n) n (n + m) h0 (by omega) (fun i hi => if_pos hi) noV noV
  have HLW : Hid ((readP f n noV).1 = true → (readP (cat f g n) (n + m) noV).1 = false) := hlaw
  clear hlaw
  have hfld := field_ok
  go_enter Try.func7, Try.ntmps7
  go_wp2_with (go_at_call 28; refine (bytes28_yes _ _ _ _ _ _ _ (by omega)).mono ?_; rintro e w' ⟨rfl, rfl⟩)
  refine (clone_any b off n c f _ (by omega) hbw HC.out).mono ?_
  rintro e w1 ⟨rfl, hr1, hb1⟩
  have hs1 := hr1.lt
  go_wp2_with fail
  refine (clone_any b' off' m d g _ (by omega) (by omega) (fun i hi => (hb1.cell (p := ⟨b', off' + i, none⟩) hbw').trans (HC'.out i hi))).mono ?_
  rintro e w2 ⟨rfl, hr2, hb2⟩
  have hs2 := hr2.lt
  have hr12 := hr1.below hb2 hs1
  go_wp2_with fail
  refine (zzread_any w.heap.size 0 n n f _ h0 (by omega) (Nat.le_refl _) (by omega) hf hr12.cell0).mono ?_
  rintro e w3 ⟨v, rfl, ⟨vs, rfl, _⟩, hb3⟩
  have hr13 := hr12.below hb3 (by omega)
  have hr23 := hr2.below hb3 hs2
  have hbw3 : Below w.heap.size w w3 := (hb1.trans (hb2.mono (by omega))).trans (hb3.mono (by omega))
  have hs3 := hb3.size
  generalize (readP f n noV) = r1 at *
  go_wp2_with fail
  refine (concat_any w.heap.size w1.heap.size n m f g _ hn hm hr13 hr23).mono ?_
  rintro e w4 ⟨rfl, hr4, hb4⟩
  have hs4 := hr4.lt
  have hcat : ∀ i, i < n + m → 0 ≤ cat f g n i ∧ cat f g n i ≤ 255 := fun i hi => by
    unfold cat; by_cases h : i < n
    · rw [if_pos h]; exact hf i h
    · rw [if_neg h]; exact hg (i - n) (by omega)
  go_wp2_with fail
  refine (zzread_any w3.heap.size 0 (n + m) (n + m) (cat f g n) _ (by omega) (by omega) (Nat.le_refl _) hs4 hcat hr4.cell0).mono ?_
  rintro e w5 ⟨v, rfl, ⟨vs', rfl, _⟩, hb5⟩
  have hbw5 : Below w.heap.size w w5 := (hbw3.trans (hb4.mono (by omega))).trans (hb5.mono (by omega))
  generalize (readP (cat f g n) (n + m) noV) = r2 at *
  cases hr : r1.1 with
  | false =>
    go_wp2
    go_ret
    exact ⟨rfl, hbw5⟩
  | true =>
    have hr' := HLW.out hr
    go_wp2
    go_ret
    exact ⟨rfl, hbw5⟩

end Go.Proofs.Qxb6000782a
