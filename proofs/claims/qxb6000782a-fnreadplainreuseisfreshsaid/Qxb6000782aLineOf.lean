/-
  The walk of zzLineOf.
-/
import Derived.Test.Qxb6000782aRead
namespace Go.Proofs.Qxb6000782a
open Go.ChangeShapes Go.WideShapes Go.ChangeAt Go.RowKit
set_option linter.unusedVariables false

/-- values, the world behind it written out. -/
theorem values_exact (L : Nat) (w : World) :
    Calls Try.prog 34 #[.pointer (some ⟨L, 0, none⟩)] w fun e w' => e = .returned (.agg #[.string ⟨#[116, 105, 109, 101]⟩, .pointer (some ⟨L, 0, none⟩), .string ⟨#[98, 108, 111, 99, 107]⟩, .pointer (some ⟨L, 3, none⟩), .string ⟨#[97, 99, 99, 111, 117, 110, 116]⟩, .pointer (some ⟨L, 6, none⟩), .string ⟨#[111, 112]⟩, .pointer (some ⟨L, 9, none⟩), .string ⟨#[97, 109, 111, 117, 110, 116]⟩, .pointer (some ⟨L, 12, none⟩), .string ⟨#[108, 111, 99, 107, 117, 112]⟩, .pointer (some ⟨L, 15, none⟩)]) ∧
      w' = (w.alloc (.cells #[.string ⟨#[116, 105, 109, 101]⟩, .pointer (some ⟨L, 0, none⟩), .string ⟨#[98, 108, 111, 99, 107]⟩, .pointer (some ⟨L, 3, none⟩), .string ⟨#[97, 99, 99, 111, 117, 110, 116]⟩, .pointer (some ⟨L, 6, none⟩), .string ⟨#[111, 112]⟩, .pointer (some ⟨L, 9, none⟩), .string ⟨#[97, 109, 111, 117, 110, 116]⟩, .pointer (some ⟨L, 12, none⟩), .string ⟨#[108, 111, 99, 107, 117, 112]⟩, .pointer (some ⟨L, 15, none⟩)] 57)).drew := by
  go_enter Try.func34, Try.ntmps34
  go_wp2
  go_region
  go_wp2
  exact bodyPost_ret (v := .agg #[.string ⟨#[116, 105, 109, 101]⟩, .pointer (some ⟨L, 0, none⟩), .string ⟨#[98, 108, 111, 99, 107]⟩, .pointer (some ⟨L, 3, none⟩), .string ⟨#[97, 99, 99, 111, 117, 110, 116]⟩, .pointer (some ⟨L, 6, none⟩), .string ⟨#[111, 112]⟩, .pointer (some ⟨L, 9, none⟩), .string ⟨#[97, 109, 111, 117, 110, 116]⟩, .pointer (some ⟨L, 12, none⟩), .string ⟨#[108, 111, 99, 107, 117, 112]⟩, .pointer (some ⟨L, 15, none⟩)]) (by simp [results, Try.results34, go_sem]) rfl ⟨rfl, rfl⟩

/-- Block B holds the m cells F 0 .. F (m-1). -/
def Blk (w : World) (B ty m : Nat) (F : Nat → Value) : Prop := w.heap[B]? = some (.cells ((List.range m).map F).toArray ty (0, 0))
section
variable {w : World} {B ty m : Nat} {F : Nat → Value}
theorem Blk.lt (h : Blk w B ty m F) : B < w.heap.size := (Array.getElem?_eq_some_iff.1 h).1
theorem Blk.cell (h : Blk w B ty m F) (i : Nat) (hi : i < m) : w.cell? ⟨B, i, none⟩ = some (F i) := by
  rw [cell_of_row w B i _ ty (0, 0) h]
  simp [hi]
theorem Blk.frozen (h : Blk w B ty m F) (i : Nat) : w.frozen? ⟨B, i, none⟩ = false := frozen_of_row w B i _ ty h
theorem Blk.congr {F' : Nat → Value} (h : Blk w B ty m F) (hf : ∀ i, i < m → F i = F' i) : Blk w B ty m F' := by
  have e : (List.range m).map F = (List.range m).map F' := by
    apply List.map_congr_left; intro i hi; exact hf i (by simpa using hi)
  unfold Blk at h ⊢; rw [← e]; exact h
theorem Blk.block {w' : World} (h : Blk w B ty m F) (hb : w'.heap[B]? = w.heap[B]?) : Blk w' B ty m F := hb.trans h
theorem Blk.set (h : Blk w B ty m F) (i : Nat) (v : Value) : Blk (w.setCell ⟨B, i, none⟩ v) B ty m (fup F i v) := by
  have hh := heap_setCell_same w B i _ ty v h
  unfold Blk; rw [hh]
  congr 2
  apply Array.ext'
  apply List.ext_getElem?
  intro k
  simp only [List.setIfInBounds_toArray, List.getElem?_set]
  by_cases hk : k < m
  · by_cases e : i = k
    · subst e; simp [hk, fup]
    · rw [if_neg e]; simp [hk, fup, Ne.symm e]
  · by_cases e : i = k
    · subst e; simp [hk]
    · rw [if_neg e]; simp [hk]
end

/-- The nineteen cells of a ZZLine, the first k of each array filled. -/
def outF (ok : Bool) (gs ts : Nat → Bool) (vs : Nat → Value) (k i : Nat) : Value :=
  if i = 0 then .bool ok else if i < 7 then .bool (if i - 1 < k then gs (i - 1) else false) else if i < 13 then .bool (if i - 7 < k then ts (i - 7) else false) else if i - 13 < k then vs (i - 13) else .slice none 0 0
theorem outF_step (ok : Bool) (gs ts : Nat → Bool) (vs : Nat → Value) (k : Nat) (hk : k < 6) (i : Nat) (hi : i < 19) :
    fup (fup (fup (outF ok gs ts vs k) (1 + k) (.bool (gs k))) (7 + k) (.bool (ts k))) (13 + k) (vs k) i = outF ok gs ts vs (k + 1) i := by
  unfold fup
  by_cases e3 : i = 13 + k
  · rw [if_pos e3]; unfold outF
    rw [if_neg (by omega), if_neg (by omega), if_neg (by omega), if_pos (by omega), show i - 13 = k from by omega]
  rw [if_neg e3]
  by_cases e2 : i = 7 + k
  · rw [if_pos e2]; unfold outF
    rw [if_neg (by omega), if_neg (by omega), if_pos (by omega), if_pos (by omega), show i - 7 = k from by omega]
  rw [if_neg e2]
  by_cases e1 : i = 1 + k
  · rw [if_pos e1]; unfold outF
    rw [if_neg (by omega), if_pos (by omega), if_pos (by omega), show i - 1 = k from by omega]
  rw [if_neg e1]
  unfold outF
  by_cases h0 : i = 0
  · rw [if_pos h0, if_pos h0]
  rw [if_neg h0, if_neg h0]
  by_cases h7 : i < 7
  · rw [if_pos h7, if_pos h7]
    by_cases h : i - 1 < k
    · rw [if_pos h, if_pos (by omega)]
    · rw [if_neg h, if_neg (by omega)]
  rw [if_neg h7, if_neg h7]
  by_cases h13 : i < 13
  · rw [if_pos h13, if_pos h13]
    by_cases h : i - 7 < k
    · rw [if_pos h, if_pos (by omega)]
    · rw [if_neg h, if_neg (by omega)]
  rw [if_neg h13, if_neg h13]
  by_cases h : i - 13 < k
  · rw [if_pos h, if_pos (by omega)]
  · rw [if_neg h, if_neg (by omega)]

/-- What zzLineOf hands back. -/
def zzC (ok : Bool) (gs ts : Nat → Bool) (vs : Nat → Value) : Array Value := ((List.range 19).map (outF ok gs ts vs 6)).toArray

theorem Try.size45 : (Try.prog.info? 45).map (·.size) = some 19 := by kernel_rfl
theorem zzC_size (ok : Bool) (gs ts : Nat → Bool) (vs : Nat → Value) : (zzC ok gs ts vs).size = 19 := by simp [zzC]
theorem zzC_one (ok : Bool) (gs ts : Nat → Bool) (vs : Nat → Value) (hvs : ∀ j, j < 6 → ∃ a n c, vs j = .slice a n c) : (zzC ok gs ts vs).all (·.oneCell') = true := by
  rw [Array.all_eq_true_iff_forall_mem]
  intro v hv
  simp only [zzC, List.mem_toArray, List.mem_map, List.mem_range] at hv
  obtain ⟨i, hi, rfl⟩ := hv
  unfold outF
  by_cases h0 : i = 0
  · rw [if_pos h0]; rfl
  rw [if_neg h0]
  by_cases h7 : i < 7
  · rw [if_pos h7]; rfl
  rw [if_neg h7]
  by_cases h13 : i < 13
  · rw [if_pos h13]; rfl
  rw [if_neg h13]
  by_cases h : i - 13 < 6
  · rw [if_pos h]; obtain ⟨a, n, c, e⟩ := hvs (i - 13) h; rw [e]; rfl
  · rw [if_neg h]; rfl

theorem wp_four {P : Program} {c : Code} {Q : Exit → Act → World → Prop} {a : Act} (w : World) (o1 o2 o3 o4 : Obj)
    (h : ∀ w2, w2.heap[w.heap.size]? = some o1 → w2.heap[w.heap.size + 1]? = some o2 → w2.heap[w.heap.size + 1 + 1 + 1]? = some o4 → w2.heap.size = w.heap.size + 4 → Below w.heap.size w w2 → Code.wp P c Q a w2) :
    Code.wp P c Q a ((((w.alloc o1).alloc o2).alloc o3).alloc o4).drew := by
  refine h _ ?_ ?_ ?_ ?_ ?_
  · exact (Below.heap_alloc (((w.alloc o1).alloc o2).alloc o3) o4 w.heap.size (by simp; omega)).trans ((Below.heap_alloc ((w.alloc o1).alloc o2) o3 w.heap.size (by simp; omega)).trans ((Below.heap_alloc (w.alloc o1) o2 w.heap.size (by simp)).trans (heap_alloc_new w o1)))
  · have e : (w.alloc o1).heap.size = w.heap.size + 1 := by simp
    have h2 := heap_alloc_new (w.alloc o1) o2
    rw [e] at h2
    exact (Below.heap_alloc (((w.alloc o1).alloc o2).alloc o3) o4 (w.heap.size + 1) (by simp)).trans ((Below.heap_alloc ((w.alloc o1).alloc o2) o3 (w.heap.size + 1) (by simp)).trans h2)
  · have e : (((w.alloc o1).alloc o2).alloc o3).heap.size = w.heap.size + 1 + 1 + 1 := by simp
    have h2 := heap_alloc_new (((w.alloc o1).alloc o2).alloc o3) o4
    rw [e] at h2
    exact h2
  · simp
  · exact (((((Below.refl _ w).alloc (Nat.le_refl _) o1).alloc (by simp) o2).alloc (by simp; omega) o3).alloc (by simp; omega) o4).drew

/-- The array of names and pointers, read at place k. -/
theorem kv_cell (w : World) (A L k : Nat) (hk : k < 6) (h : w.heap[A]? = some (.cells #[.string ⟨#[116, 105, 109, 101]⟩, .pointer (some ⟨L, 0, none⟩), .string ⟨#[98, 108, 111, 99, 107]⟩, .pointer (some ⟨L, 3, none⟩), .string ⟨#[97, 99, 99, 111, 117, 110, 116]⟩, .pointer (some ⟨L, 6, none⟩), .string ⟨#[111, 112]⟩, .pointer (some ⟨L, 9, none⟩), .string ⟨#[97, 109, 111, 117, 110, 116]⟩, .pointer (some ⟨L, 12, none⟩), .string ⟨#[108, 111, 99, 107, 117, 112]⟩, .pointer (some ⟨L, 15, none⟩)] 57 (0, 0))) :
    w.cell? ⟨A, k * 2 + 1, none⟩ = some (.pointer (some ⟨L, 3 * k, none⟩)) := by
  rw [cell_of_row w A (k * 2 + 1) _ 57 (0, 0) h]
  rcases (show k = 0 ∨ k = 1 ∨ k = 2 ∨ k = 3 ∨ k = 4 ∨ k = 5 from by omega) with rfl | rfl | rfl | rfl | rfl | rfl
  all_goals rfl

set_option maxRecDepth 100000 in
set_option maxHeartbeats 1000000 in
theorem lineOf_any (L : Nat) (ok : Bool) (vs : Nat → Value) (gs ts : Nat → Bool) (w : World) (hl : LineB w L vs gs ts) (hvs : ∀ j, j < 6 → ∃ a n c, vs j = .slice a n c) :
    Calls Try.prog 41 #[.pointer (some ⟨L, 0, none⟩), .bool ok] w fun e w' => e = .returned (.agg (zzC ok gs ts vs)) ∧ Below w.heap.size w w' := by
  have hL := hl.lt
  go_enter Try.func41, Try.ntmps41
  go_wp2_with (go_at_call 34; refine (values_exact _ _).mono ?_; rintro e w1 ⟨rfl, rfl⟩)
  refine wp_four w _ _ _ _ ?_
  intro w2 hR hO hA hs2 hb2
  have hO2 : Blk w2 (w.heap.size + 1) 45 19 (outF ok gs ts vs 0) := hO
  have hl2 : LineB w2 L vs gs ts := hl.block (hb2.block L hL)
  clear hO
  go_loopw [7] (fun t wr => ∃ k : Nat, k ≤ 6 ∧ t = .int .i64 k ∧ Blk wr (w.heap.size + 1) 45 19 (outF ok gs ts vs k) ∧ w2.grownBy wr (some (w.heap.size + 1))) (fun t _ => 6 - (intOf t).toNat)
  case atStart => exact ⟨0, by omega, rfl, hO2, ⟨rfl, rfl, rfl, Nat.le_refl _, fun _ _ _ => rfl⟩⟩
  case round =>
    obtain ⟨k, hk, rfl, hB, hg⟩ := hrel
    have hnA : some (w.heap.size + 1 + 1 + 1) ≠ some (w.heap.size + 1) := by intro e; injection e with e; omega
    have hnL : some L ≠ some (w.heap.size + 1) := by intro e; injection e with e; omega
    have hnR : some w.heap.size ≠ some (w.heap.size + 1) := by simp
    have hAr := (hg.block (w.heap.size + 1 + 1 + 1) (by omega) hnA).trans hA
    have hlr : LineB wr L vs gs ts := hl2.block (hg.block L (by omega) hnL)
    have hRr := (hg.block w.heap.size (by omega) hnR).trans hR
    by_cases hlt : k < 6
    · have cA := kv_cell wr _ L k hlt hAr
      have cG := hlr.cellG k hlt
      have cT := hlr.cellT k hlt
      have cR := hlr.cellR k hlt
      obtain ⟨va, vn, vc, hv⟩ := hvs k hlt
      have HV : Hid (vs k = .slice va vn vc) := hv
      rw [hv] at cR
      have b1 := hB.cell (1 + k) (by omega)
      have b2 := hB.cell (7 + k) (by omega)
      have b3 := hB.cell (13 + k) (by omega)
      have f1 := hB.frozen (1 + k)
      have f2 := hB.frozen (7 + k)
      have f3 := hB.frozen (13 + k)
      clear hAr hR hA hRr hv
      have HB2 : Hid (Blk (((wr.setCell ⟨w.heap.size + 1, 1 + k, none⟩ (.bool (gs k))).setCell ⟨w.heap.size + 1, 7 + k, none⟩ (.bool (ts k))).setCell ⟨w.heap.size + 1, 13 + k, none⟩ (.slice va vn vc)) (w.heap.size + 1) 45 19 (outF ok gs ts vs (k + 1))) := by
        have h := ((hB.set (1 + k) (.bool (gs k))).set (7 + k) (.bool (ts k))).set (13 + k) (vs k)
        rw [HV.out] at h
        refine h.congr (fun i hi => ?_)
        rw [← HV.out]; exact outF_step ok gs ts vs k hlt i hi
      go_wp2
      go_roundw
      case rel => exact ⟨k + 1, by omega, by go_num, HB2.out, grownBy_trans (grownBy_trans (grownBy_trans hg (grownBy_set _ _ _ _)) (grownBy_set _ _ _ _)) (grownBy_set _ _ _ _)⟩
      case measure => simp [intOf]; omega
    · have hB6 : wr.heap[w.heap.size + 1]? = some (.cells (zzC ok gs ts vs) 45 (0, 0)) := by rw [show k = 6 from by omega] at hB; exact hB
      have hsz : (Try.prog.info? 45).map (·.size) = some (zzC ok gs ts vs).size := by rw [zzC_size]; exact Try.size45
      have hone := zzC_one ok gs ts vs hvs
      have hbr : Below w.heap.size w wr := hb2.trans ⟨hg.os, hg.tape, hg.output, hg.size, fun b hb => hg.block b (by omega) (by intro e; injection e with e; omega)⟩
      clear hAr hlr hA hR hB hO2 hl2
      go_wp2_with (first | (refine wpList_load_row rfl 45 _ rfl (w.heap.size + 1) rfl 45 (zzC ok gs ts vs) (0, 0) _ hB6 Try.underlying45 rfl hsz ?_) | (refine wpList_store_row rfl 45 _ _ rfl w.heap.size (zzC ok gs ts vs) rfl rfl 45 _ hRr hsz (zzC_size ok gs ts vs).symm hone ?_))
      refine bodyPost_ret (v := .agg (zzC ok gs ts vs)) (results_cell_row Try.results41 _ _ w.heap.size 45 (zzC ok gs ts vs) (0, 0) _ rfl (setRow_heap wr w.heap.size _ _ 45 (0, 0) hRr) Try.underlying45 rfl hsz) rfl ⟨rfl, ?_⟩
      exact below_setRow hbr (Nat.le_refl _) _

end Go.Proofs.Qxb6000782a
