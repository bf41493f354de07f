/-
  The line in memory: block L holds six values of three cells each: the raw text's slice, given, twice. The walk of reset.
-/
import Derived.Test.Qxb6000782aValueW
namespace Go.Proofs.Qxb6000782a
open Go.ChangeShapes Go.WideShapes Go.ChangeAt Go.RowKit
set_option linter.unusedVariables false

def lineAt (vs : Nat → Value) (gs ts : Nat → Bool) (i : Nat) : Value := if i % 3 = 0 then vs (i / 3) else if i % 3 = 1 then .bool (gs (i / 3)) else .bool (ts (i / 3))
def lineCells (vs : Nat → Value) (gs ts : Nat → Bool) : List Value := (List.range 18).map (lineAt vs gs ts)
def LineB (w : World) (L : Nat) (vs : Nat → Value) (gs ts : Nat → Bool) : Prop := w.heap[L]? = some (.cells (lineCells vs gs ts).toArray 51 (0, 0))

/-- A function turned at one place. -/
def fup {α : Type} (f : Nat → α) (j : Nat) (x : α) : Nat → α := fun i => if i = j then x else f i

section
variable {w : World} {L : Nat} {vs : Nat → Value} {gs ts : Nat → Bool}

theorem LineB.lt (h : LineB w L vs gs ts) : L < w.heap.size := (Array.getElem?_eq_some_iff.1 h).1
theorem LineB.cell (h : LineB w L vs gs ts) (i : Nat) (hi : i < 18) : w.cell? ⟨L, i, none⟩ = some (lineAt vs gs ts i) := by
  rw [cell_of_row w L i _ 51 (0, 0) h]
  simp [lineCells, hi]
theorem LineB.cellR (h : LineB w L vs gs ts) (j : Nat) (hj : j < 6) : w.cell? ⟨L, 3 * j, none⟩ = some (vs j) := by
  rw [h.cell (3 * j) (by omega)]
  unfold lineAt
  rw [if_pos (by omega), show 3 * j / 3 = j from by omega]
theorem LineB.cellG (h : LineB w L vs gs ts) (j : Nat) (hj : j < 6) : w.cell? ⟨L, 3 * j + 1, none⟩ = some (.bool (gs j)) := by
  rw [h.cell (3 * j + 1) (by omega)]
  unfold lineAt
  rw [if_neg (by omega), if_pos (by omega), show (3 * j + 1) / 3 = j from by omega]
theorem LineB.cellT (h : LineB w L vs gs ts) (j : Nat) (hj : j < 6) : w.cell? ⟨L, 3 * j + 2, none⟩ = some (.bool (ts j)) := by
  rw [h.cell (3 * j + 2) (by omega)]
  unfold lineAt
  rw [if_neg (by omega), if_neg (by omega), show (3 * j + 2) / 3 = j from by omega]
theorem LineB.frozen (h : LineB w L vs gs ts) (i : Nat) : w.frozen? ⟨L, i, none⟩ = false := frozen_of_row w L i _ 51 h
theorem LineB.congr {vs' : Nat → Value} {gs' ts' : Nat → Bool} (h : LineB w L vs gs ts) (hv : ∀ j, j < 6 → vs j = vs' j) (hg : ∀ j, j < 6 → gs j = gs' j) (ht : ∀ j, j < 6 → ts j = ts' j) : LineB w L vs' gs' ts' := by
  have e : lineCells vs gs ts = lineCells vs' gs' ts' := by
    unfold lineCells
    apply List.map_congr_left
    intro i hi
    have hi' : i < 18 := by simpa using hi
    unfold lineAt
    rw [hv (i / 3) (by omega), hg (i / 3) (by omega), ht (i / 3) (by omega)]
  unfold LineB at h ⊢; rw [← e]; exact h
theorem LineB.alloc (h : LineB w L vs gs ts) (o : Obj) : LineB (w.alloc o) L vs gs ts := (Below.heap_alloc w o L h.lt).trans h
theorem LineB.drew (h : LineB w L vs gs ts) : LineB w.drew L vs gs ts := h
theorem LineB.block {w' : World} (h : LineB w L vs gs ts) (hb : w'.heap[L]? = w.heap[L]?) : LineB w' L vs gs ts := hb.trans h

theorem LineB.setAt {vs' : Nat → Value} {gs' ts' : Nat → Bool} (h : LineB w L vs gs ts) (i : Nat) (v : Value) (hi : i < 18) (h1 : lineAt vs' gs' ts' i = v) (h2 : ∀ k, k < 18 → k ≠ i → lineAt vs' gs' ts' k = lineAt vs gs ts k) :
    LineB (w.setCell ⟨L, i, none⟩ v) L vs' gs' ts' := by
  have hh := heap_setCell_same w L i _ 51 v h
  unfold LineB; rw [hh]
  congr 2
  apply Array.ext'
  apply List.ext_getElem?
  intro k
  simp only [List.setIfInBounds_toArray, List.getElem?_set, lineCells]
  by_cases hk : k < 18
  · by_cases e : i = k
    · subst e; simp [hi, h1]
    · rw [if_neg e]; simp [hk, h2 k hk (Ne.symm e)]
  · have : ¬ i = k := by omega
    rw [if_neg this]; simp [hk]
theorem LineB.setR (h : LineB w L vs gs ts) (j : Nat) (hj : j < 6) (v : Value) : LineB (w.setCell ⟨L, 3 * j, none⟩ v) L (fup vs j v) gs ts := by
  refine h.setAt (3 * j) v (by omega) ?_ ?_
  · unfold lineAt; rw [if_pos (by omega), show 3 * j / 3 = j from by omega]; simp [fup]
  · intro k hk hne
    unfold lineAt
    by_cases e : k % 3 = 0
    · rw [if_pos e, if_pos e]; unfold fup; rw [if_neg (by omega)]
    · rw [if_neg e, if_neg e]
theorem LineB.setG (h : LineB w L vs gs ts) (j : Nat) (hj : j < 6) (x : Bool) : LineB (w.setCell ⟨L, 3 * j + 1, none⟩ (.bool x)) L vs (fup gs j x) ts := by
  refine h.setAt (3 * j + 1) (.bool x) (by omega) ?_ ?_
  · unfold lineAt; rw [if_neg (by omega), if_pos (by omega), show (3 * j + 1) / 3 = j from by omega]; simp [fup]
  · intro k hk hne
    unfold lineAt
    by_cases e : k % 3 = 1
    · rw [if_neg (by omega), if_pos e, if_neg (by omega), if_pos e]; unfold fup; rw [if_neg (by omega)]
    · by_cases e0 : k % 3 = 0
      · rw [if_pos e0, if_pos e0]
      · rw [if_neg e0, if_neg e, if_neg e0, if_neg e]
theorem LineB.setT (h : LineB w L vs gs ts) (j : Nat) (hj : j < 6) (x : Bool) : LineB (w.setCell ⟨L, 3 * j + 2, none⟩ (.bool x)) L vs gs (fup ts j x) := by
  refine h.setAt (3 * j + 2) (.bool x) (by omega) ?_ ?_
  · unfold lineAt; rw [if_neg (by omega), if_neg (by omega), show (3 * j + 2) / 3 = j from by omega]; simp [fup]
  · intro k hk hne
    unfold lineAt
    by_cases e0 : k % 3 = 0
    · rw [if_pos e0, if_pos e0]
    · by_cases e : k % 3 = 1
      · rw [if_neg e0, if_pos e, if_neg e0, if_pos e]
      · rw [if_neg e0, if_neg e, if_neg e0, if_neg e]; unfold fup; rw [if_neg (by omega)]
end

theorem grownBy_trans {a b c : World} {row : Option Nat} (h : a.grownBy b row) (k : b.grownBy c row) : a.grownBy c row :=
  ⟨k.os.trans h.os, k.tape.trans h.tape, k.output.trans h.output, Nat.le_trans h.size k.size, fun i hi hne => (k.block i (Nat.lt_of_lt_of_le hi h.size) hne).trans (h.block i hi hne)⟩
theorem grownBy_set (w : World) (L i : Nat) (v : Value) : w.grownBy (w.setCell ⟨L, i, none⟩ v) (some L) :=
  ⟨rfl, rfl, rfl, by simp [World.setCell], fun k _ hne => Below.heap_setCell w ⟨L, i, none⟩ v k (fun e => hne (by simp [e]))⟩
theorem grownBy_drew (w : World) (row : Option Nat) : w.grownBy w.drew row := ⟨rfl, rfl, rfl, Nat.le_refl _, fun _ _ _ => rfl⟩
theorem grownBy_below {w w' : World} {row : Option Nat} (h : Below w.heap.size w w') : w.grownBy w' row := ⟨h.os, h.tape, h.output, h.size, fun k hk _ => h.block k hk⟩

/-- One round of reset. -/
theorem reset_round (w wr : World) (L k : Nat) (vs : Nat → Value) (gs ts : Nat → Bool) (o : Obj) (hk : k < 6) (hl : LineB wr L vs (fun j => if j < k then false else gs j) (fun j => if j < k then false else ts j)) (hg : w.grownBy wr (some L)) :
    LineB (((wr.setCell ⟨L, 3 * k + 1, none⟩ (.bool false)).setCell ⟨L, 3 * k + 2, none⟩ (.bool false)).alloc o).drew L vs (fun j => if j < k + 1 then false else gs j) (fun j => if j < k + 1 then false else ts j) ∧ w.grownBy (((wr.setCell ⟨L, 3 * k + 1, none⟩ (.bool false)).setCell ⟨L, 3 * k + 2, none⟩ (.bool false)).alloc o).drew (some L) := by
  have hco : ∀ (f : Nat → Bool) j, fup (fun j => if j < k then false else f j) k false j = if j < k + 1 then false else f j := by
    intro f j
    show (if j = k then false else if j < k then false else f j) = _
    by_cases e : j = k
    · subst e; rw [if_pos rfl, if_pos (by omega)]
    · rw [if_neg e]
      by_cases h : j < k
      · rw [if_pos h, if_pos (by omega)]
      · rw [if_neg h, if_neg (by omega)]
  refine ⟨?_, ?_⟩
  · exact ((((hl.setG k hk false).setT k hk false).congr (fun _ _ => rfl) (fun j _ => hco gs j) (fun j _ => hco ts j)).alloc o).drew
  · exact grownBy_trans (grownBy_trans (grownBy_trans (grownBy_trans hg (grownBy_set _ _ _ _)) (grownBy_set _ _ _ _)) (World.grownBy_alloc _ o _)) (grownBy_drew _ _)

/-- reset. -/
theorem reset_any (L : Nat) (vs : Nat → Value) (gs ts : Nat → Bool) (w : World) (hl : LineB w L vs gs ts) :
    Calls Try.prog 45 #[.pointer (some ⟨L, 0, none⟩)] w fun e w' => e = .returned (.tuple #[]) ∧ LineB w' L vs (fun _ => false) (fun _ => false) ∧ w.grownBy w' (some L) := by
  go_enter Try.func45, Try.ntmps45
  go_wp2_with (go_at_call 34; refine (values_any _ _).mono ?_; rintro e w1 ⟨rfl, hs1, hb1⟩; clear hs1)
  go_loopw [6] (fun t wr => ∃ k : Nat, k ≤ 6 ∧ t = .int .i64 k ∧ LineB wr L vs (fun j => if j < k then false else gs j) (fun j => if j < k then false else ts j) ∧ w.grownBy wr (some L)) (fun t _ => 6 - (intOf t).toNat)
  case atStart => exact ⟨0, by omega, rfl, (hl.block (hb1.block L hl.lt)).congr (fun _ _ => rfl) (fun _ _ => by simp) (fun _ _ => by simp), grownBy_below hb1⟩
  case round =>
    obtain ⟨k, hk, rfl, hlk, hgr⟩ := hrel
    by_cases hlt : k < 6
    · have hix := index_kv L k hlt
      have hLw := hlk.lt
      have cg := hlk.cellG k hlt
      have ct := hlk.cellT k hlt
      have fg := hlk.frozen (3 * k + 1)
      have ft := hlk.frozen (3 * k + 2)
      have hro := reset_round w wr L k vs gs ts (.cells #[.string (nm k), .pointer (some ⟨L, 3 * k, none⟩)] 56) hlt hlk hgr
      go_wp2
      go_region
      all_goals (try go_wp2)
      all_goals
        go_roundw
        case rel => exact ⟨k + 1, by omega, by go_num, hro⟩
        case measure => simp [intOf]; omega
    · go_wp2
      go_end0
      exact ⟨rfl, hlk.congr (fun _ _ => rfl) (fun j hj => if_pos (by omega)) (fun j hj => if_pos (by omega)), hgr⟩

end Go.Proofs.Qxb6000782a
