/-
  Bytes in memory that the call itself made: a row 'Row w g n f' (block g holds the n bytes f 0, f 1, ..), and the laws of make, copy and store for it. Nothing here names this seat's program.
-/
import Derived.WalkKit
import Derived.ProofKit
import Derived.Below
import Derived.Laws.CopyOwn
import Derived.WalkLawsBesides
import Derived.WalkSpells
namespace Go.Proofs.Qxb6001347a
open Go.ChangeShapes Go.WideShapes Go.ChangeAt Go.RowKit

theorem ret_int {k : IntKind} {a b : Int} (h : a = b) : Ending.returned (.int k a) = .returned (.int k b) := by rw [h]
theorem ret_bool {a b : Bool} (h : a = b) : Ending.returned (.bool a) = .returned (.bool b) := by rw [h]

def rowOf (f : Nat → Int) (n : Nat) : List Value := (List.range n).map (fun i => Value.int .u8 (f i))
theorem rowOf_len (f : Nat → Int) (n : Nat) : (rowOf f n).length = n := by simp [rowOf]
theorem rowOf_at (f : Nat → Int) (n j : Nat) (h : j < n) : (rowOf f n)[j]? = some (.int .u8 (f j)) := by simp [rowOf, h]
theorem rowOf_past (f : Nat → Int) (n j : Nat) (h : n ≤ j) : (rowOf f n)[j]? = none := by
  rw [List.getElem?_eq_none_iff, rowOf_len]; exact h
theorem rowOf_get (f : Nat → Int) (n j : Nat) (v : Value) (h : (rowOf f n)[j]? = some v) : j < n ∧ v = .int .u8 (f j) := by
  by_cases hj : j < n
  · rw [rowOf_at f n j hj] at h; cases h; exact ⟨hj, rfl⟩
  · rw [rowOf_past f n j (by omega)] at h; cases h
theorem rowOf_one (f : Nat → Int) (n : Nat) : ∀ v ∈ rowOf f n, v.oneCell' = true := by
  intro v hv; simp only [rowOf, List.mem_map] at hv; obtain ⟨i, _, rfl⟩ := hv; rfl
theorem rowOf_congr {f g : Nat → Int} {n : Nat} (h : ∀ i, i < n → f i = g i) : rowOf f n = rowOf g n := by
  unfold rowOf; apply List.map_congr_left; intro i hi; rw [h i (by simpa using hi)]

/-- Block g is a row of n bytes, f 0 .. f (n-1), not frozen. -/
def Row (e : TypeId) (w : World) (g n : Nat) (f : Nat → Int) : Prop := w.heap[g]? = some (.cells (rowOf f n).toArray e (0, 0))

theorem Row.congr {e : TypeId} {w : World} {g n : Nat} {f f' : Nat → Int} (h : Row e w g n f) (hf : ∀ i, i < n → f i = f' i) : Row e w g n f' := by
  unfold Row at h ⊢; rw [← rowOf_congr hf]; exact h
theorem Row.cell {e : TypeId} {w : World} {g n : Nat} {f : Nat → Int} (h : Row e w g n f) : ∀ i, i < n → w.cell? ⟨g, i, none⟩ = some (.int .u8 (f i)) := by
  intro i hi
  rw [cell_of_row w g i _ e (0, 0) h]
  simp [rowOf, hi]
theorem Row.cell0 {e : TypeId} {w : World} {g n : Nat} {f : Nat → Int} (h : Row e w g n f) : ∀ i, i < n → w.cell? ⟨g, 0 + i, none⟩ = some (.int .u8 (f i)) := by
  intro i hi; rw [Nat.zero_add]; exact h.cell i hi
theorem Row.frozen {e : TypeId} {w : World} {g n : Nat} {f : Nat → Int} (h : Row e w g n f) (i : Nat) : w.frozen? ⟨g, i, none⟩ = false :=
  frozen_of_row w g i _ e h
theorem Row.lt {e : TypeId} {w : World} {g n : Nat} {f : Nat → Int} (h : Row e w g n f) : g < w.heap.size := (Array.getElem?_eq_some_iff.1 h).1
theorem Row.below {e : TypeId} {w w' : World} {g n B : Nat} {f : Nat → Int} (h : Row e w g n f) (hb : Below B w w') (hg : g < B) : Row e w' g n f := (hb.block g hg).trans h
theorem Row.alloc {e : TypeId} {w : World} {g n : Nat} {f : Nat → Int} (h : Row e w g n f) (o : Obj) : Row e (w.alloc o) g n f := (Below.heap_alloc w o g h.lt).trans h
theorem Row.drew {e : TypeId} {w : World} {g n : Nat} {f : Nat → Int} (h : Row e w g n f) : Row e w.drew g n f := h
theorem Row.other {e : TypeId} {w : World} {g n : Nat} {f : Nat → Int} (h : Row e w g n f) (p : Addr) (hp : g ≠ p.block) (u : Value) : Row e (w.setCell p u) g n f := (Below.heap_setCell w p u g hp).trans h
/-- One byte stored. -/
def upd (f : Nat → Int) (k : Nat) (x : Int) : Nat → Int := fun i => if i = k then x else f i
theorem Row.set {e : TypeId} {w : World} {g n : Nat} {f : Nat → Int} (h : Row e w g n f) (k : Nat) (x : Int) : Row e (w.setCell ⟨g, k, none⟩ (.int .u8 x)) g n (upd f k x) := by
  have h1 := heap_setCell_same w g k _ e (.int .u8 x) h
  unfold Row; rw [h1]
  congr 2
  apply Array.ext'
  apply List.ext_getElem?
  intro j
  simp only [List.setIfInBounds_toArray, List.getElem?_set]
  by_cases hj : j < n
  · rw [rowOf_at _ _ _ hj, rowOf_at _ _ _ hj, rowOf_len]
    by_cases e : k = j
    · subst e; simp [upd, hj]
    · rw [if_neg e]; simp [upd, Ne.symm e]
  · rw [rowOf_past _ _ _ (by omega), rowOf_past _ _ _ (by omega), rowOf_len]
    by_cases e : k = j
    · subst e; simp [hj]
    · rw [if_neg e]

theorem made_rowOf (n : Nat) : madeCells (Value.cells (.int .u8 0)) (n * 1) = (rowOf (fun _ => 0) n).toArray := by
  apply Array.ext'
  have e : Value.cells (.int .u8 0) = #[Value.int .u8 0] := rfl
  rw [e, toList_madeCells_one, Nat.mul_one]
  apply List.ext_getElem?
  intro j
  by_cases hj : j < n
  · rw [List.getElem?_replicate_of_lt hj]; simp [rowOf, hj]
  · simp [rowOf, hj]

/-- 'make([]byte, n)' -/
theorem wpList_make_row {P : Program} (w : World) {ops : Array Oper} {rest : List Oper} {o : Oper} {a : Act} {Q : Exit → Act → World → Prop}
    (hg : o.guard = none) (l c : Operand) (t : TypeId) (hop : o.op = Op.makeSlice t l c) (e : TypeId) (h1 : P.underlying t = some (.slice e))
    (hinfo : (P.info? e).map (fun i => (i.zero, i.size, i.bytes)) = some (some (.int .u8 0), 1, 1))
    (kl kc : IntKind) (L C : Int) (n : Nat) (hl : a.eval l = .int kl L) (hc : a.eval c = .int kc C) (hL : L = (n : Int)) (hC : C = (n : Int)) (b2 : n ≤ 281474976710656)
    (hK : ∀ w', Row e w' w.heap.size n (fun _ => 0) → w'.heap.size = w.heap.size + 1 → Below w.heap.size w w' → wpList P ops Q rest (a.put o.dst (.slice (some ⟨w.heap.size, 0, none⟩) n n)) w') :
    wpList P ops Q (o :: rest) a w := by
  refine wpList_plain hg fun K hK' => ?_
  obtain ⟨i, hi, hz0, hz1, hz2⟩ := info_parts hinfo
  subst hL
  subst hC
  have hrun := run_make (P := P) w t e i _ h1 hi hz0 kl kc n n (by omega) (Int.le_refl _) (by rw [hz2]; omega) (by omega)
  simp only [Int.toNat_natCast] at hrun
  unfold Oper.wp
  simp [execOp, hop, hl, hc, hrun, Result.andThen]
  refine hK' _ _ (hK _ ?_ (by simp) ((Below.refl _ _).alloc (Nat.le_refl _) _))
  unfold Row
  rw [hz1, made_rowOf]
  exact heap_alloc_new w _

/-- 'copy(dst, src)': dst a row of the call's own from its head, src no more bytes than dst. As a run equation: laid ahead of the walk. -/
theorem run_copy_bytes {P : Program} (w : World) (dT sT ty e : TypeId) (hu : P.underlying dT = some (.slice e)) (hsz : (P.info? e).map (·.size) = some 1)
    (g n m dCap sCap : Nat) (sp : Option Addr) (b off : Nat) (f h : Nat → Int) (hsp : 0 < m → sp = some ⟨b, off, none⟩) (hmn : m ≤ n)
    (hrow : Row e w g n h) (hsrc : ∀ i, i < m → w.cell? ⟨b, off + i, none⟩ = some (.int .u8 (f i))) :
    ∃ w', (Builtin.copy_ #[dT, sT] ty #[.slice (some ⟨g, 0, none⟩) n dCap, .slice sp m sCap]).run P w = .ok (.int .i64 m) w' ∧
      Row e w' g n (fun i => if i < m then f i else h i) ∧ w'.heap.size = w.heap.size ∧ Below g w w' ∧ (∀ k, k ≠ g → w'.heap[k]? = w.heap[k]?) := by
  by_cases h0 : m = 0
  · subst h0
    have hrun := run_copy_none (P := P) w dT sT ty e (some ⟨g, 0, none⟩) sp n dCap 0 sCap hu hsz (by simp)
    exact ⟨w, hrun, hrow.congr (by simp), rfl, Below.refl _ _, fun _ _ => rfl⟩
  · obtain rfl := hsp (by omega)
    have hmin : Nat.min m n = m := Nat.min_eq_left hmn
    have hrun := run_copy_row (P := P) w dT sT ty e g 0 n dCap ⟨b, off, none⟩ m sCap _ e (rowOf f m) hu hsz hrow (by rw [rowOf_len, hmin])
      (fun j v hv => by obtain ⟨hj, rfl⟩ := rowOf_get f m j v hv; rw [Addr.add_lit]; exact hsrc j hj) (by simp only [rowOf_len, List.size_toArray]; omega) (rowOf_one f m)
    rw [rowOf_len] at hrun
    refine ⟨_, hrun, ?_, by simp [World.setRow], below_setRow (Below.refl _ _) (Nat.le_refl _) _, fun k hk => setRow_other w g k _ hk⟩
    unfold Row
    rw [setRow_heap w g _ _ e (0, 0) hrow]
    congr 2
    apply congrArg
    apply List.ext_getElem?
    intro j
    simp only [List.take_zero, List.nil_append, Nat.zero_add, List.getElem?_append, rowOf_len, List.getElem?_drop]
    by_cases hj : j < m
    · rw [if_pos hj, rowOf_at _ _ _ hj, rowOf_at _ _ _ (by omega), if_pos hj]
    · rw [if_neg hj, show m + (j - m) = j from by omega]
      by_cases hn : j < n
      · rw [rowOf_at _ _ _ hn, rowOf_at _ _ _ hn, if_neg hj]
      · rw [rowOf_past _ _ _ (by omega), rowOf_past _ _ _ (by omega)]

end Go.Proofs.Qxb6001347a
