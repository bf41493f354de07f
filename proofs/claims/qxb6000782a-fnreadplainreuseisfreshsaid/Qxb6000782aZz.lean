/-
  The walks of ZZReadPlain and ZZReadPlainAfter.
-/
import Derived.Test.Qxb6000782aLineOf
namespace Go.Proofs.Qxb6000782a
open Go.ChangeShapes Go.WideShapes Go.ChangeAt Go.RowKit
set_option linter.unusedVariables false

/-- A fresh line. -/
def noV : Nat → JV := fun _ => { giv := false, twi := false, raw := [] }

theorem line_fresh (W : World) (L : Nat) (h : W.heap[L]? = some (.cells #[.slice none 0 0, .bool false, .bool false, .slice none 0 0, .bool false, .bool false, .slice none 0 0, .bool false, .bool false, .slice none 0 0, .bool false, .bool false, .slice none 0 0, .bool false, .bool false, .slice none 0 0, .bool false, .bool false] 51 (0, 0))) : LineAt W L noV :=
  ⟨fun _ => .slice none 0 0, h, fun j hj => World.ownsRow_nil _ _ _ _, fun i j _ _ _ => .inl rfl⟩

theorem calls_two {P : Program} {g : FuncId} {args : Array Value} {Q : Ending → World → Prop} (w : World) (o1 o2 : Obj)
    (h : ∀ W, W.heap[w.heap.size]? = some o1 → W.heap[w.heap.size + 1]? = some o2 → W.heap.size = w.heap.size + 2 → Below w.heap.size w W → Calls P g args W Q) :
    Calls P g args ((w.alloc o1).alloc o2) Q := by
  refine h _ ?_ ?_ ?_ ?_
  · exact (Below.heap_alloc (w.alloc o1) o2 w.heap.size (by simp)).trans (heap_alloc_new w o1)
  · have e : (w.alloc o1).heap.size = w.heap.size + 1 := by simp
    have h2 := heap_alloc_new (w.alloc o1) o2
    rw [e] at h2; exact h2
  · simp
  · exact ((Below.refl _ w).alloc (Nat.le_refl _) o1).alloc (by simp) o2

/-- The block R stored as a whole: what is owned behind it stays owned. -/
theorem owns_setRow {w : World} {B R : Nat} {v : Value} {n : Nat} {xs : List Value} (h : w.ownsRow B 5 1 v n xs) (hR : R < B) (cs : Array Value) : (w.setRow R cs).ownsRow B 5 1 v n xs := by
  refine h.kept (row := some R) ⟨rfl, rfl, rfl, by simp [World.setRow], fun k _ hne => setRow_other w R k cs (fun e => hne (by rw [e]))⟩ ?_
  cases hv : v.ownBlock with
  | none => exact .inl rfl
  | some k => exact .inr (fun e => by have := (h.lt k hv).1; injection e with e; omega)

/-- What a line's read hands back: flags and raw texts, told in memory. -/
def Told (w : World) (v : Value) (r : Bool × (Nat → JV)) : Prop :=
  ∃ vs : Nat → Value, v = .agg (zzC r.1 (fun j => (r.2 j).giv) (fun j => (r.2 j).twi) vs) ∧ (∃ B, ∀ j, j < 6 → w.ownsRow B 5 1 (vs j) (r.2 j).raw.length ((r.2 j).raw.map (Value.int .u8)))

set_option maxRecDepth 100000 in
theorem zzread_aux (r : Bool × (Nat → JV)) (b off n c : Nat) (f : Nat → Int) (w : World) (HR : Hid (readP f n noV = r)) (h1 : 1 ≤ n) (hn : n ≤ 1048576) (hnc : n ≤ c) (hbw : b < w.heap.size) (hf : ∀ i, i < n → 0 ≤ f i ∧ f i ≤ 255)
    (hc : ∀ i, i < n → w.cell? ⟨b, off + i, none⟩ = some (.int .u8 (f i))) :
    Calls Try.prog 27 #[.slice (some ⟨b, off, none⟩) n c] w fun e w' => ∃ v, e = .returned v ∧ Told w' v r ∧ Below w.heap.size w w' := by
  go_enter Try.func27, Try.ntmps27
  go_wp2_with fail
  refine calls_two w _ _ ?_
  intro W hR hLb hsW hbW
  have hcW : ∀ i, i < n → W.cell? ⟨b, off + i, none⟩ = some (.int .u8 (f i)) := fun i hi => (hbW.cell (p := ⟨b, off + i, none⟩) hbw).trans (hc i hi)
  have hra := read_any (w.heap.size + 1) b off n c f noV W h1 hn hnc (by omega) hf hcW (line_fresh W _ hLb)
  rw [HR.out] at hra
  refine hra.mono ?_
  clear hra
  rintro e w1 ⟨rfl, ⟨vs, hB, hown, hdis⟩, hb1⟩
  have hR1 := (hb1.block w.heap.size (by omega)).trans hR
  have hsh : ∀ j, j < 6 → ∃ a n c, vs j = .slice a n c := fun j hj => owns_shape (hown j hj)
  have hlt1 : w.heap.size < w1.heap.size := by have := hb1.size; omega
  have hbw1 : Below w.heap.size w w1 := hbW.trans (hb1.mono (by omega))
  clear hR hLb hcW hc hf
  go_wp2_with fail
  refine (lineOf_any (w.heap.size + 1) r.1 vs _ _ w1 hB hsh).mono ?_
  rintro e w2 ⟨rfl, hb2⟩
  have hR2 := (hb2.block w.heap.size hlt1).trans hR1
  have hsz : (Try.prog.info? 45).map (·.size) = some (zzC r.1 (fun j => (r.2 j).giv) (fun j => (r.2 j).twi) vs).size := by rw [zzC_size]; exact Try.size45
  have hone := zzC_one r.1 (fun j => (r.2 j).giv) (fun j => (r.2 j).twi) vs hsh
  clear hR1
  go_wp2_with (refine wpList_store_row rfl 45 _ _ rfl w.heap.size (zzC r.1 (fun j => (r.2 j).giv) (fun j => (r.2 j).twi) vs) rfl rfl 45 _ hR2 hsz (zzC_size _ _ _ _).symm hone ?_)
  refine bodyPost_ret (v := .agg (zzC r.1 (fun j => (r.2 j).giv) (fun j => (r.2 j).twi) vs)) (results_cell_row Try.results27 _ _ w.heap.size 45 _ (0, 0) _ rfl (setRow_heap w2 w.heap.size _ _ 45 (0, 0) hR2) Try.underlying45 rfl hsz) rfl ⟨_, rfl, ⟨vs, rfl, w.heap.size + 1 + 1, fun j hj => ?_⟩, ?_⟩
  · refine owns_setRow ?_ (by omega) _
    exact (hown j hj).kept (grownBy_below (row := none) hb2) (by cases (vs j).ownBlock <;> simp)
  · exact below_setRow (hbw1.trans (hb2.mono (by omega))) (Nat.le_refl _) _

theorem zzread_any (b off n c : Nat) (f : Nat → Int) (w : World) (h1 : 1 ≤ n) (hn : n ≤ 1048576) (hnc : n ≤ c) (hbw : b < w.heap.size) (hf : ∀ i, i < n → 0 ≤ f i ∧ f i ≤ 255)
    (hc : ∀ i, i < n → w.cell? ⟨b, off + i, none⟩ = some (.int .u8 (f i))) :
    Calls Try.prog 27 #[.slice (some ⟨b, off, none⟩) n c] w fun e w' => ∃ v, e = .returned v ∧ Told w' v (readP f n noV) ∧ Below w.heap.size w w' :=
  zzread_aux (readP f n noV) b off n c f w rfl h1 hn hnc hbw hf hc

set_option maxRecDepth 100000 in
theorem zzafter_aux (r0 r : Bool × (Nat → JV)) (b off n c b' off' n' c' : Nat) (f g : Nat → Int) (w : World) (HR0 : Hid (readP g n' noV = r0)) (HR : Hid (readP f n r0.2 = r))
    (h1 : 1 ≤ n) (hn : n ≤ 1048576) (hnc : n ≤ c) (hbw : b < w.heap.size) (hf : ∀ i, i < n → 0 ≤ f i ∧ f i ≤ 255)
    (hc : ∀ i, i < n → w.cell? ⟨b, off + i, none⟩ = some (.int .u8 (f i)))
    (k1 : 1 ≤ n') (kn : n' ≤ 1048576) (knc : n' ≤ c') (kbw : b' < w.heap.size) (kf : ∀ i, i < n' → 0 ≤ g i ∧ g i ≤ 255)
    (kc : ∀ i, i < n' → w.cell? ⟨b', off' + i, none⟩ = some (.int .u8 (g i))) :
    Calls Try.prog 30 #[.slice (some ⟨b', off', none⟩) n' c', .slice (some ⟨b, off, none⟩) n c] w fun e w' => ∃ v, e = .returned v ∧ Told w' v r ∧ Below w.heap.size w w' := by
  go_enter Try.func30, Try.ntmps30
  go_wp2_with fail
  refine calls_two w _ _ ?_
  intro W hR hLb hsW hbW
  have kcW : ∀ i, i < n' → W.cell? ⟨b', off' + i, none⟩ = some (.int .u8 (g i)) := fun i hi => (hbW.cell (p := ⟨b', off' + i, none⟩) kbw).trans (kc i hi)
  have hra := read_any (w.heap.size + 1) b' off' n' c' g noV W k1 kn knc (by omega) kf kcW (line_fresh W _ hLb)
  rw [HR0.out] at hra
  refine hra.mono ?_
  clear hra
  rintro e w0 ⟨rfl, hl0, hb0⟩
  have hR0 := (hb0.block w.heap.size (by omega)).trans hR
  have hc0 : ∀ i, i < n → w0.cell? ⟨b, off + i, none⟩ = some (.int .u8 (f i)) := fun i hi => (hb0.cell (p := ⟨b, off + i, none⟩) (show b < w.heap.size + 1 by omega)).trans ((hbW.cell (p := ⟨b, off + i, none⟩) hbw).trans (hc i hi))
  have HC0 : Hid (∀ i, i < n → w0.cell? ⟨b, off + i, none⟩ = some (.int .u8 (f i))) := hc0
  clear hR hLb kcW kc kf hc hc0
  go_wp2_with fail
  have hra := read_any (w.heap.size + 1) b off n c f r0.2 w0 h1 hn hnc (by omega) hf HC0.out hl0
  rw [HR.out] at hra
  refine hra.mono ?_
  clear hra
  rintro e w1 ⟨rfl, ⟨vs, hB, hown, hdis⟩, hb1⟩
  have hR1 := (hb1.block w.heap.size (by omega)).trans hR0
  have hsh : ∀ j, j < 6 → ∃ a n c, vs j = .slice a n c := fun j hj => owns_shape (hown j hj)
  have hlt1 : w.heap.size < w1.heap.size := by have := hb1.size; have := hb0.size; omega
  have hbw1 : Below w.heap.size w w1 := (hbW.trans (hb0.mono (by omega))).trans (hb1.mono (by omega))
  clear hR0 HC0 hf
  go_wp2_with fail
  refine (lineOf_any (w.heap.size + 1) r.1 vs _ _ w1 hB hsh).mono ?_
  rintro e w2 ⟨rfl, hb2⟩
  have hR2 := (hb2.block w.heap.size hlt1).trans hR1
  have hsz : (Try.prog.info? 45).map (·.size) = some (zzC r.1 (fun j => (r.2 j).giv) (fun j => (r.2 j).twi) vs).size := by rw [zzC_size]; exact Try.size45
  have hone := zzC_one r.1 (fun j => (r.2 j).giv) (fun j => (r.2 j).twi) vs hsh
  clear hR1
  go_wp2_with (refine wpList_store_row rfl 45 _ _ rfl w.heap.size (zzC r.1 (fun j => (r.2 j).giv) (fun j => (r.2 j).twi) vs) rfl rfl 45 _ hR2 hsz (zzC_size _ _ _ _).symm hone ?_)
  refine bodyPost_ret (v := .agg (zzC r.1 (fun j => (r.2 j).giv) (fun j => (r.2 j).twi) vs)) (results_cell_row Try.results30 _ _ w.heap.size 45 _ (0, 0) _ rfl (setRow_heap w2 w.heap.size _ _ 45 (0, 0) hR2) Try.underlying45 rfl hsz) rfl ⟨_, rfl, ⟨vs, rfl, w.heap.size + 1 + 1, fun j hj => ?_⟩, ?_⟩
  · refine owns_setRow ?_ (by omega) _
    exact (hown j hj).kept (grownBy_below (row := none) hb2) (by cases (vs j).ownBlock <;> simp)
  · exact below_setRow (hbw1.trans (hb2.mono (by omega))) (Nat.le_refl _) _

end Go.Proofs.Qxb6000782a
