/- Plain facts on a row of cells: no walk here. -/
import Derived.Test.YbulkcceiRows
import Derived.WalkKit
namespace Go.Proofs.Ybulkccei
open Go.RowKit

/-- Block g is a row of n cells of element type t, none of them frozen; cell j holds f j. -/
def RowFn (w : World) (g : Nat) (t : TypeId) (n : Nat) (f : Nat → Value) : Prop :=
  ∃ cs : Array Value, w.heap[g]? = some (.cells cs t (0, 0)) ∧ cs.size = n ∧ ∀ j, j < n → cs[j]? = some (f j)

/-- f, turned at one place. -/
def upd (f : Nat → Value) (i : Nat) (v : Value) : Nat → Value := fun j => if j = i then v else f j

theorem upd_same (f : Nat → Value) (i : Nat) (v : Value) : upd f i v i = v := by simp [upd]
theorem upd_other (f : Nat → Value) (i j : Nat) (v : Value) (h : j ≠ i) : upd f i v j = f j := by simp [upd, h]

theorem RowFn.cell {w : World} {g n : Nat} {t : TypeId} {f : Nat → Value} (h : RowFn w g t n f) (j : Nat) (hj : j < n) : w.cell? ⟨g, j, none⟩ = some (f j) := by
  obtain ⟨cs, h1, h2, h3⟩ := h
  rw [cell_of_row w g j cs t _ h1]; exact h3 j hj

theorem RowFn.frozen {w : World} {g n : Nat} {t : TypeId} {f : Nat → Value} (h : RowFn w g t n f) (j : Nat) : w.frozen? ⟨g, j, none⟩ = false := by
  obtain ⟨cs, h1, h2, h3⟩ := h
  exact frozen_of_row w g j cs t h1

theorem RowFn.lt {w : World} {g n : Nat} {t : TypeId} {f : Nat → Value} (h : RowFn w g t n f) : g < w.heap.size := by
  obtain ⟨cs, h1, h2, h3⟩ := h
  exact lt_of_block h1

theorem RowFn.of_block {w w' : World} {g n : Nat} {t : TypeId} {f : Nat → Value} (h : RowFn w g t n f) (e : w'.heap[g]? = w.heap[g]?) : RowFn w' g t n f := by
  obtain ⟨cs, h1, h2, h3⟩ := h
  exact ⟨cs, by rw [e]; exact h1, h2, h3⟩

theorem RowFn.congr {w : World} {g n : Nat} {t : TypeId} {f f' : Nat → Value} (h : RowFn w g t n f) (e : ∀ j, j < n → f j = f' j) : RowFn w g t n f' := by
  obtain ⟨cs, h1, h2, h3⟩ := h
  exact ⟨cs, h1, h2, fun j hj => by rw [h3 j hj, e j hj]⟩

theorem RowFn.set {w : World} {g n : Nat} {t : TypeId} {f : Nat → Value} (h : RowFn w g t n f) (i : Nat) (v : Value) : RowFn (w.setCell ⟨g, i, none⟩ v) g t n (upd f i v) := by
  obtain ⟨cs, h1, h2, h3⟩ := h
  refine ⟨cs.setIfInBounds i v, heap_setCell_same w g i cs t v h1, by simpa using h2, fun j hj => ?_⟩
  by_cases e : j = i
  · subst e; simp [upd, h2, hj]
  · simp only [upd, e, if_false]; rw [← h3 j hj]; simp [show ¬ i = j from fun x => e x.symm]

theorem RowFn.other {w : World} {g n : Nat} {t : TypeId} {f : Nat → Value} (h : RowFn w g t n f) (a : Addr) (v : Value) (ha : g ≠ a.block) : RowFn (w.setCell a v) g t n f :=
  h.of_block (heap_setCell_other w a g v ha)

theorem RowFn.alloc {w : World} {g n : Nat} {t : TypeId} {f : Nat → Value} (h : RowFn w g t n f) (o : Obj) : RowFn (w.alloc o) g t n f :=
  h.of_block (Below.heap_alloc w o g h.lt)

theorem RowFn.drew {w : World} {g n : Nat} {t : TypeId} {f : Nat → Value} (h : RowFn w g t n f) : RowFn w.drew g t n f := h

theorem RowFn.new (w : World) (cs : Array Value) (t : TypeId) (g : Nat) (hg : g = w.heap.size) (n : Nat) (hn : cs.size = n) : RowFn (w.alloc (.cells cs t)) g t n (fun j => cs.getD j undef) := by
  subst hg
  refine ⟨cs, heap_alloc_new w _, hn, fun j hj => ?_⟩
  simp [show j < cs.size by omega]

/-! ### A run of cells stored into a row -/
theorem RowFn.setCells {g n : Nat} {t : TypeId} : ∀ (vs : List Value) (o : Nat) (w : World) (f : Nat → Value), RowFn w g t n f →
    ∃ f', RowFn (w.setCells g o vs) g t n f' ∧ (∀ j, j < vs.length → f' (o + j) = vs.getD j undef) ∧ ∀ j, (j < o ∨ o + vs.length ≤ j) → f' j = f j
  | [], _, _, f, h => ⟨f, h, fun j hj => absurd hj (Nat.not_lt_zero _), fun _ _ => rfl⟩
  | v :: r, o, w, f, h => by
    obtain ⟨f', h1, h2, h3⟩ := RowFn.setCells r (o + 1) _ _ (h.set o v)
    refine ⟨f', h1, fun j hj => ?_, fun j hj => ?_⟩
    · cases j with
      | zero => rw [h3 _ (by omega)]; simp [upd]
      | succ j => rw [show o + (j + 1) = o + 1 + j by omega, h2 j (by simpa using hj)]; simp
    · rw [h3 j (by simp at hj; omega), upd_other _ _ _ _ (by simp at hj; omega)]

theorem below_setCells {B : Nat} {a : World} (g : Nat) (hg : B ≤ g) : ∀ (vs : List Value) (o : Nat) (w : World), Below B a w → Below B a (w.setCells g o vs)
  | [], _, _, h => h
  | v :: r, o, w, h => below_setCells g hg r (o + 1) _ (h.setCell (by exact hg) v)

theorem size_setCells (g : Nat) : ∀ (vs : List Value) (o : Nat) (w : World), (w.setCells g o vs).heap.size = w.heap.size
  | [], _, _ => rfl
  | v :: r, o, w => by rw [World.setCells, size_setCells g r, World.size_setCell]

/-- The first m cells. -/
def newsOf (f : Nat → Value) (m : Nat) : List Value := (List.range m).map f
theorem newsOf_length (f : Nat → Value) (m : Nat) : (newsOf f m).length = m := by simp [newsOf]
theorem newsOf_get {f : Nat → Value} {m j : Nat} {u : Value} (h : (newsOf f m)[j]? = some u) : j < m ∧ u = f j := by
  have hj : j < m := by
    rcases Nat.lt_or_ge j m with h' | h'
    · exact h'
    · rw [List.getElem?_eq_none (by rw [newsOf_length]; exact h')] at h; cases h
  refine ⟨hj, ?_⟩
  simp [newsOf, hj] at h
  exact h.symm

end Go.Proofs.Ybulkccei
