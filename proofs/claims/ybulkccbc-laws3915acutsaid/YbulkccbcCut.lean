import Derived.Test.YbulkccbcKit
import Derived.WalkSpells
import Derived.WalkLawsBesides
import Derived.Deep.RegionLaw
namespace Go.Proofs.Ybulkccbc
open Go.RowKit

/-! ### A run of cells stored into a row -/
theorem RowFn.setCells {g n : Nat} {t : TypeId} : ∀ (vs : List Value) (o : Nat) (w : World) (f : Nat → Value), RowFn w g t n f →
    ∃ f', RowFn (w.setCells g o vs) g t n f' ∧ (∀ j, j < vs.length → f' (o + j) = vs.getD j undef) ∧ ∀ j, (j < o ∨ o + vs.length ≤ j) → f' j = f j
  | [], _, _, f, h => ⟨f, h, fun j hj => absurd hj (Nat.not_lt_zero _), fun _ _ => rfl⟩
  | v :: r, o, w, f, h => by
    obtain ⟨f', h1, h2, h3⟩ := RowFn.setCells r (o + 1) _ _ (h.set o v)
    refine ⟨f', h1, fun j hj => ?_, fun j hj => ?_⟩
    · cases j with
      | zero => rw [h3 _ (by omega)]; simp [upd]
      | succ j => rw [show o + (j + 1) = o + 1 + j by omega, h2 j (by simpa using hj)]; simp
    · rw [h3 j (by simp at hj; omega), upd_other _ _ _ _ (by simp at hj; omega)]

theorem below_setCells {B : Nat} {a : World} (g : Nat) (hg : B ≤ g) : ∀ (vs : List Value) (o : Nat) (w : World), Below B a w → Below B a (w.setCells g o vs)
  | [], _, _, h => h
  | v :: r, o, w, h => below_setCells g hg r (o + 1) _ (h.setCell (by exact hg) v)

theorem size_setCells (g : Nat) : ∀ (vs : List Value) (o : Nat) (w : World), (w.setCells g o vs).heap.size = w.heap.size
  | [], _, _ => rfl
  | v :: r, o, w => by rw [World.setCells, size_setCells g r, World.size_setCell]

theorem Yba.info26 : (Yba.prog.info? 26).map (fun i => (i.zero, i.size, i.bytes)) = some (some (.agg #[.int .u64 0, .int .u64 0]), 2, 16) := by kernel_rfl
theorem Yba.info41 : (Yba.prog.info? 41).map (fun i => (i.zero, i.size, i.bytes)) = some (some (.agg #[.int .i32 0, .int .u64 0, .int .i32 0, .int .i32 0, .int .i32 0, .int .i32 0, .int .i32 0, .int .i32 0]), 8, 40) := by kernel_rfl
def z26 : Array Value := #[.int .u64 0, .int .u64 0]
def z41 : Array Value := #[.int .i32 0, .int .u64 0, .int .i32 0, .int .i32 0, .int .i32 0, .int .i32 0, .int .i32 0, .int .i32 0]

/-- The first m cells. -/
def newsOf (f : Nat → Value) (m : Nat) : List Value := (List.range m).map f
theorem newsOf_length (f : Nat → Value) (m : Nat) : (newsOf f m).length = m := by simp [newsOf]
theorem newsOf_get {f : Nat → Value} {m j : Nat} {u : Value} (h : (newsOf f m)[j]? = some u) : j < m ∧ u = f j := by
  have hj : j < m := by
    rcases Nat.lt_or_ge j m with h' | h'
    · exact h'
    · rw [List.getElem?_eq_none (by rw [newsOf_length]; exact h')] at h; cases h
  refine ⟨hj, ?_⟩
  simp [newsOf, hj] at h
  exact h.symm

/-- The world behind a cut that copies: a new row of c zero elements, its first cells stored. -/
theorem copied {w : World} {t : TypeId} {cs : Array Value} {N m : Nat} {f : Nat → Value} (hs : cs.size = N) :
    ((w.alloc (.cells cs t)).drew.setCells w.heap.size 0 (newsOf f m)).heap.size = w.heap.size + 1 ∧ Below w.heap.size w ((w.alloc (.cells cs t)).drew.setCells w.heap.size 0 (newsOf f m)) ∧
      ∃ f', RowFn ((w.alloc (.cells cs t)).drew.setCells w.heap.size 0 (newsOf f m)) w.heap.size t N f' ∧ ∀ j, j < m → f' j = f j := by
  obtain ⟨f', h1, h2, _⟩ := RowFn.setCells (newsOf f m) 0 _ _ (RowFn.new w cs t _ rfl N hs).drew
  refine ⟨?_, ?_, f', h1, fun j hj => ?_⟩
  · rw [size_setCells, World.size_drew, World.size_alloc]
  · exact below_setCells _ (Nat.le_refl _) _ _ _ ((Below.refl _ _).alloc (Nat.le_refl _) _).drew
  · have := h2 j (by rw [newsOf_length]; exact hj)
    rw [Nat.zero_add] at this
    rw [this]
    simp [newsOf, hj]

/-- Is the array kept? -/
def keptB (L n : Nat) : Bool := decide (L / 4 ≤ n ∨ L ≤ 64)

theorem cut13_keep (g L n : Nat) (hn : n ≤ L) (hL : L ≤ 100000) (hk : keptB L n = true) (w : World) :
    Calls Yba.prog 13 #[.slice (some ⟨g, 0, none⟩) L L, .int .i64 n] w fun e w' => e = .returned (.slice (some ⟨g, 0, none⟩) n L) ∧ w' = w := by
  have hk' : L / 4 ≤ n ∨ L ≤ 64 := by simpa [keptB] using hk
  clear hk
  by_cases h4 : (L : Int) / 4 ≤ n
  · go_enter Yba.func13, Yba.ntmps13
    go_wp2
    go_ret
    exact ⟨rfl, rfl⟩
  · have h64 : L ≤ 64 := by omega
    clear hk'
    go_enter Yba.func13, Yba.ntmps13
    go_wp2
    go_ret
    exact ⟨rfl, rfl⟩

theorem cut13_copy (g L n : Nat) (hn : n ≤ L) (hL : L ≤ 100000) (hk : keptB L n = false) (f : Nat → Value) (hone : ∀ j, j < n * 2 → (f j).oneCell' = true) (w : World) (hrow : RowFn w g 26 (L * 2) f) :
    Calls Yba.prog 13 #[.slice (some ⟨g, 0, none⟩) L L, .int .i64 n] w fun e w' => e = .returned (.slice (some ⟨w.heap.size, 0, none⟩) n (2 * n)) ∧
      w'.heap.size = w.heap.size + 1 ∧ Below w.heap.size w w' ∧ ∃ f', RowFn w' w.heap.size 26 (2 * n * 2) f' ∧ ∀ j, j < n * 2 → f' j = f j := by
  have hk' : ¬ (L / 4 ≤ n ∨ L ≤ 64) := by simpa [keptB] using hk
  clear hk
  have h4 : (n : Int) < (L : Int) / 4 := by omega
  have h64 : (64 : Int) < L := by omega
  clear hk'
  obtain ⟨i0, hi, hz0, hz1, hz2⟩ := info_parts Yba.info26
  have hmk : ∀ w, (Instr.makeSlice 24 (.int .i64 0) (.int .i64 (2 * ↑n))).run Yba.prog w = .ok (.slice (some ⟨w.heap.size, 0, none⟩) 0 (2 * n)) (w.alloc (.cells (madeCells z26 (2 * n * 2)) 26)) := by
    intro w
    have := run_make (P := Yba.prog) w 24 26 i0 _ Yba.underlying24 hi hz0 .i64 .i64 0 ((2 * n : Nat) : Int) (by omega) (by omega) (by rw [hz2]; omega) (by omega)
    rw [hz1, Int.toNat_natCast] at this
    simp only [Int.natCast_mul] at this
    exact this
  have hob := hrow.lt
  have s1 : Hid ((newsOf f (n * 2)).length = n * 2) := newsOf_length _ _
  have s2 : Hid (∀ u ∈ newsOf f (n * 2), u.oneCell' = true) := fun u hu => by
    obtain ⟨x, hx, rfl⟩ := List.mem_map.1 hu
    exact hone x (by simpa using hx)
  have s3 : Hid (∀ j u, (newsOf f (n * 2))[j]? = some u → ((w.alloc (.cells (madeCells z26 (2 * n * 2)) 26)).drew).cell? ((⟨g, 0, none⟩ : Addr).add j) = some u) := fun j u hu => by
    obtain ⟨hj, rfl⟩ := newsOf_get hu
    rw [Addr.add_lit, Nat.zero_add, World.cell?_drew, World.cell?_alloc_past _ _ _ hob]
    exact hrow.cell j (by omega)
  have s4 : Hid (∀ j, j < (newsOf f (n * 2)).length → (((w.alloc (.cells (madeCells z26 (2 * n * 2)) 26)).drew).cell? ⟨w.heap.size, 0 + 0 * 2 + j, none⟩).isSome = true ∧ ((w.alloc (.cells (madeCells z26 (2 * n * 2)) 26)).drew).frozen? ⟨w.heap.size, 0 + 0 * 2 + j, none⟩ = false) := fun j hj => by
    rw [newsOf_length] at hj
    have hnew := RowFn.new w (madeCells z26 (2 * n * 2)) 26 w.heap.size rfl (2 * n * 2) (size_madeCells _ _)
    exact ⟨by rw [World.cell?_drew, hnew.cell _ (by omega)]; rfl, hnew.frozen _⟩
  have hnl : (n : Int) ≤ L := by omega
  have hwr : IntKind.i64.wrap (2 * (n : Int)) = 2 * (n : Int) := by rw [IntKind.wrap_i64]; omega
  clear hrow hone
  go_enter Yba.func13, Yba.ntmps13
  go_wp2_with fail
  go_region_law (refine step_append_room rfl (.tmp 20) (.tmp 23) 24 rfl 26 i0 2 Yba.underlying24 hi hz1 w.heap.size 0 0 (2 * n) (by simp [Act.eval]) ⟨g, 0, none⟩ n L (newsOf f (n * 2)) (by simp [Act.eval]) s1.out s3.out s2.out (by omega) s4.out ?_)
  all_goals
    go_wp2
    go_ret
    exact ⟨by simp [go_sem], copied (size_madeCells _ _)⟩
theorem cut14_keep (g L n : Nat) (hn : n ≤ L) (hL : L ≤ 100000) (hk : keptB L n = true) (w : World) :
    Calls Yba.prog 14 #[.slice (some ⟨g, 0, none⟩) L L, .int .i64 n] w fun e w' => e = .returned (.slice (some ⟨g, 0, none⟩) n L) ∧ w' = w := by
  have hk' : L / 4 ≤ n ∨ L ≤ 64 := by simpa [keptB] using hk
  clear hk
  by_cases h4 : (L : Int) / 4 ≤ n
  · go_enter Yba.func14, Yba.ntmps14
    go_wp2
    go_ret
    exact ⟨rfl, rfl⟩
  · have h64 : L ≤ 64 := by omega
    clear hk'
    go_enter Yba.func14, Yba.ntmps14
    go_wp2
    go_ret
    exact ⟨rfl, rfl⟩

theorem cut14_copy (g L n : Nat) (hn : n ≤ L) (hL : L ≤ 100000) (hk : keptB L n = false) (f : Nat → Value) (hone : ∀ j, j < n * 8 → (f j).oneCell' = true) (w : World) (hrow : RowFn w g 41 (L * 8) f) :
    Calls Yba.prog 14 #[.slice (some ⟨g, 0, none⟩) L L, .int .i64 n] w fun e w' => e = .returned (.slice (some ⟨w.heap.size, 0, none⟩) n (2 * n)) ∧
      w'.heap.size = w.heap.size + 1 ∧ Below w.heap.size w w' ∧ ∃ f', RowFn w' w.heap.size 41 (2 * n * 8) f' ∧ ∀ j, j < n * 8 → f' j = f j := by
  have hk' : ¬ (L / 4 ≤ n ∨ L ≤ 64) := by simpa [keptB] using hk
  clear hk
  have h4 : (n : Int) < (L : Int) / 4 := by omega
  have h64 : (64 : Int) < L := by omega
  clear hk'
  obtain ⟨i0, hi, hz0, hz1, hz2⟩ := info_parts Yba.info41
  have hmk : ∀ w, (Instr.makeSlice 28 (.int .i64 0) (.int .i64 (2 * ↑n))).run Yba.prog w = .ok (.slice (some ⟨w.heap.size, 0, none⟩) 0 (2 * n)) (w.alloc (.cells (madeCells z41 (2 * n * 8)) 41)) := by
    intro w
    have := run_make (P := Yba.prog) w 28 41 i0 _ Yba.underlying28 hi hz0 .i64 .i64 0 ((2 * n : Nat) : Int) (by omega) (by omega) (by rw [hz2]; omega) (by omega)
    rw [hz1, Int.toNat_natCast] at this
    simp only [Int.natCast_mul] at this
    exact this
  have hob := hrow.lt
  have s1 : Hid ((newsOf f (n * 8)).length = n * 8) := newsOf_length _ _
  have s2 : Hid (∀ u ∈ newsOf f (n * 8), u.oneCell' = true) := fun u hu => by
    obtain ⟨x, hx, rfl⟩ := List.mem_map.1 hu
    exact hone x (by simpa using hx)
  have s3 : Hid (∀ j u, (newsOf f (n * 8))[j]? = some u → ((w.alloc (.cells (madeCells z41 (2 * n * 8)) 41)).drew).cell? ((⟨g, 0, none⟩ : Addr).add j) = some u) := fun j u hu => by
    obtain ⟨hj, rfl⟩ := newsOf_get hu
    rw [Addr.add_lit, Nat.zero_add, World.cell?_drew, World.cell?_alloc_past _ _ _ hob]
    exact hrow.cell j (by omega)
  have s4 : Hid (∀ j, j < (newsOf f (n * 8)).length → (((w.alloc (.cells (madeCells z41 (2 * n * 8)) 41)).drew).cell? ⟨w.heap.size, 0 + 0 * 8 + j, none⟩).isSome = true ∧ ((w.alloc (.cells (madeCells z41 (2 * n * 8)) 41)).drew).frozen? ⟨w.heap.size, 0 + 0 * 8 + j, none⟩ = false) := fun j hj => by
    rw [newsOf_length] at hj
    have hnew := RowFn.new w (madeCells z41 (2 * n * 8)) 41 w.heap.size rfl (2 * n * 8) (size_madeCells _ _)
    exact ⟨by rw [World.cell?_drew, hnew.cell _ (by omega)]; rfl, hnew.frozen _⟩
  have hnl : (n : Int) ≤ L := by omega
  have hwr : IntKind.i64.wrap (2 * (n : Int)) = 2 * (n : Int) := by rw [IntKind.wrap_i64]; omega
  clear hrow hone
  go_enter Yba.func14, Yba.ntmps14
  go_wp2_with fail
  go_region_law (refine step_append_room rfl (.tmp 20) (.tmp 23) 28 rfl 41 i0 8 Yba.underlying28 hi hz1 w.heap.size 0 0 (2 * n) (by simp [Act.eval]) ⟨g, 0, none⟩ n L (newsOf f (n * 8)) (by simp [Act.eval]) s1.out s3.out s2.out (by omega) s4.out ?_)
  all_goals
    go_wp2
    go_ret
    exact ⟨by simp [go_sem], copied (size_madeCells _ _)⟩

/-- zzs3915akept. -/
theorem kept_any (L n : Nat) (hL : L ≤ 100000) (hn : n ≤ 100000) (w : World) : Calls Yba.prog 7 #[.int .i64 L, .int .i64 n] w fun e w' => e = .returned (.bool (keptB L n)) ∧ w' = w := by
  by_cases h4 : (L : Int) / 4 ≤ n
  · have hk : keptB L n = true := by simp [keptB]; omega
    rw [hk]
    go_enter Yba.func7, Yba.ntmps7
    go_wp2
    go_ret
    exact ⟨by simp, rfl⟩
  · by_cases h64 : (L : Int) ≤ 64
    · have hk : keptB L n = true := by simp [keptB]; omega
      rw [hk]
      go_enter Yba.func7, Yba.ntmps7
      go_wp2
      go_ret
      exact ⟨by simp, rfl⟩
    · have hk : keptB L n = false := by simp [keptB]; omega
      rw [hk]
      go_enter Yba.func7, Yba.ntmps7
      go_wp2
      go_ret
      exact ⟨by simp, rfl⟩

/-- What a cut leaves of a slice of L elements of sz cells each, in row g: n elements in row gl, which has room for c. -/
structure CutRow (w' : World) (t : TypeId) (sz g L n : Nat) (f : Nat → Value) (gl c : Nat) : Prop where
  yes : keptB L n = true → gl = g ∧ c = L
  no : keptB L n = false → c = 2 * n
  le : n ≤ c
  top : c ≤ 200000
  row : ∃ f', RowFn w' gl t (c * sz) f' ∧ ∀ j, j < n * sz → f' j = f j

theorem CutRow.of_block {w w' : World} {t : TypeId} {sz g L n gl c : Nat} {f : Nat → Value} (h : CutRow w t sz g L n f gl c) (e : w'.heap[gl]? = w.heap[gl]?) : CutRow w' t sz g L n f gl c := by
  obtain ⟨h1, h2, h3, h4, f', h5, h6⟩ := h
  exact ⟨h1, h2, h3, h4, f', h5.of_block e, h6⟩

theorem CutRow.lt {w : World} {t : TypeId} {sz g L n gl c : Nat} {f : Nat → Value} (h : CutRow w t sz g L n f gl c) : gl < w.heap.size := by
  obtain ⟨f', h5, h6⟩ := h.row
  exact h5.lt

theorem cut13_any (g L n : Nat) (hn : n ≤ L) (hL : L ≤ 100000) (f : Nat → Value) (hone : ∀ j, j < n * 2 → (f j).oneCell' = true) (w : World) (hrow : RowFn w g 26 (L * 2) f) :
    Calls Yba.prog 13 #[.slice (some ⟨g, 0, none⟩) L L, .int .i64 n] w fun e w' => ∃ gl c, e = .returned (.slice (some ⟨gl, 0, none⟩) n c) ∧ CutRow w' 26 2 g L n f gl c ∧ Below w.heap.size w w' ∧ (gl = g ∨ w.heap.size ≤ gl) := by
  cases hk : keptB L n with
  | true =>
    refine (cut13_keep g L n hn hL hk w).mono fun e w' ⟨he, hw⟩ => ?_
    subst hw
    exact ⟨g, L, he, ⟨fun _ => ⟨rfl, rfl⟩, fun h => by (rw [hk] at h; cases h), hn, by omega, f, hrow, fun _ _ => rfl⟩, Below.refl _ _, .inl rfl⟩
  | false =>
    refine (cut13_copy g L n hn hL hk f hone w hrow).mono fun e w' ⟨he, hs, hb, f', h1, h2⟩ => ?_
    exact ⟨w.heap.size, 2 * n, he, ⟨fun h => by (rw [hk] at h; cases h), fun _ => rfl, by omega, by omega, f', h1, h2⟩, hb, .inr (Nat.le_refl _)⟩

theorem cut14_any (g L n : Nat) (hn : n ≤ L) (hL : L ≤ 100000) (f : Nat → Value) (hone : ∀ j, j < n * 8 → (f j).oneCell' = true) (w : World) (hrow : RowFn w g 41 (L * 8) f) :
    Calls Yba.prog 14 #[.slice (some ⟨g, 0, none⟩) L L, .int .i64 n] w fun e w' => ∃ gl c, e = .returned (.slice (some ⟨gl, 0, none⟩) n c) ∧ CutRow w' 41 8 g L n f gl c ∧ Below w.heap.size w w' ∧ (gl = g ∨ w.heap.size ≤ gl) := by
  cases hk : keptB L n with
  | true =>
    refine (cut14_keep g L n hn hL hk w).mono fun e w' ⟨he, hw⟩ => ?_
    subst hw
    exact ⟨g, L, he, ⟨fun _ => ⟨rfl, rfl⟩, fun h => by (rw [hk] at h; cases h), hn, by omega, f, hrow, fun _ _ => rfl⟩, Below.refl _ _, .inl rfl⟩
  | false =>
    refine (cut14_copy g L n hn hL hk f hone w hrow).mono fun e w' ⟨he, hs, hb, f', h1, h2⟩ => ?_
    exact ⟨w.heap.size, 2 * n, he, ⟨fun h => by (rw [hk] at h; cases h), fun _ => rfl, by omega, by omega, f', h1, h2⟩, hb, .inr (Nat.le_refl _)⟩

/-- a.cut(n) where a is narrow. -/
theorem cut6_narrow (ab g L n : Nat) (hn : n ≤ L) (hL : L ≤ 100000) (f : Nat → Value) (hone : ∀ j, j < n * 2 → (f j).oneCell' = true) (w : World) (hrow : RowFn w g 26 (L * 2) f) (hne : g ≠ ab)
    (h0 : w.cell? ⟨ab, 0, none⟩ = some (.slice (some ⟨g, 0, none⟩) L L)) (hf0 : w.frozen? ⟨ab, 0, none⟩ = false) (h2 : w.cell? ⟨ab, 2, none⟩ = some (.int .i64 0)) :
    Calls Yba.prog 6 #[.pointer (some ⟨ab, 0, none⟩), .int .i64 n] w fun e w' => ∃ gl c, e = .returned (.tuple #[]) ∧ w'.cell? ⟨ab, 0, none⟩ = some (.slice (some ⟨gl, 0, none⟩) n c) ∧ CutRow w' 26 2 g L n f gl c ∧
      (∀ o, o ≠ 0 → w'.cell? ⟨ab, o, none⟩ = w.cell? ⟨ab, o, none⟩) ∧ Below ab w w' := by
  have hab : ab < w.heap.size := World.block_lt_of_cell? w _ h0
  have HR : Hid (RowFn w g 26 (L * 2) f) := hrow
  clear hrow
  go_enter Yba.func6, Yba.ntmps6
  go_wp2_with fail
  refine (cut13_any g L n hn hL f hone w HR.out).mono ?_
  rintro e w1 ⟨gl, c, rfl, hcut, hbel, hgl⟩
  have k0 : w1.cell? ⟨ab, 0, none⟩ = some (.slice (some ⟨g, 0, none⟩) L L) := (hbel.cell (by exact hab)).trans h0
  have kf0 : w1.frozen? ⟨ab, 0, none⟩ = false := (hbel.frozen (by exact hab)).trans hf0
  have k2 : w1.cell? ⟨ab, 2, none⟩ = some (.int .i64 0) := (hbel.cell (by exact hab)).trans h2
  have HB : Hid (Below w.heap.size w w1) := hbel
  have HC : Hid (CutRow w1 26 2 g L n f gl c) := hcut
  clear h0 hf0 h2 hbel hcut
  go_wp2_with fail
  go_end0
  have hgab : gl ≠ ab := by omega
  refine ⟨gl, c, rfl, World.cell?_setCell_same _ _ _ k0, HC.out.of_block (heap_setCell_other _ _ _ _ (by exact hgab)), fun o ho => ?_, ?_⟩
  · rw [World.cell?_setCell_other _ _ _ _ (fun e => ho (by have := congrArg Addr.off e; exact this.symm))]
    exact HB.out.cell (by exact hab)
  · exact (HB.out.mono (B' := ab) (by omega)).setCell (p := ⟨ab, 0, none⟩) (Nat.le_refl _) _

/-- a.cut(n) where a is wide. -/
theorem cut6_wide (ab g gh L n : Nat) (hn : n ≤ L) (hL : L ≤ 100000) (f fh : Nat → Value) (hone : ∀ j, j < n * 2 → (f j).oneCell' = true) (honeh : ∀ j, j < n * 8 → (fh j).oneCell' = true) (w : World)
    (hrow : RowFn w g 26 (L * 2) f) (hne : g ≠ ab) (hrowh : RowFn w gh 41 (L * 8) fh) (hneh : gh ≠ ab)
    (h0 : w.cell? ⟨ab, 0, none⟩ = some (.slice (some ⟨g, 0, none⟩) L L)) (hf0 : w.frozen? ⟨ab, 0, none⟩ = false) (h2 : w.cell? ⟨ab, 2, none⟩ = some (.int .i64 1))
    (h1 : w.cell? ⟨ab, 1, none⟩ = some (.slice (some ⟨gh, 0, none⟩) L L)) (hf1 : w.frozen? ⟨ab, 1, none⟩ = false) :
    Calls Yba.prog 6 #[.pointer (some ⟨ab, 0, none⟩), .int .i64 n] w fun e w' => ∃ gl c gk d, e = .returned (.tuple #[]) ∧ w'.cell? ⟨ab, 0, none⟩ = some (.slice (some ⟨gl, 0, none⟩) n c) ∧ CutRow w' 26 2 g L n f gl c ∧
      w'.cell? ⟨ab, 1, none⟩ = some (.slice (some ⟨gk, 0, none⟩) n d) ∧ CutRow w' 41 8 gh L n fh gk d ∧
      (∀ o, o ≠ 0 → o ≠ 1 → w'.cell? ⟨ab, o, none⟩ = w.cell? ⟨ab, o, none⟩) ∧ Below ab w w' := by
  have hab : ab < w.heap.size := World.block_lt_of_cell? w _ h0
  have HR : Hid (RowFn w g 26 (L * 2) f) := hrow
  have HRh : Hid (RowFn w gh 41 (L * 8) fh) := hrowh
  clear hrow hrowh
  go_enter Yba.func6, Yba.ntmps6
  go_wp2_with fail
  refine (cut13_any g L n hn hL f hone w HR.out).mono ?_
  rintro e w1 ⟨gl, c, rfl, hcut, hbel, hgl⟩
  have k0 : w1.cell? ⟨ab, 0, none⟩ = some (.slice (some ⟨g, 0, none⟩) L L) := (hbel.cell (by exact hab)).trans h0
  have kf0 : w1.frozen? ⟨ab, 0, none⟩ = false := (hbel.frozen (by exact hab)).trans hf0
  have k2 : w1.cell? ⟨ab, 2, none⟩ = some (.int .i64 1) := (hbel.cell (by exact hab)).trans h2
  have k1 : w1.cell? ⟨ab, 1, none⟩ = some (.slice (some ⟨gh, 0, none⟩) L L) := (hbel.cell (by exact hab)).trans h1
  have kf1 : w1.frozen? ⟨ab, 1, none⟩ = false := (hbel.frozen (by exact hab)).trans hf1
  have hgab : gl ≠ ab := by omega
  have hs1 := hbel.size
  have HB : Hid (Below w.heap.size w w1) := hbel
  have HC : Hid (CutRow w1 26 2 g L n f gl c) := hcut
  have HRh1 : Hid (RowFn w1 gh 41 (L * 8) fh) := HRh.out.of_block (hbel.block gh HRh.out.lt)
  clear h0 hf0 h2 h1 hf1 hbel hcut
  go_wp2_with fail
  obtain ⟨w2, hw2⟩ : ∃ w2, w2 = w1.setCell ⟨ab, 0, none⟩ (.slice (some ⟨gl, 0, none⟩) n c) := ⟨_, rfl⟩
  have m0 : w2.cell? ⟨ab, 0, none⟩ = some (.slice (some ⟨gl, 0, none⟩) n c) := by rw [hw2]; exact World.cell?_setCell_same _ _ _ k0
  have mo : ∀ o, o ≠ 0 → w2.cell? ⟨ab, o, none⟩ = w1.cell? ⟨ab, o, none⟩ := fun o ho => by
    rw [hw2]; exact World.cell?_setCell_other _ _ _ _ (fun e => ho (by have := congrArg Addr.off e; exact this.symm))
  have m1 : w2.cell? ⟨ab, 1, none⟩ = some (.slice (some ⟨gh, 0, none⟩) L L) := (mo 1 (by decide)).trans k1
  have mf1 : w2.frozen? ⟨ab, 1, none⟩ = false := by rw [hw2, World.frozen?_setCell]; exact kf1
  have hs2 : w2.heap.size = w1.heap.size := by rw [hw2, World.size_setCell]
  have hb2 : Below ab w1 w2 := by rw [hw2]; exact (Below.refl ab _).setCell (p := ⟨ab, 0, none⟩) (Nat.le_refl _) _
  have HC2 : CutRow w2 26 2 g L n f gl c := by rw [hw2]; exact HC.out.of_block (heap_setCell_other _ _ _ _ (by exact hgab))
  have hrow2 : RowFn w2 gh 41 (L * 8) fh := by rw [hw2]; exact HRh1.out.other _ _ (by exact hneh)
  rw [← hw2]
  clear hw2
  refine (cut14_any gh L n hn hL fh honeh w2 hrow2).mono ?_
  rintro e w3 ⟨gk, d, rfl, hcut3, hbel3, hgk⟩
  have hab2 : ab < w2.heap.size := by omega
  have q1 : w3.cell? ⟨ab, 1, none⟩ = some (.slice (some ⟨gh, 0, none⟩) L L) := (hbel3.cell (by exact hab2)).trans m1
  have qf1 : w3.frozen? ⟨ab, 1, none⟩ = false := (hbel3.frozen (by exact hab2)).trans mf1
  have hgk2 : gk ≠ ab := by omega
  have HB3 : Hid (Below w2.heap.size w2 w3) := hbel3
  have HC3 : Hid (CutRow w3 41 8 gh L n fh gk d) := hcut3
  have HC3l : Hid (CutRow w3 26 2 g L n f gl c) := HC2.of_block (hbel3.block _ HC2.lt)
  have q0 : Hid (w3.cell? ⟨ab, 0, none⟩ = some (.slice (some ⟨gl, 0, none⟩) n c)) := (hbel3.cell (by exact hab2)).trans m0
  have MO : Hid (∀ o, o ≠ 0 → w2.cell? ⟨ab, o, none⟩ = w1.cell? ⟨ab, o, none⟩) := mo
  clear hbel3 hcut3 HC2 hrow2 m0 m1 mf1 mo
  go_wp2_with fail
  go_end0
  refine ⟨gl, c, gk, d, rfl, ?_, HC3l.out.of_block (heap_setCell_other _ _ _ _ (by exact hgab)), World.cell?_setCell_same _ _ _ q1, HC3.out.of_block (heap_setCell_other _ _ _ _ (by exact hgk2)), fun o ho1 ho2 => ?_, ?_⟩
  · rw [World.cell?_setCell_other _ _ _ _ (fun e => by have := congrArg Addr.off e; simp at this)]
    exact q0.out
  · rw [World.cell?_setCell_other _ _ _ _ (fun e => ho2 (by have := congrArg Addr.off e; exact this.symm))]
    exact ((HB3.out.cell (by exact hab2)).trans (MO.out o ho1)).trans (HB.out.cell (by exact hab))
  · exact (((HB.out.mono (B' := ab) (by omega)).trans hb2).trans (HB3.out.mono (B' := ab) (by omega))).setCell (p := ⟨ab, 1, none⟩) (Nat.le_refl _) _

end Go.Proofs.Ybulkccbc
