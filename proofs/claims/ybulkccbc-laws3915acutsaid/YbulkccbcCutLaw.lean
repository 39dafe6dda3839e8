import Derived.Test.YbulkccbcCut
import Derived.Deep.QuietTactic
import Derived.BigQuiet
import Derived.LaidEqlPtr
namespace Go.Proofs.Ybulkccbc
open Go.RowKit

/-- '^x' of a uint64, as the model spells it. -/
def not64 (x : Int) : Int := bits BinOp.xor IntKind.u64 (if IntKind.u64.signed = true then -1 else IntKind.u64.max) x
/-- The two words of set i. -/
def W0 (D : Nat → Int) (len i : Nat) : Int := if i < len then D i else i
def W1 (D : Nat → Int) (len i : Nat) : Int := if i < len then not64 (D i) else 0
def LowAt (D : Nat → Int) (len : Nat) (f : Nat → Value) (i : Nat) : Prop := f (i * 2) = .int .u64 (W0 D len i) ∧ f (i * 2 + 1) = .int .u64 (W1 D len i)

/-- What the first loop has made by round k. -/
def Low (D : Nat → Int) (len L k : Nat) (f : Nat → Value) : Prop := (∀ i, i < k → LowAt D len f i) ∧ ∀ i, k ≤ i → i < L → f (i * 2 + 1) = .int .u64 0

theorem low_start (D : Nat → Int) (len L : Nat) : Low D len L 0 (fun j => (madeCells z26 (L * 2)).getD j undef) := by
  refine ⟨fun i h => absurd h (Nat.not_lt_zero _), fun i _ hi => ?_⟩
  have h : (i * 2 + 1) % 2 = 1 := by omega
  simp [madeCells, z26, show i * 2 + 1 < L * 2 by omega, h]

theorem low_data {D : Nat → Int} {len L k : Nat} {f : Nat → Value} (h : Low D len L k f) (hd : k < len) : Low D len L (k + 1) (upd (upd f (k * 2) (.int .u64 (D k))) (k * 2 + 1) (.int .u64 (not64 (D k)))) := by
  refine ⟨fun i hi => ?_, fun i h1 h2 => ?_⟩
  · by_cases e : i = k
    · subst e
      exact ⟨by rw [upd_other _ _ _ _ (by omega), upd_same, W0, if_pos hd], by rw [upd_same, W1, if_pos hd]⟩
    · obtain ⟨a, b⟩ := h.1 i (by omega)
      exact ⟨by rw [upd_other _ _ _ _ (by omega), upd_other _ _ _ _ (by omega)]; exact a, by rw [upd_other _ _ _ _ (by omega), upd_other _ _ _ _ (by omega)]; exact b⟩
  · rw [upd_other _ _ _ _ (by omega), upd_other _ _ _ _ (by omega)]; exact h.2 i (by omega) h2

theorem low_pad {D : Nat → Int} {len L k : Nat} {f : Nat → Value} (h : Low D len L k f) (hL : k < L) (hd : ¬ k < len) : Low D len L (k + 1) (upd f (k * 2) (.int .u64 k)) := by
  refine ⟨fun i hi => ?_, fun i h1 h2 => ?_⟩
  · by_cases e : i = k
    · subst e
      exact ⟨by rw [upd_same, W0, if_neg hd], by rw [upd_other _ _ _ _ (by omega), W1, if_neg hd]; exact h.2 i (Nat.le_refl _) hL⟩
    · obtain ⟨a, b⟩ := h.1 i (by omega)
      exact ⟨by rw [upd_other _ _ _ _ (by omega)]; exact a, by rw [upd_other _ _ _ _ (by omega)]; exact b⟩
  · rw [upd_other _ _ _ _ (by omega)]; exact h.2 i (by omega) h2

/-- The contracts, their numbers as the law's walk spells them. -/
theorem cut6_narrow_at (ab g L n : Nat) (N : Int) (hN : N = n) (hn : n ≤ L) (hL : L ≤ 100000) (f : Nat → Value) (hone : ∀ j, j < n * 2 → (f j).oneCell' = true) (w : World) (hrow : RowFn w g 26 (L * 2) f) (hne : g ≠ ab)
    (h0 : w.cell? ⟨ab, 0, none⟩ = some (.slice (some ⟨g, 0, none⟩) L L)) (hf0 : w.frozen? ⟨ab, 0, none⟩ = false) (h2 : w.cell? ⟨ab, 2, none⟩ = some (.int .i64 0)) :
    Calls Yba.prog 6 #[.pointer (some ⟨ab, 0, none⟩), .int .i64 N] w fun e w' => ∃ gl c, e = .returned (.tuple #[]) ∧ w'.cell? ⟨ab, 0, none⟩ = some (.slice (some ⟨gl, 0, none⟩) n c) ∧ CutRow w' 26 2 g L n f gl c ∧
      (∀ o, o ≠ 0 → w'.cell? ⟨ab, o, none⟩ = w.cell? ⟨ab, o, none⟩) ∧ Below ab w w' := by
  subst hN; exact cut6_narrow ab g L n hn hL f hone w hrow hne h0 hf0 h2

theorem kept_at (L n : Nat) (l N : Int) (hl : l = L) (hN : N = n) (hL : L ≤ 100000) (hn : n ≤ 100000) (v : Bool) (hv : keptB L n = v) (w : World) : Calls Yba.prog 7 #[.int .i64 l, .int .i64 N] w fun e w' => e = .returned (.bool v) ∧ w' = w := by
  subst hl hN hv; exact kept_any L n hL hn w

theorem low_one {D : Nat → Int} {len L k : Nat} {f : Nat → Value} (h : Low D len L k f) (n : Nat) (hn : n ≤ k) (j : Nat) (hj : j < n * 2) : (f j).oneCell' = true := by
  obtain ⟨a, b⟩ := h.1 (j / 2) (by omega)
  rcases (show j = j / 2 * 2 ∨ j = j / 2 * 2 + 1 by omega) with e | e
  · rw [e, a]; rfl
  · rw [e, b]; rfl

/-- A pointer is not unequal to itself. -/
theorem neq_ptr_same (a : Addr) (w : World) : (binOp .neq 44 (.pointer (some a)) (.pointer (some a))).run Yba.prog w = .ok (.bool false) w := by
  obtain ⟨i0, hi, _⟩ := info_parts Yba.info26
  have h : ∀ d : Nat, (Op.equalIn (d + 1) 44 (.pointer (some a)) (.pointer (some a))).run Yba.prog w = .ok true w := fun d => by
    simp [Op.equalIn, run_underlying Yba.underlying44, sizeOf, typeInfo, hi, run_sameAddr_same]
  simp only [binOp]
  simp [Op.equal, Op.maxDepth, h 9999]

/-- What the law holds of the world behind the cut. -/
def Same (w w1 wr : World) : Prop := wr.heap = w1.heap ∧ Below w.heap.size w wr
theorem Same.cell {w w1 wr : World} (h : Same w w1 wr) (a : Addr) : wr.cell? a = w1.cell? a := World.cell?_of_block (by rw [h.1])
theorem Same.drewN {w w1 wr : World} (h : Same w w1 wr) (n : Nat) : Same w w1 (wr.drewN n) := ⟨h.1, below_drewN h.2 n⟩

/-- The eight cells of a highWords, laid at place k of the row. -/
def highSet (f : Nat → Value) (k : Nat) : Nat → Value :=
  upd (upd (upd (upd (upd (upd (upd (upd f (k * 8) (.int .i32 k)) (k * 8 + 1) (.int .u64 ((k : Int) + 1))) (k * 8 + 2) (.int .i32 k)) (k * 8 + 3) (.int .i32 0)) (k * 8 + 4) (.int .i32 1)) (k * 8 + 5) (.int .i32 1)) (k * 8 + 6) (.int .i32 0)) (k * 8 + 7) (.int .i32 1)
def HighAt (f : Nat → Value) (i : Nat) : Prop :=
  f (i * 8) = .int .i32 i ∧ f (i * 8 + 1) = .int .u64 ((i : Int) + 1) ∧ f (i * 8 + 2) = .int .i32 i ∧ f (i * 8 + 3) = .int .i32 0 ∧ f (i * 8 + 4) = .int .i32 1 ∧ f (i * 8 + 5) = .int .i32 1 ∧ f (i * 8 + 6) = .int .i32 0 ∧ f (i * 8 + 7) = .int .i32 1
theorem high_step (f : Nat → Value) (k : Nat) (h : ∀ i, i < k → HighAt f i) (i : Nat) (hi : i < k + 1) : HighAt (highSet f k) i := by
  by_cases e : i = k
  · subst e
    refine ⟨?_, ?_, ?_, ?_, ?_, ?_, ?_, ?_⟩ <;> simp [highSet, upd]
  · obtain ⟨a0, a1, a2, a3, a4, a5, a6, a7⟩ := h i (by omega)
    unfold highSet
    refine ⟨?_, ?_, ?_, ?_, ?_, ?_, ?_, ?_⟩ <;> (repeat rw [upd_other _ _ _ _ (by omega)]) <;> assumption
theorem high_one {f : Nat → Value} {k : Nat} (h : ∀ i, i < k → HighAt f i) (n : Nat) (hn : n ≤ k) (j : Nat) (hj : j < n * 8) : (f j).oneCell' = true := by
  obtain ⟨a0, a1, a2, a3, a4, a5, a6, a7⟩ := h (j / 8) (by omega)
  rcases (show j = j / 8 * 8 ∨ j = j / 8 * 8 + 1 ∨ j = j / 8 * 8 + 2 ∨ j = j / 8 * 8 + 3 ∨ j = j / 8 * 8 + 4 ∨ j = j / 8 * 8 + 5 ∨ j = j / 8 * 8 + 6 ∨ j = j / 8 * 8 + 7 by omega) with e | e | e | e | e | e | e | e
  · rw [e, a0]; rfl
  · rw [e, a1]; rfl
  · rw [e, a2]; rfl
  · rw [e, a3]; rfl
  · rw [e, a4]; rfl
  · rw [e, a5]; rfl
  · rw [e, a6]; rfl
  · rw [e, a7]; rfl

theorem cut6_wide_at (ab g gh L n : Nat) (N : Int) (hN : N = n) (hn : n ≤ L) (hL : L ≤ 100000) (f fh : Nat → Value) (hone : ∀ j, j < n * 2 → (f j).oneCell' = true) (honeh : ∀ j, j < n * 8 → (fh j).oneCell' = true) (w : World)
    (hrow : RowFn w g 26 (L * 2) f) (hne : g ≠ ab) (hrowh : RowFn w gh 41 (L * 8) fh) (hneh : gh ≠ ab)
    (h0 : w.cell? ⟨ab, 0, none⟩ = some (.slice (some ⟨g, 0, none⟩) L L)) (hf0 : w.frozen? ⟨ab, 0, none⟩ = false) (h2 : w.cell? ⟨ab, 2, none⟩ = some (.int .i64 1))
    (h1 : w.cell? ⟨ab, 1, none⟩ = some (.slice (some ⟨gh, 0, none⟩) L L)) (hf1 : w.frozen? ⟨ab, 1, none⟩ = false) :
    Calls Yba.prog 6 #[.pointer (some ⟨ab, 0, none⟩), .int .i64 N] w fun e w' => ∃ gl c gk d, e = .returned (.tuple #[]) ∧ w'.cell? ⟨ab, 0, none⟩ = some (.slice (some ⟨gl, 0, none⟩) n c) ∧ CutRow w' 26 2 g L n f gl c ∧
      w'.cell? ⟨ab, 1, none⟩ = some (.slice (some ⟨gk, 0, none⟩) n d) ∧ CutRow w' 41 8 gh L n fh gk d ∧
      (∀ o, o ≠ 0 → o ≠ 1 → w'.cell? ⟨ab, o, none⟩ = w.cell? ⟨ab, o, none⟩) ∧ Below ab w w' := by
  subst hN; exact cut6_wide ab g gh L n hn hL f fh hone honeh w hrow hne hrowh hneh h0 hf0 h2 h1 hf1

/-- The cells of the setArray as the law makes it. -/
def aCells (N L : Nat) : Array Value := #[.slice (some ⟨N, 0, none⟩) L L, .slice none 0 0, .int .i64 0, .slice none 0 0, .int .i64 0, .int .i64 0, .slice none 0 0, .int .i64 0, .slice none 0 0, .int .i64 0, .int .i64 0, .slice none 0 0, .int .i64 0]

/-- What the law holds of the world in its last loop. -/
def Same2 (w w1 wr : World) : Prop := Below w1.heap.size w1 wr ∧ Below w.heap.size w wr
theorem Same2.cell {w w1 wr : World} (h : Same2 w w1 wr) (a : Addr) (ha : a.block < w1.heap.size) : wr.cell? a = w1.cell? a := h.1.cell ha
theorem Same2.alloc {w w1 wr : World} (h : Same2 w w1 wr) (hs : w.heap.size ≤ w1.heap.size) (o : Obj) : Same2 w w1 (wr.alloc o) := ⟨h.1.alloc h.1.size o, h.2.alloc (Nat.le_trans hs h.1.size) o⟩
theorem Same.to2 {w w1 wr : World} (h : Same w w1 wr) (hb : Below w.heap.size w w1) : Same2 w w1 wr := ⟨⟨h.2.os.trans hb.os.symm, h.2.tape.trans hb.tape.symm, h.2.output.trans hb.output.symm, by rw [h.1]; exact Nat.le_refl _, fun k _ => by rw [h.1]⟩, h.2⟩

set_option maxRecDepth 100000 in
set_option maxHeartbeats 4000000 in
theorem acut_narrow (b off : Nat) (len cap p n : Nat) (D : Nat → Int) (a3 : Int) (hlen : len ≤ 1024) (hp : p ≤ 255) (hn1 : a3 % ((len : Int) + p + 1) ≤ n) (hn2 : (n : Int) ≤ a3 % ((len : Int) + p + 1)) (hnL : n ≤ len + p)
    (h30 : 0 ≤ a3) (h31 : a3 ≤ 18446744073709551615) (w : World)(hb : b < w.heap.size)
    (hD : ∀ i, i < len → w.cell? ⟨b, off + i, none⟩ = some (.int .u64 (D i))) (hD0 : ∀ i, i < len → 0 ≤ D i ∧ D i ≤ 18446744073709551615) :
    Calls Yba.prog 3 #[.slice (some ⟨b, off, none⟩) len cap, .int .u8 p, .bool false, .int .u64 a3] w fun e w' => e = .returned (.bool true) ∧ Below w.heap.size w w' := by
  obtain ⟨i0, hi, hz0, hz1, hz2⟩ := info_parts Yba.info26
  have hmk : ∀ w, (Instr.makeSlice 24 (.int .i64 (↑len + ↑p)) (.int .i64 (↑len + ↑p))).run Yba.prog w = .ok (.slice (some ⟨w.heap.size, 0, none⟩) (len + p) (len + p)) (w.alloc (.cells (madeCells z26 ((len + p) * 2)) 26)) := by
    intro w
    have := run_make (P := Yba.prog) w 24 26 i0 _ Yba.underlying24 hi hz0 .i64 .i64 ((len + p : Nat) : Int) ((len + p : Nat) : Int) (by omega) (by omega) (by rw [hz2]; omega) (by omega)
    rw [hz1, Int.toNat_natCast] at this
    simp only [Int.natCast_add] at this
    exact this
  clear hi hz0 hz1 hz2
  go_enter Yba.func3, Yba.ntmps3
  go_wp2_with fail
  clear hmk
  go_loopw [12] (fun i wr => ∃ k : Nat, k ≤ len + p ∧ i = .int .i64 k ∧ wr.heap.size = w.heap.size + 1 ∧ Below w.heap.size w wr ∧ ∃ f, RowFn wr w.heap.size 26 ((len + p) * 2) f ∧ Low D len (len + p) k f)
    (fun i _ => len + p - (intOf i).toNat)
  case atStart => exact ⟨0, Nat.zero_le _, rfl, by simp, (Below.refl _ _).alloc (Nat.le_refl _) _, _, RowFn.new w _ 26 _ rfl _ (size_madeCells _ _), low_start D len (len + p)⟩
  case round =>
    obtain ⟨k, hk, rfl, hsz, hbel, f, hrow, hlow⟩ := hrel
    by_cases hlt : k < len + p
    · have hf0 := hrow.frozen (k * 2)
      have hf1 := hrow.frozen (k * 2 + 1)
      have hc0 := hrow.cell (k * 2) (by omega)
      have hc1 := hrow.cell (k * 2 + 1) (by omega)
      by_cases hd : k < len
      · have hDk := hD k hd
        have hDr : wr.cell? ⟨b, off + k, none⟩ = some (.int .u64 (D k)) := (hbel.cell (by exact hb)).trans hDk
        obtain ⟨d0, d1⟩ := hD0 k hd
        have hki : (k : Int) < len := by omega
        have hkl : (k : Int) < (len : Int) + p := by omega
        go_wp2_with fail
        go_region
        go_wp2_with fail
        go_region
        go_wp2_with fail
        go_roundw
        case rel => exact ⟨k + 1, by omega, by go_num, by simpa using hsz, (((hbel.setCell (p := ⟨w.heap.size, k * 2, none⟩) (Nat.le_refl _) _).setCell (p := ⟨w.heap.size, k * 2 + 1, none⟩) (Nat.le_refl _) _).drew).drew, _, ((hrow.set (k * 2) _).set (k * 2 + 1) _).drew.drew, low_data hlow hd⟩
        case measure => simp [intOf]; omega
      · go_wp2_with fail
        go_roundw
        case rel => exact ⟨k + 1, by omega, by go_num, by simpa using hsz, hbel.setCell (p := ⟨w.heap.size, k * 2, none⟩) (Nat.le_refl _) _, _, hrow.set (k * 2) _, low_pad hlow hlt hd⟩
        case measure => simp [intOf]; omega
    · go_wp2_with fail
      obtain rfl : k = len + p := by omega
      refine (cut6_narrow_at (w.heap.size + 1) w.heap.size (len + p) n _ (by omega) hnL (by omega) f (low_one hlow n hnL) _ (hrow.alloc _) (by omega) ?_ ?_ ?_).mono ?_
      · simp [go_sem, hsz]
      · simp [go_sem, hsz]
      · simp [go_sem, hsz]
      rintro e w1 ⟨gl, c, rfl, c0, hcut, hkeep, hb1⟩
      have hbw : Below w.heap.size w w1 := (hbel.alloc (by omega) _).trans (hb1.mono (by omega))
      have c1 : w1.cell? ⟨w.heap.size + 1, 1, none⟩ = some (.slice none 0 0) := by rw [hkeep 1 (by decide)]; simp [go_sem, hsz]
      have c2 : w1.cell? ⟨w.heap.size + 1, 2, none⟩ = some (.int .i64 0) := by rw [hkeep 2 (by decide)]; simp [go_sem, hsz]
      have c3 : w1.cell? ⟨w.heap.size + 1, 3, none⟩ = some (.slice none 0 0) := by rw [hkeep 3 (by decide)]; simp [go_sem, hsz]
      have c5 : w1.cell? ⟨w.heap.size + 1, 5, none⟩ = some (.int .i64 0) := by rw [hkeep 5 (by decide)]; simp [go_sem, hsz]
      have c8 : w1.cell? ⟨w.heap.size + 1, 8, none⟩ = some (.slice none 0 0) := by rw [hkeep 8 (by decide)]; simp [go_sem, hsz]
      have c10 : w1.cell? ⟨w.heap.size + 1, 10, none⟩ = some (.int .i64 0) := by rw [hkeep 10 (by decide)]; simp [go_sem, hsz]
      obtain ⟨hyes, hno, hle, htop, f', hrow', hsame⟩ := hcut
      have hlow' : ∀ i, i < n → LowAt D len f' i := fun i hi => by
        obtain ⟨a, b⟩ := hlow.1 i (by omega)
        exact ⟨by rw [hsame _ (by omega)]; exact a, by rw [hsame _ (by omega)]; exact b⟩
      have t1 : ((n : Int) != a3 % ((len : Int) + p + 1)) = false := by simp; omega
      clear hkeep hb1 hrow hlow hbel hsz hsame
      cases hk : keptB (len + p) n with
      | true =>
        obtain ⟨rfl, rfl⟩ := hyes hk
        clear hyes hno 
        go_wp2_with fail
        clear t1
        go_loopw [16] (fun i wr => ∃ k : Nat, k ≤ n ∧ i = .int .i64 k ∧ Same w w1 wr) (fun i _ => n - (intOf i).toNat)
        case atStart => exact ⟨0, Nat.zero_le _, rfl, rfl, hbw⟩
        case round =>
          obtain ⟨k, hkn, rfl, hs⟩ := hrel
          have e0 := (hs.cell ⟨w.heap.size + 1, 0, none⟩).trans c0
          by_cases hlt : k < n
          · have g0 : wr.cell? ⟨w.heap.size, k * 2, none⟩ = some (.int .u64 (W0 D len k)) := by rw [hs.cell, hrow'.cell _ (by omega), (hlow' k hlt).1]
            have g1 : wr.cell? ⟨w.heap.size, k * 2 + 1, none⟩ = some (.int .u64 (W1 D len k)) := by rw [hs.cell, hrow'.cell _ (by omega), (hlow' k hlt).2]
            by_cases hd : k < len
            · have hDr : wr.cell? ⟨b, off + k, none⟩ = some (.int .u64 (D k)) := (hs.2.cell (by exact hb)).trans (hD k hd)
              have v0 : W0 D len k = D k := if_pos hd
              have v1 : W1 D len k = bits BinOp.xor IntKind.u64 (if IntKind.u64.signed = true then -1 else IntKind.u64.max) (D k) := if_pos hd
              rw [v0] at g0
              rw [v1] at g1
              clear v0 v1
              have hki : (k : Int) < len := by omega
              go_wp2_with fail
              go_quiet (fail)
              go_wp2_with fail
              go_roundw
              case rel => exact ⟨k + 1, by omega, by go_num, hs.drewN _⟩
              case measure => simp [intOf]; omega
            · have v0 : W0 D len k = k := if_neg hd
              have v1 : W1 D len k = 0 := if_neg hd
              rw [v0] at g0
              rw [v1] at g1
              clear v0 v1
              go_wp2_with fail
              go_roundw
              case rel => exact ⟨k + 1, by omega, by go_num, hs⟩
              case measure => simp [intOf]; omega
          · have e1 := (hs.cell ⟨w.heap.size + 1, 1, none⟩).trans c1
            have e2 := (hs.cell ⟨w.heap.size + 1, 2, none⟩).trans c2
            have e3 := (hs.cell ⟨w.heap.size + 1, 3, none⟩).trans c3
            have e5 := (hs.cell ⟨w.heap.size + 1, 5, none⟩).trans c5
            have e8 := (hs.cell ⟨w.heap.size + 1, 8, none⟩).trans c8
            have e10 := (hs.cell ⟨w.heap.size + 1, 10, none⟩).trans c10
            have t2 : ((n : Int) != a3 % ((len : Int) + p + 1)) = false := by simp; omega
            clear c0 c1 c2 c3 c5 c8 c10 hbw hlow'
            have hpe := neq_ptr_same
            by_cases hn0 : 0 < n
            · have hp0 : (0 : Int) < a3 % ((len : Int) + p + 1) := by omega
              have hp1 : (0 : Int) < (len : Int) + p := by omega
              have hp2 : 0 < len + p := by omega
              go_wp2_with (go_at_call 7; refine (kept_at (len + p) n _ _ (by omega) (by omega) (by omega) (by omega) true hk _).mono ?_; rintro e w' ⟨rfl, rfl⟩)
              go_quiet (fail)
              go_wp2_with fail
              go_ret
              exact ⟨rfl, (hs.drewN _).2⟩
            · have hp0 : decide ((0 : Int) < a3 % ((len : Int) + p + 1)) = false := by simp; omega
              go_wp2_with (go_at_call 7; refine (kept_at (len + p) n _ _ (by omega) (by omega) (by omega) (by omega) true hk _).mono ?_; rintro e w' ⟨rfl, rfl⟩)
              go_quiet (fail)
              go_wp2_with fail
              go_ret
              exact ⟨rfl, (hs.drewN _).2⟩
      | false =>
        obtain rfl := hno hk
        clear hyes hno 
        go_wp2_with fail
        clear t1
        go_loopw [16] (fun i wr => ∃ k : Nat, k ≤ n ∧ i = .int .i64 k ∧ Same w w1 wr) (fun i _ => n - (intOf i).toNat)
        case atStart => exact ⟨0, Nat.zero_le _, rfl, rfl, hbw⟩
        case round =>
          obtain ⟨k, hkn, rfl, hs⟩ := hrel
          have e0 := (hs.cell ⟨w.heap.size + 1, 0, none⟩).trans c0
          by_cases hlt : k < n
          · have g0 : wr.cell? ⟨gl, k * 2, none⟩ = some (.int .u64 (W0 D len k)) := by rw [hs.cell, hrow'.cell _ (by omega), (hlow' k hlt).1]
            have g1 : wr.cell? ⟨gl, k * 2 + 1, none⟩ = some (.int .u64 (W1 D len k)) := by rw [hs.cell, hrow'.cell _ (by omega), (hlow' k hlt).2]
            by_cases hd : k < len
            · have hDr : wr.cell? ⟨b, off + k, none⟩ = some (.int .u64 (D k)) := (hs.2.cell (by exact hb)).trans (hD k hd)
              have v0 : W0 D len k = D k := if_pos hd
              have v1 : W1 D len k = bits BinOp.xor IntKind.u64 (if IntKind.u64.signed = true then -1 else IntKind.u64.max) (D k) := if_pos hd
              rw [v0] at g0
              rw [v1] at g1
              clear v0 v1
              have hki : (k : Int) < len := by omega
              go_wp2_with fail
              go_quiet (fail)
              go_wp2_with fail
              go_roundw
              case rel => exact ⟨k + 1, by omega, by go_num, hs.drewN _⟩
              case measure => simp [intOf]; omega
            · have v0 : W0 D len k = k := if_neg hd
              have v1 : W1 D len k = 0 := if_neg hd
              rw [v0] at g0
              rw [v1] at g1
              clear v0 v1
              go_wp2_with fail
              go_roundw
              case rel => exact ⟨k + 1, by omega, by go_num, hs⟩
              case measure => simp [intOf]; omega
          · have e1 := (hs.cell ⟨w.heap.size + 1, 1, none⟩).trans c1
            have e2 := (hs.cell ⟨w.heap.size + 1, 2, none⟩).trans c2
            have e3 := (hs.cell ⟨w.heap.size + 1, 3, none⟩).trans c3
            have e5 := (hs.cell ⟨w.heap.size + 1, 5, none⟩).trans c5
            have e8 := (hs.cell ⟨w.heap.size + 1, 8, none⟩).trans c8
            have e10 := (hs.cell ⟨w.heap.size + 1, 10, none⟩).trans c10
            have t2 : ((n : Int) != a3 % ((len : Int) + p + 1)) = false := by simp; omega
            have t3 : (2 * (n : Int) != 2 * (a3 % ((len : Int) + p + 1))) = false := by simp; omega
            clear c0 c1 c2 c3 c5 c8 c10 hbw hlow'
            go_wp2_with (go_at_call 7; refine (kept_at (len + p) n _ _ (by omega) (by omega) (by omega) (by omega) false hk _).mono ?_; rintro e w' ⟨rfl, rfl⟩)
            go_ret
            exact ⟨rfl, hs.2⟩

end Go.Proofs.Ybulkccbc
