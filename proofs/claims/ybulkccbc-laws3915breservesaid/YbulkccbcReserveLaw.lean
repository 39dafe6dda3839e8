import Derived.Test.YbulkccbcReserve
namespace Go.Proofs.Ybulkccbc
open Go.RowKit

/-- No room: nothing is put, wherever the row lies. -/
theorem put_none (lb : Nat) (a : Option Addr) (L : Nat) (tx line col it kind : Int) (item : ByteArray) (w : World) (hl : w.cell? ⟨lb, 0, none⟩ = some (.slice a L L)) (_hC : L ≤ 1000000) :
    Calls Yba.prog 9 #[.pointer (some ⟨lb, 0, none⟩), .agg #[.int .u64 tx, .int .i64 line, .int .i64 col, .int .u32 it, .int .u8 kind], .string item] w fun e w' =>
      e = .returned (.bool false) ∧ w' = w.alloc (.cells #[.int .u64 tx, .int .i64 line, .int .i64 col, .int .u32 it, .int .u8 kind] 71) := by
  have hlb : lb < w.heap.size := World.block_lt_of_cell? w _ hl
  go_enter Yba.func9, Yba.ntmps9
  go_wp2
  go_ret
  exact ⟨rfl, rfl⟩

theorem reserve_at (lb n : Nat) (N : Int) (hN : N = n) (hn : 0 < n) (hn2 : n ≤ 1000) (w : World) (h0 : w.cell? ⟨lb, 0, none⟩ = some (.slice none 0 0)) (h1 : w.cell? ⟨lb, 1, none⟩ = some (.slice none 0 0)) (h2 : w.cell? ⟨lb, 2, none⟩ = some (.slice none 0 0)) (h3 : w.cell? ⟨lb, 3, none⟩ = some (.int .i64 0))
    (f0 : w.frozen? ⟨lb, 0, none⟩ = false) (f1 : w.frozen? ⟨lb, 1, none⟩ = false) (f2 : w.frozen? ⟨lb, 2, none⟩ = false) (f3 : w.frozen? ⟨lb, 3, none⟩ = false) :
    Calls Yba.prog 11 #[.pointer (some ⟨lb, 0, none⟩), .int .i64 N] w fun e w' => e = .returned (.tuple #[]) ∧ w'.cell? ⟨lb, 0, none⟩ = some (.slice (some ⟨w.heap.size, 0, none⟩) 0 n) ∧ w'.cell? ⟨lb, 3, none⟩ = some (.int .i64 0) ∧ w'.frozen? ⟨lb, 0, none⟩ = false ∧
      Below lb w w' ∧ ∃ f, RowFn w' w.heap.size 53 (n * 5) f := by
  subst hN; exact reserve_some lb n hn hn2 w h0 h1 h2 h3 f0 f1 f2 f3

/-- The records that came in: five numbers each. -/
structure Recs where
  kd : Nat → Int
  tx : Nat → Int
  it : Nat → Int
  ln : Nat → Int
  cl : Nat → Int

/-- Record i lies in memory at place i of the row that begins at cell off of block b. -/
structure RecAt (w : World) (b off : Nat) (R : Recs) (i : Nat) : Prop where
  kd : w.cell? ⟨b, off + i * 5, none⟩ = some (.int .u8 (R.kd i))
  tx : w.cell? ⟨b, off + i * 5 + 1, none⟩ = some (.int .u64 (R.tx i))
  it : w.cell? ⟨b, off + i * 5 + 2, none⟩ = some (.int .u8 (R.it i))
  ln : w.cell? ⟨b, off + i * 5 + 3, none⟩ = some (.int .i64 (R.ln i))
  cl : w.cell? ⟨b, off + i * 5 + 4, none⟩ = some (.int .i64 (R.cl i))
  lo : 0 ≤ R.it i
  hi : R.it i ≤ 255

def PutAt (R : Recs) (f : Nat → Value) (i : Nat) : Prop := OpAt f i (R.kd i) (R.tx i) (nm (R.it i)) (R.ln i) (R.cl i)

theorem put_step (R : Recs) (f : Nat → Value) (k : Nat) (h : ∀ i, i < k → PutAt R f i) (i : Nat) (hi : i < k + 1) : PutAt R (opSet f k (R.kd k) (R.tx k) (nm (R.it k)) (R.ln k) (R.cl k)) i := by
  by_cases e : i = k
  · subst e; exact opAt_set _ _ _ _ _ _ _
  · exact opAt_kept _ _ _ e _ _ _ _ _ _ _ _ _ _ (h i (by omega))

/-- What the law holds of the list while it puts: M ops of room n lie in row ob. -/
structure Held (w wr : World) (lb ob n M : Nat) (R : Recs) : Prop where
  head : wr.cell? ⟨lb, 0, none⟩ = some (.slice (some ⟨ob, 0, none⟩) M n)
  cnt : wr.cell? ⟨lb, 3, none⟩ = some (.int .i64 0)
  free : wr.frozen? ⟨lb, 0, none⟩ = false
  below : Below w.heap.size w wr
  row : ∃ f, RowFn wr ob 53 (n * 5) f ∧ ∀ i, i < M → PutAt R f i

theorem Held.alloc {w wr : World} {lb ob n M : Nat} {R : Recs} (h : Held w wr lb ob n M R) (o : Obj) : Held w (wr.alloc o) lb ob n M R := by
  have hlb : lb < wr.heap.size := World.block_lt_of_cell? wr _ h.head
  obtain ⟨f, h1, h2⟩ := h.row
  exact ⟨by rw [World.cell?_alloc_past _ _ _ hlb]; exact h.head, by rw [World.cell?_alloc_past _ _ _ hlb]; exact h.cnt, by rw [World.frozen?_alloc_past _ _ _ hlb]; exact h.free, h.below.alloc h.below.size o, f, h1.alloc o, h2⟩
theorem Held.drewN {w wr : World} {lb ob n M : Nat} {R : Recs} (h : Held w wr lb ob n M R) (m : Nat) : Held w (wr.drewN m) lb ob n M R := by
  obtain ⟨f, h1, h2⟩ := h.row
  exact ⟨h.head, h.cnt, h.free, below_drewN h.below m, f, h1.of_block rfl, h2⟩

theorem Held.put {w W w' : World} {lb ob n k : Nat} {R : Recs} {f : Nat → Value} (h : Held w W lb ob n k R) (hf : ∀ i, i < k → PutAt R f i) (hne : lb ≠ ob) (h1 : w.heap.size ≤ lb) (h2 : w.heap.size ≤ ob)
    (hp : Put W w' lb ob k n (n * 5) (opSet f k (R.kd k) (R.tx k) (nm (R.it k)) (R.ln k) (R.cl k))) : Held w w' lb ob n (k + 1) R := by
  have hlb : lb < W.heap.size := World.block_lt_of_cell? W _ h.head
  exact ⟨hp.head, by rw [hp.kept _ _ hlb hne (.inr (by decide))]; exact h.cnt, by rw [hp.free _ _ hlb]; exact h.free, h.below.trans (hp.below _ h1 h2), _, hp.row, put_step R f k hf⟩

set_option maxRecDepth 100000 in
set_option maxHeartbeats 4000000 in
theorem res_some (b off len cap n : Nat) (a0 : Int) (R : Recs) (hlen : len ≤ 1024) (hn1 : a0 % 300 ≤ n) (hn2 : n ≤ a0 % 300) (hn : 0 < n) (h0 : 0 ≤ a0) (h1 : a0 ≤ 65535) (w : World) (hb : b < w.heap.size)
    (hR : ∀ i, i < len → RecAt w b off R i) :
    Calls Yba.prog 5 #[.int .u16 a0, .slice (some ⟨b, off, none⟩) len cap] w fun e w' => e = .returned (.bool true) ∧ Below w.heap.size w w' := by
  go_enter Yba.func5, Yba.ntmps5
  go_wp2_with (go_at_call 10; refine (new_any _).mono ?_; rintro e w1 ⟨rfl, hb1, hs1⟩)
  refine (reserve_at (w.heap.size + 3) n _ (by omega) hn (by omega) _ ?_ ?_ ?_ ?_ ?_ ?_ ?_ ?_).mono ?_
  · simp [go_sem, hs1]
  · simp [go_sem, hs1]
  · simp [go_sem, hs1]
  · simp [go_sem, hs1]
  · simp [go_sem, hs1]
  · simp [go_sem, hs1]
  · simp [go_sem, hs1]
  · simp [go_sem, hs1]
  rintro e w2 ⟨rfl, r0, r3, rf, rb, f0, hrow0⟩
  rw [World.size_alloc, hs1] at r0 hrow0
  have hold0 : Held w w2 (w.heap.size + 3) (w.heap.size + 3 + 1) n 0 R := ⟨r0, r3, rf, ((hb1.alloc (by omega) _).trans (rb.mono (by omega))), f0, hrow0, fun i h => absurd h (Nat.not_lt_zero _)⟩
  clear r0 r3 rf rb hrow0 hb1 hs1
  go_wp2_with fail
  go_loopw [7] (fun i wr => ∃ k : Nat, k ≤ len ∧ i = .int .i64 k ∧ Held w wr (w.heap.size + 3) (w.heap.size + 3 + 1) n (min k n) R) (fun i _ => len - (intOf i).toNat)
  case atStart => exact ⟨0, Nat.zero_le _, rfl, by rw [Nat.zero_min]; exact hold0⟩
  case round =>
    obtain ⟨k, hk, rfl, hold⟩ := hrel
    clear hold0
    by_cases hlt : k < len
    · have HR : Hid (RecAt w b off R k) := hR k hlt
      have c0 := (hold.below.cell (p := ⟨b, off + k * 5, none⟩) hb).trans HR.out.kd
      have c1 := (hold.below.cell (p := ⟨b, off + k * 5 + 1, none⟩) hb).trans HR.out.tx
      have c2 := (hold.below.cell (p := ⟨b, off + k * 5 + 2, none⟩) hb).trans HR.out.it
      have c3 := (hold.below.cell (p := ⟨b, off + k * 5 + 3, none⟩) hb).trans HR.out.ln
      have c4 := (hold.below.cell (p := ⟨b, off + k * 5 + 4, none⟩) hb).trans HR.out.cl
      have lo := HR.out.lo
      have hi := HR.out.hi
      have hki : (k : Int) < len := by omega
      by_cases hkn : k < n
      · rw [Nat.min_eq_left (by omega)] at hold
        obtain ⟨f, hrow, hput⟩ := hold.row
        have HW : Hid (∀ X Y, Held w ((wr.alloc X).alloc Y).drew (w.heap.size + 3) (w.heap.size + 3 + 1) n k R) := fun X Y => ((hold.alloc X).alloc Y).drewN 1
        have HF : Hid (∀ X Y, RowFn ((wr.alloc X).alloc Y).drew (w.heap.size + 3 + 1) 53 (n * 5) f) := fun X Y => ((hrow.alloc X).alloc Y).drew
        have hwr : IntKind.i64.wrap (R.it k) = R.it k := by rw [IntKind.wrap_i64]; omega
        have t1 : (!decide ((k : Int) < a0 % 300)) = false := by simp; omega
        clear hold hrow hR
        go_wp2_with fail
        go_region_with (first | (go_at_call 8; refine (name_any _ (by omega) _).mono ?_; rintro e w' ⟨rfl, rfl⟩) | (go_at_call 9; refine (put_yes (w.heap.size + 3) (w.heap.size + 3 + 1) k n f _ _ _ _ _ _ _ (HW.out _ _).head (HW.out _ _).free hkn (by omega) (by omega) (HF.out _ _)).mono ?_; rintro e w' ⟨rfl, hp⟩))
        all_goals
          go_wp2_with fail
          go_roundw
          case rel => exact ⟨k + 1, by omega, by go_num, by rw [Nat.min_eq_left (by omega)]; exact (HW.out _ _).put hput (by omega) (by omega) (by omega) hp⟩
          case measure => simp [intOf]; omega
      · rw [Nat.min_eq_right (by omega)] at hold
        have hsz := World.block_lt_of_cell? wr _ hold.head
        have HW : Hid (∀ X Y, Held w ((wr.alloc X).alloc Y).drew (w.heap.size + 3) (w.heap.size + 3 + 1) n n R) := fun X Y => ((hold.alloc X).alloc Y).drewN 1
        have hwr : IntKind.i64.wrap (R.it k) = R.it k := by rw [IntKind.wrap_i64]; omega
        have t1 : decide ((k : Int) < a0 % 300) = false := by simp; omega
        clear hold hR
        go_wp2_with fail
        go_region_with (first | (go_at_call 8; refine (name_any _ (by omega) _).mono ?_; rintro e w' ⟨rfl, rfl⟩) | (go_at_call 9; refine (put_none (w.heap.size + 3) (some ⟨w.heap.size + 3 + 1, 0, none⟩) n _ _ _ _ _ _ _ (HW.out _ _).head (by omega)).mono ?_; rintro e w' ⟨rfl, rfl⟩))
        all_goals
          go_wp2_with fail
          go_roundw
          case rel => exact ⟨k + 1, by omega, by go_num, by rw [Nat.min_eq_right (by omega)]; exact (HW.out _ _).alloc _⟩
          case measure => simp [intOf]; omega
    · obtain rfl : k = len := by omega
      have hc0 := hold.head
      have hc3 := hold.cnt
      by_cases hmin : n ≤ k
      · rw [Nat.min_eq_right hmin] at hold hc0
        go_wp2_with (go_at_call 12; refine (len_any (w.heap.size + 3) _ n n (by omega) _ (by assumption) (by assumption)).mono ?_; rintro e w' ⟨rfl, m, rfl⟩)
        have hold2 := hold.drewN m
        clear hold hc0 hc3
        go_loopw [12] (fun i wr => ∃ j : Nat, j ≤ n ∧ i = .int .i64 j ∧ Held w wr (w.heap.size + 3) (w.heap.size + 3 + 1) n n R) (fun i _ => n - (intOf i).toNat)
        case atStart => exact ⟨0, Nat.zero_le _, rfl, hold2⟩
        case round =>
          clear hold2
          obtain ⟨j, hj, rfl, hold⟩ := hrel
          by_cases hlt2 : j < n
          · have HR : Hid (RecAt w b off R j) := hR j (by omega)
            have c0 := (hold.below.cell (p := ⟨b, off + j * 5, none⟩) hb).trans HR.out.kd
            have c1 := (hold.below.cell (p := ⟨b, off + j * 5 + 1, none⟩) hb).trans HR.out.tx
            have c2 := (hold.below.cell (p := ⟨b, off + j * 5 + 2, none⟩) hb).trans HR.out.it
            have c3 := (hold.below.cell (p := ⟨b, off + j * 5 + 3, none⟩) hb).trans HR.out.ln
            have c4 := (hold.below.cell (p := ⟨b, off + j * 5 + 4, none⟩) hb).trans HR.out.cl
            have lo := HR.out.lo
            have hi := HR.out.hi
            have hjk : (j : Int) < k := by omega
            obtain ⟨f, hrow, hput⟩ := hold.row
            obtain ⟨q0, q1, q2, q3, q4⟩ := hput j hlt2
            have d0 : wr.cell? ⟨w.heap.size + 3 + 1, j * 5, none⟩ = some (.int .u8 (R.kd j)) := by rw [hrow.cell _ (by omega), q0]
            have d1 : wr.cell? ⟨w.heap.size + 3 + 1, j * 5 + 1, none⟩ = some (.int .u64 (R.tx j)) := by rw [hrow.cell _ (by omega), q1]
            have d2 : wr.cell? ⟨w.heap.size + 3 + 1, j * 5 + 2, none⟩ = some (.string (nm (R.it j))) := by rw [hrow.cell _ (by omega), q2]
            have d3 : wr.cell? ⟨w.heap.size + 3 + 1, j * 5 + 3, none⟩ = some (.int .i64 (R.ln j)) := by rw [hrow.cell _ (by omega), q3]
            have d4 : wr.cell? ⟨w.heap.size + 3 + 1, j * 5 + 4, none⟩ = some (.int .i64 (R.cl j)) := by rw [hrow.cell _ (by omega), q4]
            have hob := hrow.lt
            have hh := hold.head
            have hlb : w.heap.size + 3 < wr.heap.size := by omega
            have hwr : IntKind.i64.wrap (R.it j) = R.it j := by rw [IntKind.wrap_i64]; omega
            have HW : Hid (∀ X Y m, Held w (((wr.alloc X).alloc Y).drewN m) (w.heap.size + 3) (w.heap.size + 3 + 1) n n R) := fun X Y m => ((hold.alloc X).alloc Y).drewN m
            clear q0 q1 q2 q3 q4 hold hput hrow hR
            go_wp2_with fail
            go_quiet ((go_at_call 8; exact Calls.quiet_of_same (name_any _ (by omega) _)))
            go_wp2_with fail
            go_roundw
            case rel => exact ⟨j + 1, by omega, by go_num, HW.out _ _ _⟩
            case measure => simp [intOf]; omega
          · go_wp2_with fail
            go_ret
            exact ⟨rfl, hold.below⟩
      · rw [Nat.min_eq_left (by omega)] at hold hc0
        go_wp2_with (go_at_call 12; refine (len_any (w.heap.size + 3) _ k n (by omega) _ (by assumption) (by assumption)).mono ?_; rintro e w' ⟨rfl, m, rfl⟩)
        have hold2 := hold.drewN m
        clear hold hc0 hc3
        go_loopw [12] (fun i wr => ∃ j : Nat, j ≤ k ∧ i = .int .i64 j ∧ Held w wr (w.heap.size + 3) (w.heap.size + 3 + 1) n k R) (fun i _ => k - (intOf i).toNat)
        case atStart => exact ⟨0, Nat.zero_le _, rfl, hold2⟩
        case round =>
          clear hold2
          obtain ⟨j, hj, rfl, hold⟩ := hrel
          by_cases hlt2 : j < k
          · have HR : Hid (RecAt w b off R j) := hR j (by omega)
            have c0 := (hold.below.cell (p := ⟨b, off + j * 5, none⟩) hb).trans HR.out.kd
            have c1 := (hold.below.cell (p := ⟨b, off + j * 5 + 1, none⟩) hb).trans HR.out.tx
            have c2 := (hold.below.cell (p := ⟨b, off + j * 5 + 2, none⟩) hb).trans HR.out.it
            have c3 := (hold.below.cell (p := ⟨b, off + j * 5 + 3, none⟩) hb).trans HR.out.ln
            have c4 := (hold.below.cell (p := ⟨b, off + j * 5 + 4, none⟩) hb).trans HR.out.cl
            have lo := HR.out.lo
            have hi := HR.out.hi
            have hjk : (j : Int) < k := by omega
            obtain ⟨f, hrow, hput⟩ := hold.row
            obtain ⟨q0, q1, q2, q3, q4⟩ := hput j hlt2
            have d0 : wr.cell? ⟨w.heap.size + 3 + 1, j * 5, none⟩ = some (.int .u8 (R.kd j)) := by rw [hrow.cell _ (by omega), q0]
            have d1 : wr.cell? ⟨w.heap.size + 3 + 1, j * 5 + 1, none⟩ = some (.int .u64 (R.tx j)) := by rw [hrow.cell _ (by omega), q1]
            have d2 : wr.cell? ⟨w.heap.size + 3 + 1, j * 5 + 2, none⟩ = some (.string (nm (R.it j))) := by rw [hrow.cell _ (by omega), q2]
            have d3 : wr.cell? ⟨w.heap.size + 3 + 1, j * 5 + 3, none⟩ = some (.int .i64 (R.ln j)) := by rw [hrow.cell _ (by omega), q3]
            have d4 : wr.cell? ⟨w.heap.size + 3 + 1, j * 5 + 4, none⟩ = some (.int .i64 (R.cl j)) := by rw [hrow.cell _ (by omega), q4]
            have hob := hrow.lt
            have hh := hold.head
            have hlb : w.heap.size + 3 < wr.heap.size := by omega
            have hwr : IntKind.i64.wrap (R.it j) = R.it j := by rw [IntKind.wrap_i64]; omega
            have HW : Hid (∀ X Y m, Held w (((wr.alloc X).alloc Y).drewN m) (w.heap.size + 3) (w.heap.size + 3 + 1) n k R) := fun X Y m => ((hold.alloc X).alloc Y).drewN m
            clear q0 q1 q2 q3 q4 hold hput hrow hR
            go_wp2_with fail
            go_quiet ((go_at_call 8; exact Calls.quiet_of_same (name_any _ (by omega) _)))
            go_wp2_with fail
            go_roundw
            case rel => exact ⟨j + 1, by omega, by go_num, HW.out _ _ _⟩
            case measure => simp [intOf]; omega
          · go_wp2_with fail
            go_ret
            exact ⟨rfl, hold.below⟩
end Go.Proofs.Ybulkccbc
