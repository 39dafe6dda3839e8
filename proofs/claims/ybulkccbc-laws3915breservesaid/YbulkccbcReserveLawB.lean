import Derived.Test.YbulkccbcReserveLaw
namespace Go.Proofs.Ybulkccbc
open Go.RowKit

set_option maxRecDepth 100000 in
set_option maxHeartbeats 4000000 in
theorem res_some_empty (aa : Option Addr) (len cap n : Nat) (a0 : Int) (R : Recs) (hlen0 : len ≤ 0) (hn1 : a0 % 300 ≤ n) (hn2 : n ≤ a0 % 300) (hn : 0 < n) (h0 : 0 ≤ a0) (h1 : a0 ≤ 65535) (w : World) :
    Calls Yba.prog 5 #[.int .u16 a0, .slice aa len cap] w fun e w' => e = .returned (.bool true) ∧ Below w.heap.size w w' := by
  go_enter Yba.func5, Yba.ntmps5
  go_wp2_with (go_at_call 10; refine (new_any _).mono ?_; rintro e w1 ⟨rfl, hb1, hs1⟩)
  refine (reserve_at (w.heap.size + 3) n _ (by omega) hn (by omega) _ ?_ ?_ ?_ ?_ ?_ ?_ ?_ ?_).mono ?_
  · simp [go_sem, hs1]
  · simp [go_sem, hs1]
  · simp [go_sem, hs1]
  · simp [go_sem, hs1]
  · simp [go_sem, hs1]
  · simp [go_sem, hs1]
  · simp [go_sem, hs1]
  · simp [go_sem, hs1]
  rintro e w2 ⟨rfl, r0, r3, rf, rb, f0, hrow0⟩
  rw [World.size_alloc, hs1] at r0 hrow0
  have hold0 : Held w w2 (w.heap.size + 3) (w.heap.size + 3 + 1) n 0 R := ⟨r0, r3, rf, ((hb1.alloc (by omega) _).trans (rb.mono (by omega))), f0, hrow0, fun i h => absurd h (Nat.not_lt_zero _)⟩
  clear r0 r3 rf rb hrow0 hb1 hs1
  go_wp2_with fail
  go_loopw [7] (fun i wr => ∃ k : Nat, k ≤ len ∧ i = .int .i64 k ∧ Held w wr (w.heap.size + 3) (w.heap.size + 3 + 1) n (min k n) R) (fun i _ => len - (intOf i).toNat)
  case atStart => exact ⟨0, Nat.zero_le _, rfl, by rw [Nat.zero_min]; exact hold0⟩
  case round =>
    obtain ⟨k, hk, rfl, hold⟩ := hrel
    clear hold0
    by_cases hlt : k < len
    · exfalso; omega
    · obtain rfl : k = len := by omega
      have hc0 := hold.head
      have hc3 := hold.cnt
      by_cases hmin : n ≤ k
      · exfalso; omega
      · rw [Nat.min_eq_left (by omega)] at hold hc0
        go_wp2_with (go_at_call 12; refine (len_any (w.heap.size + 3) _ k n (by omega) _ (by assumption) (by assumption)).mono ?_; rintro e w' ⟨rfl, m, rfl⟩)
        have hold2 := hold.drewN m
        clear hold hc0 hc3
        go_loopw [12] (fun i wr => ∃ j : Nat, j ≤ k ∧ i = .int .i64 j ∧ Held w wr (w.heap.size + 3) (w.heap.size + 3 + 1) n k R) (fun i _ => k - (intOf i).toNat)
        case atStart => exact ⟨0, Nat.zero_le _, rfl, hold2⟩
        case round =>
          clear hold2
          obtain ⟨j, hj, rfl, hold⟩ := hrel
          by_cases hlt2 : j < k
          · exfalso; omega
          · go_wp2_with fail
            go_ret
            exact ⟨rfl, hold.below⟩
/-- What the law holds of the list where it has no room at all. -/
structure Held0 (w wr : World) (lb : Nat) : Prop where
  head : wr.cell? ⟨lb, 0, none⟩ = some (.slice none 0 0)
  cnt : wr.cell? ⟨lb, 3, none⟩ = some (.int .i64 0)
  below : Below w.heap.size w wr
theorem Held0.alloc {w wr : World} {lb : Nat} (h : Held0 w wr lb) (o : Obj) : Held0 w (wr.alloc o) lb := by
  have hlb : lb < wr.heap.size := World.block_lt_of_cell? wr _ h.head
  exact ⟨by rw [World.cell?_alloc_past _ _ _ hlb]; exact h.head, by rw [World.cell?_alloc_past _ _ _ hlb]; exact h.cnt, h.below.alloc h.below.size o⟩
theorem Held0.drewN {w wr : World} {lb : Nat} (h : Held0 w wr lb) (m : Nat) : Held0 w (wr.drewN m) lb := ⟨h.head, h.cnt, below_drewN h.below m⟩

theorem reserve_zero_at (lb : Nat) (N : Int) (hN : N = 0) (w : World) (h0 : w.cell? ⟨lb, 0, none⟩ = some (.slice none 0 0)) (h3 : w.cell? ⟨lb, 3, none⟩ = some (.int .i64 0)) :
    Calls Yba.prog 11 #[.pointer (some ⟨lb, 0, none⟩), .int .i64 N] w fun e w' => e = .returned (.tuple #[]) ∧ ∃ m, w' = w.drewN m := by
  subst hN; exact reserve_zero lb w h0 h3

set_option maxRecDepth 100000 in
set_option maxHeartbeats 4000000 in
theorem res_zero (b off len cap : Nat) (a0 : Int) (R : Recs) (hlen : len ≤ 1024) (hn1 : a0 % 300 ≤ 0) (h0 : 0 ≤ a0) (h1 : a0 ≤ 65535) (w : World) (hb : b < w.heap.size)
    (hR : ∀ i, i < len → RecAt w b off R i) :
    Calls Yba.prog 5 #[.int .u16 a0, .slice (some ⟨b, off, none⟩) len cap] w fun e w' => e = .returned (.bool true) ∧ Below w.heap.size w w' := by
  go_enter Yba.func5, Yba.ntmps5
  go_wp2_with (go_at_call 10; refine (new_any _).mono ?_; rintro e w1 ⟨rfl, hb1, hs1⟩)
  refine (reserve_zero_at (w.heap.size + 3) _ (by omega) _ ?_ ?_).mono ?_
  · simp [go_sem, hs1]
  · simp [go_sem, hs1]
  rintro e w2 ⟨rfl, m, hw2⟩
  have hold0 : Held0 w w2 (w.heap.size + 3) := ⟨by rw [hw2]; simp [go_sem, hs1], by rw [hw2]; simp [go_sem, hs1], by rw [hw2]; exact below_drewN (hb1.alloc (by omega) _) m⟩
  clear hw2 hb1 hs1
  go_wp2_with fail
  go_loopw [7] (fun i wr => ∃ k : Nat, k ≤ len ∧ i = .int .i64 k ∧ Held0 w wr (w.heap.size + 3)) (fun i _ => len - (intOf i).toNat)
  case atStart => exact ⟨0, Nat.zero_le _, rfl, hold0⟩
  case round =>
    obtain ⟨k, hk, rfl, hold⟩ := hrel
    clear hold0
    by_cases hlt : k < len
    · have HR : Hid (RecAt w b off R k) := hR k hlt
      have c0 := (hold.below.cell (p := ⟨b, off + k * 5, none⟩) hb).trans HR.out.kd
      have c1 := (hold.below.cell (p := ⟨b, off + k * 5 + 1, none⟩) hb).trans HR.out.tx
      have c2 := (hold.below.cell (p := ⟨b, off + k * 5 + 2, none⟩) hb).trans HR.out.it
      have c3 := (hold.below.cell (p := ⟨b, off + k * 5 + 3, none⟩) hb).trans HR.out.ln
      have c4 := (hold.below.cell (p := ⟨b, off + k * 5 + 4, none⟩) hb).trans HR.out.cl
      have lo := HR.out.lo
      have hi := HR.out.hi
      have hki : (k : Int) < len := by omega
      have hsz := World.block_lt_of_cell? wr _ hold.head
      have HW : Hid (∀ X Y, Held0 w ((wr.alloc X).alloc Y).drew (w.heap.size + 3)) := fun X Y => ((hold.alloc X).alloc Y).drewN 1
      have hwr : IntKind.i64.wrap (R.it k) = R.it k := by rw [IntKind.wrap_i64]; omega
      have t1 : decide ((k : Int) < a0 % 300) = false := by simp; omega
      clear hold hR
      go_wp2_with fail
      go_region_with (first | (go_at_call 8; refine (name_any _ (by omega) _).mono ?_; rintro e w' ⟨rfl, rfl⟩) | (go_at_call 9; refine (put_none (w.heap.size + 3) none 0 _ _ _ _ _ _ _ (HW.out _ _).head (by omega)).mono ?_; rintro e w' ⟨rfl, rfl⟩))
      all_goals
        go_wp2_with fail
        go_roundw
        case rel => exact ⟨k + 1, by omega, by go_num, (HW.out _ _).alloc _⟩
        case measure => simp [intOf]; omega
    · obtain rfl : k = len := by omega
      have hc0 := hold.head
      have hc3 := hold.cnt
      go_wp2_with (go_at_call 12; refine (len_any (w.heap.size + 3) none 0 0 (by omega) _ (by assumption) (by assumption)).mono ?_; rintro e w' ⟨rfl, m, rfl⟩)
      refine wp_loop_rounds 1 ?_
      rw [rounds_succ]
      go_wp2_with fail
      go_ret
      exact ⟨rfl, (hold.drewN _).below⟩

set_option maxRecDepth 100000 in
set_option maxHeartbeats 4000000 in
theorem res_zero_empty (aa : Option Addr) (len cap : Nat) (a0 : Int) (hlen0 : len ≤ 0) (hn1 : a0 % 300 ≤ 0) (h0 : 0 ≤ a0) (h1 : a0 ≤ 65535) (w : World) :
    Calls Yba.prog 5 #[.int .u16 a0, .slice aa len cap] w fun e w' => e = .returned (.bool true) ∧ Below w.heap.size w w' := by
  go_enter Yba.func5, Yba.ntmps5
  go_wp2_with (go_at_call 10; refine (new_any _).mono ?_; rintro e w1 ⟨rfl, hb1, hs1⟩)
  refine (reserve_zero_at (w.heap.size + 3) _ (by omega) _ ?_ ?_).mono ?_
  · simp [go_sem, hs1]
  · simp [go_sem, hs1]
  rintro e w2 ⟨rfl, m, hw2⟩
  have hold0 : Held0 w w2 (w.heap.size + 3) := ⟨by rw [hw2]; simp [go_sem, hs1], by rw [hw2]; simp [go_sem, hs1], by rw [hw2]; exact below_drewN (hb1.alloc (by omega) _) m⟩
  clear hw2 hb1 hs1
  go_wp2_with fail
  go_loopw [7] (fun i wr => ∃ k : Nat, k ≤ len ∧ i = .int .i64 k ∧ Held0 w wr (w.heap.size + 3)) (fun i _ => len - (intOf i).toNat)
  case atStart => exact ⟨0, Nat.zero_le _, rfl, hold0⟩
  case round =>
    obtain ⟨k, hk, rfl, hold⟩ := hrel
    clear hold0
    by_cases hlt : k < len
    · exfalso; omega
    · obtain rfl : k = len := by omega
      have hc0 := hold.head
      have hc3 := hold.cnt
      go_wp2_with (go_at_call 12; refine (len_any (w.heap.size + 3) none 0 0 (by omega) _ (by assumption) (by assumption)).mono ?_; rintro e w' ⟨rfl, m, rfl⟩)
      refine wp_loop_rounds 1 ?_
      rw [rounds_succ]
      go_wp2_with fail
      go_ret
      exact ⟨rfl, (hold.drewN _).below⟩

end Go.Proofs.Ybulkccbc
