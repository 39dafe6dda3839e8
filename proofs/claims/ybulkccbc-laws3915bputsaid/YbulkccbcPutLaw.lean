import Derived.Test.YbulkccbcPut
import Derived.Deep.QuietTactic
import Derived.BigQuiet
namespace Go.Proofs.Ybulkccbc
open Go.RowKit

theorem Yba.info53 : (Yba.prog.info? 53).map (fun i => (i.zero, i.size, i.bytes)) = some (some (.agg #[.int .u8 0, .int .u64 0, .string ByteArray.empty, .int .i64 0, .int .i64 0]), 5, 48) := by kernel_rfl

/-- An Op's zero cells. -/
def zOp : Array Value := #[.int .u8 0, .int .u64 0, .string ByteArray.empty, .int .i64 0, .int .i64 0]

/-- The Op that lies at place i ahead of the call. -/
def OldAt (f : Nat → Value) (i : Nat) : Prop := OpAt f i ((i : Int) % 5) ((i : Int) + 1) (nm i) ((i : Int) + 1) (2 * (i : Int) + 1)

theorem old_step (f : Nat → Value) (k : Nat) (h : ∀ i, i < k → OldAt f i) (i : Nat) (hi : i < k + 1) :
    OldAt (opSet f k ((k : Int) % 5) ((k : Int) + 1) (nm k) ((k : Int) + 1) (2 * (k : Int) + 1)) i := by
  by_cases e : i = k
  · subst e; exact opAt_set _ _ _ _ _ _ _
  · exact opAt_kept _ _ _ e _ _ _ _ _ _ _ _ _ _ (h i (by omega))

/-- What the second loop keeps: a round makes one block and draws. -/
theorem round_kept {w wr : World} {v : Value} {n : Nat} {f : Nat → Value} (h1 : w.heap.size + 5 ≤ wr.heap.size) (h2 : Below w.heap.size w wr) (h3 : wr.cell? ⟨w.heap.size + 1 + 1, 0, none⟩ = some v)
    (h4 : RowFn wr w.heap.size 53 n f) (o : Obj) (m : Nat) : w.heap.size + 5 ≤ ((wr.alloc o).drewN m).heap.size ∧ Below w.heap.size w ((wr.alloc o).drewN m) ∧
      ((wr.alloc o).drewN m).cell? ⟨w.heap.size + 1 + 1, 0, none⟩ = some v ∧ RowFn ((wr.alloc o).drewN m) w.heap.size 53 n f := by
  refine ⟨?_, below_drewN (h2.alloc (by omega) _) _, ?_, ?_⟩
  · show _ ≤ (wr.alloc o).heap.size
    simp; omega
  · show (wr.alloc o).cell? _ = _
    rw [World.cell?_alloc_past _ _ _ (by omega)]; exact h3
  · exact (h4.alloc o).of_block rfl

set_option maxRecDepth 100000 in
set_option maxHeartbeats 1000000 in
theorem bput_any (a0 a1 a2 a3 : Int) (a4 : ByteArray) (a5 a6 : Int) (L C : Nat) (hL : a0 % 40 ≤ L) (hL1 : L ≤ a0 % 40) (hL2 : L < 40) (hC : a0 % 40 + a1 % 3 ≤ C) (hC1 : C ≤ a0 % 40 + a1 % 3) (hC2 : L ≤ C) (hC3 : C < 50) (w0 : 0 ≤ a0) (w0' : a0 ≤ 255) (w1 : 0 ≤ a1) (w1' : a1 ≤ 255) (w : World) :
    Calls Yba.prog 4 #[.int .u8 a0, .int .u8 a1, .int .u8 a2, .int .u64 a3, .string a4, .int .i64 a5, .int .i64 a6] w fun e w' => e = .returned (.bool true) ∧ Below w.heap.size w w' := by
  obtain ⟨i0, hi, hz0, hz1, hz2⟩ := info_parts Yba.info53
  have hmk : ∀ w, (Instr.makeSlice 46 (.int .i64 (a0 % 40)) (.int .i64 (a0 % 40 + a1 % 3))).run Yba.prog w = .ok (.slice (some ⟨w.heap.size, 0, none⟩) L C) (w.alloc (.cells (madeCells zOp (C * 5)) 53)) := by
    intro w
    have := run_make (P := Yba.prog) w 46 53 i0 _ Yba.underlying46 hi hz0 .i64 .i64 L C (by omega) (by omega) (by rw [hz2]; omega) (by omega)
    rw [hz1] at this
    rw [Int.toNat_natCast, Int.toNat_natCast] at this
    rw [show a0 % 40 + a1 % 3 = (C : Int) by omega, show a0 % 40 = (L : Int) by omega]
    exact this
  clear hi hz0 hz1 hz2
  go_enter Yba.func4, Yba.ntmps4
  go_wp2
  go_loopw [18] (fun i wr => ∃ k : Nat, k ≤ L ∧ i = .int .i64 k ∧ wr.heap.size = w.heap.size + 1 ∧ Below w.heap.size w wr ∧ ∃ f, RowFn wr w.heap.size 53 (C * 5) f ∧ ∀ i, i < k → OldAt f i)
    (fun i _ => L - (intOf i).toNat)
  case atStart => exact ⟨0, Nat.zero_le _, rfl, by simp, (Below.refl _ _).alloc (Nat.le_refl _) _, _, RowFn.new w _ 53 _ rfl _ (size_madeCells _ _), fun i h => absurd h (Nat.not_lt_zero _)⟩
  case round =>
    obtain ⟨k, hk, rfl, hsz, hbel, f, hrow, hold⟩ := hrel
    by_cases hlt : k < L
    · have hc0 := hrow.cell (k * 5) (by omega)
      have hc1 := hrow.cell (k * 5 + 1) (by omega)
      have hc2 := hrow.cell (k * 5 + 2) (by omega)
      have hc3 := hrow.cell (k * 5 + 3) (by omega)
      have hc4 := hrow.cell (k * 5 + 4) (by omega)
      have hf0 := hrow.frozen (k * 5)
      have hf1 := hrow.frozen (k * 5 + 1)
      have hf2 := hrow.frozen (k * 5 + 2)
      have hf3 := hrow.frozen (k * 5 + 3)
      have hf4 := hrow.frozen (k * 5 + 4)
      go_wp2_with (go_at_call 8; refine (name_any _ (by omega) _).mono ?_; rintro e w' ⟨rfl, rfl⟩)
      go_roundw
      case rel => exact ⟨k + 1, by omega, by go_num, by simpa using hsz, ((((hbel.setCell (Nat.le_refl _) _).setCell (Nat.le_refl _) _).setCell (Nat.le_refl _) _).setCell (Nat.le_refl _) _).setCell (Nat.le_refl _) _, _, ((((hrow.set _ _).set _ _).set _ _).set _ _).set _ _, old_step f k hold⟩
      case measure => simp [intOf]; omega
    · go_wp2_with fail
      by_cases hroom : L < C
      · refine (put_yes (w.heap.size + 1 + 1) w.heap.size L C f a3 a5 a6 7 a2 a4 _ ?_ ?_ hroom (by omega) (by omega) ?_).mono ?_
        · simp [go_sem, hsz]
        · simp [go_sem, hsz]
        · exact ((hrow.alloc _).alloc _).alloc _
        rintro e w1 ⟨rfl, hp⟩
        have hs1 : w1.heap.size = w.heap.size + 5 := by have := hp.size; simp [hsz] at this; exact this
        have hb1 : Below w.heap.size w w1 := (((hbel.alloc (by omega) _).alloc (by simp [hsz]; omega) _).alloc (by simp [hsz]; omega) _).trans (hp.below _ (by omega) (Nat.le_refl _))
        have hd0 := hp.head
        have hd1 : w1.cell? ⟨w.heap.size + 1 + 1, 1, none⟩ = some (.slice none 0 0) := by rw [hp.kept _ _ (by simp [hsz]) (by omega) (by omega)]; simp [go_sem, hsz]
        have hd2 : w1.cell? ⟨w.heap.size + 1 + 1, 2, none⟩ = some (.slice none 0 0) := by rw [hp.kept _ _ (by simp [hsz]) (by omega) (by omega)]; simp [go_sem, hsz]
        have hd3 : w1.cell? ⟨w.heap.size + 1 + 1, 3, none⟩ = some (.int .i64 3) := by rw [hp.kept _ _ (by simp [hsz]) (by omega) (by omega)]; simp [go_sem, hsz]
        have hd4 : w1.cell? ⟨w.heap.size + 1 + 1, 4, none⟩ = some (.slice (some ⟨w.heap.size + 1, 0, none⟩) 1 1) := by rw [hp.kept _ _ (by simp [hsz]) (by omega) (by omega)]; simp [go_sem, hsz]
        have hrow1 := hp.row
        obtain ⟨q0, q1, q2, q3, q4⟩ := opAt_set f L a2 a3 a4 a5 a6
        have hg0 : w1.cell? ⟨w.heap.size, (a0 % 40).toNat * 5, none⟩ = some (.int .u8 a2) := by rw [show (a0 % 40).toNat = L by omega, hrow1.cell _ (by omega), q0]
        have hg1 : w1.cell? ⟨w.heap.size, (a0 % 40).toNat * 5 + 1, none⟩ = some (.int .u64 a3) := by rw [show (a0 % 40).toNat = L by omega, hrow1.cell _ (by omega), q1]
        have hg2 : w1.cell? ⟨w.heap.size, (a0 % 40).toNat * 5 + 2, none⟩ = some (.string a4) := by rw [show (a0 % 40).toNat = L by omega, hrow1.cell _ (by omega), q2]
        have hg3 : w1.cell? ⟨w.heap.size, (a0 % 40).toNat * 5 + 3, none⟩ = some (.int .i64 a5) := by rw [show (a0 % 40).toNat = L by omega, hrow1.cell _ (by omega), q3]
        have hg4 : w1.cell? ⟨w.heap.size, (a0 % 40).toNat * 5 + 4, none⟩ = some (.int .i64 a6) := by rw [show (a0 % 40).toNat = L by omega, hrow1.cell _ (by omega), q4]
        have hold1 : ∀ i, i < L → OldAt (opSet f L a2 a3 a4 a5 a6) i := fun i hi => opAt_kept _ _ _ (by omega) _ _ _ _ _ _ _ _ _ _ (hold i (by omega))
        have t1 : ((C : Int) != a0 % 40 + a1 % 3) = false := by simp; omega
        have t2 : (a0 % 40 + a1 % 3 == a0 % 40) = false := by simp; omega
        have t3 : ((L : Int) + 1 != a0 % 40 + 1) = false := by simp; omega
        clear hp hrow hbel hsz q0 q1 q2 q3 q4 hold
        go_wp2_with fail
        clear hg0 hg1 hg2 hg3 hg4 t1 t2 t3 hmk
        go_loopw [23] (fun i wr => ∃ k : Nat, k ≤ L ∧ i = .int .i64 k ∧ w.heap.size + 5 ≤ wr.heap.size ∧ Below w.heap.size w wr ∧ wr.cell? ⟨w.heap.size + 1 + 1, 0, none⟩ = some (.slice (some ⟨w.heap.size, 0, none⟩) (L + 1) C) ∧ RowFn wr w.heap.size 53 (C * 5) (opSet f L a2 a3 a4 a5 a6))
          (fun i _ => L - (intOf i).toNat)
        case atStart => exact ⟨0, Nat.zero_le _, rfl, by simp [hs1], hb1.alloc (by omega) _, by rw [World.cell?_alloc_past _ _ _ (by omega)]; exact hd0, hrow1.alloc _⟩
        case round =>
          obtain ⟨k, hk, rfl, hsz, hbel, he0, hrow⟩ := hrel
          clear hs1 hb1 hd0 hd1 hd2 hd3 hd4 hrow1
          by_cases hlt : k < L
          · obtain ⟨q0, q1, q2, q3, q4⟩ := hold1 k hlt
            have hg0 : wr.cell? ⟨w.heap.size, k * 5, none⟩ = some (.int .u8 ((k : Int) % 5)) := by rw [hrow.cell _ (by omega), q0]
            have hg1 : wr.cell? ⟨w.heap.size, k * 5 + 1, none⟩ = some (.int .u64 ((k : Int) + 1)) := by rw [hrow.cell _ (by omega), q1]
            have hg2 : wr.cell? ⟨w.heap.size, k * 5 + 2, none⟩ = some (.string (nm k)) := by rw [hrow.cell _ (by omega), q2]
            have hg3 : wr.cell? ⟨w.heap.size, k * 5 + 3, none⟩ = some (.int .i64 ((k : Int) + 1)) := by rw [hrow.cell _ (by omega), q3]
            have hg4 : wr.cell? ⟨w.heap.size, k * 5 + 4, none⟩ = some (.int .i64 (2 * (k : Int) + 1)) := by rw [hrow.cell _ (by omega), q4]
            clear q0 q1 q2 q3 q4
            go_wp2
            go_quiet ((go_at_call 8; exact Calls.quiet_of_same (name_any _ (by omega) _)))
            go_wp2
            go_roundw
            case rel => exact ⟨k + 1, by omega, by go_num, round_kept hsz hbel he0 hrow _ _⟩
            case measure => simp [intOf]; omega
          · go_wp2
            go_ret
            exact ⟨rfl, hbel⟩
      · obtain rfl : C = L := by omega
        refine (put_no (w.heap.size + 1 + 1) w.heap.size C a3 a5 a6 7 a2 a4 _ ?_ (by omega)).mono ?_
        · simp [go_sem, hsz]
        rintro e w1 ⟨rfl, hw1⟩
        have hs1 : w1.heap.size = w.heap.size + 5 := by rw [hw1]; simp [hsz]
        have hb1 : Below w.heap.size w w1 := by rw [hw1]; exact (((hbel.alloc (by omega) _).alloc (by simp [hsz]; omega) _).alloc (by simp [hsz]; omega) _).alloc (by simp [hsz]; omega) _
        have hd0 : w1.cell? ⟨w.heap.size + 1 + 1, 0, none⟩ = some (.slice (some ⟨w.heap.size, 0, none⟩) C C) := by rw [hw1]; simp [go_sem, hsz]
        have hd1 : w1.cell? ⟨w.heap.size + 1 + 1, 1, none⟩ = some (.slice none 0 0) := by rw [hw1]; simp [go_sem, hsz]
        have hd2 : w1.cell? ⟨w.heap.size + 1 + 1, 2, none⟩ = some (.slice none 0 0) := by rw [hw1]; simp [go_sem, hsz]
        have hd3 : w1.cell? ⟨w.heap.size + 1 + 1, 3, none⟩ = some (.int .i64 3) := by rw [hw1]; simp [go_sem, hsz]
        have hd4 : w1.cell? ⟨w.heap.size + 1 + 1, 4, none⟩ = some (.slice (some ⟨w.heap.size + 1, 0, none⟩) 1 1) := by rw [hw1]; simp [go_sem, hsz]
        have hrow1 : RowFn w1 w.heap.size 53 (C * 5) f := by rw [hw1]; exact (((hrow.alloc _).alloc _).alloc _).alloc _
        have hold1 : ∀ i, i < C → OldAt f i := fun i hi => hold i (by omega)
        have t1 : ((C : Int) != a0 % 40 + a1 % 3) = false := by simp; omega
        have t2 : (a0 % 40 + a1 % 3 == a0 % 40) = true := by simp; omega
        have t3 : ((C : Int) != a0 % 40) = false := by simp; omega
        clear hw1 hrow hbel hsz hold
        go_wp2_with fail
        clear t1 t2 t3 hmk
        go_loopw [23] (fun i wr => ∃ k : Nat, k ≤ C ∧ i = .int .i64 k ∧ w.heap.size + 5 ≤ wr.heap.size ∧ Below w.heap.size w wr ∧ wr.cell? ⟨w.heap.size + 1 + 1, 0, none⟩ = some (.slice (some ⟨w.heap.size, 0, none⟩) C C) ∧ RowFn wr w.heap.size 53 (C * 5) f)
          (fun i _ => C - (intOf i).toNat)
        case atStart => exact ⟨0, Nat.zero_le _, rfl, by simp [hs1], hb1, hd0, hrow1⟩
        case round =>
          obtain ⟨k, hk, rfl, hsz, hbel, he0, hrow⟩ := hrel
          clear hs1 hb1 hd0 hd1 hd2 hd3 hd4 hrow1
          by_cases hlt : k < C
          · obtain ⟨q0, q1, q2, q3, q4⟩ := hold1 k hlt
            have hg0 : wr.cell? ⟨w.heap.size, k * 5, none⟩ = some (.int .u8 ((k : Int) % 5)) := by rw [hrow.cell _ (by omega), q0]
            have hg1 : wr.cell? ⟨w.heap.size, k * 5 + 1, none⟩ = some (.int .u64 ((k : Int) + 1)) := by rw [hrow.cell _ (by omega), q1]
            have hg2 : wr.cell? ⟨w.heap.size, k * 5 + 2, none⟩ = some (.string (nm k)) := by rw [hrow.cell _ (by omega), q2]
            have hg3 : wr.cell? ⟨w.heap.size, k * 5 + 3, none⟩ = some (.int .i64 ((k : Int) + 1)) := by rw [hrow.cell _ (by omega), q3]
            have hg4 : wr.cell? ⟨w.heap.size, k * 5 + 4, none⟩ = some (.int .i64 (2 * (k : Int) + 1)) := by rw [hrow.cell _ (by omega), q4]
            clear q0 q1 q2 q3 q4
            go_wp2
            go_quiet ((go_at_call 8; exact Calls.quiet_of_same (name_any _ (by omega) _)))
            go_wp2
            go_roundw
            case rel => exact ⟨k + 1, by omega, by go_num, round_kept hsz hbel he0 hrow _ _⟩
            case measure => simp [intOf]; omega
          · go_wp2
            go_ret
            exact ⟨rfl, hbel⟩
end Go.Proofs.Ybulkccbc
