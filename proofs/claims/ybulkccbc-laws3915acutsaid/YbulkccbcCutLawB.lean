import Derived.Test.YbulkccbcCutLaw
namespace Go.Proofs.Ybulkccbc
open Go.RowKit

set_option maxRecDepth 100000 in
set_option maxHeartbeats 4000000 in
theorem acut_narrow_empty (a0 : Option Addr) (len cap p n : Nat) (D : Nat → Int) (a3 : Int) (hlen0 : len ≤ 0) (hp : p ≤ 255) (hn1 : a3 % ((len : Int) + p + 1) ≤ n) (hn2 : (n : Int) ≤ a3 % ((len : Int) + p + 1)) (hnL : n ≤ len + p)
    (h30 : 0 ≤ a3) (h31 : a3 ≤ 18446744073709551615) (w : World) :
    Calls Yba.prog 3 #[.slice a0 len cap, .int .u8 p, .bool false, .int .u64 a3] w fun e w' => e = .returned (.bool true) ∧ Below w.heap.size w w' := by
  obtain ⟨i0, hi, hz0, hz1, hz2⟩ := info_parts Yba.info26
  have hmk : ∀ w, (Instr.makeSlice 24 (.int .i64 (↑len + ↑p)) (.int .i64 (↑len + ↑p))).run Yba.prog w = .ok (.slice (some ⟨w.heap.size, 0, none⟩) (len + p) (len + p)) (w.alloc (.cells (madeCells z26 ((len + p) * 2)) 26)) := by
    intro w
    have := run_make (P := Yba.prog) w 24 26 i0 _ Yba.underlying24 hi hz0 .i64 .i64 ((len + p : Nat) : Int) ((len + p : Nat) : Int) (by omega) (by omega) (by rw [hz2]; omega) (by omega)
    rw [hz1, Int.toNat_natCast] at this
    simp only [Int.natCast_add] at this
    exact this
  clear hi hz0 hz1 hz2
  go_enter Yba.func3, Yba.ntmps3
  go_wp2_with fail
  clear hmk
  go_loopw [12] (fun i wr => ∃ k : Nat, k ≤ len + p ∧ i = .int .i64 k ∧ wr.heap.size = w.heap.size + 1 ∧ Below w.heap.size w wr ∧ ∃ f, RowFn wr w.heap.size 26 ((len + p) * 2) f ∧ Low D len (len + p) k f)
    (fun i _ => len + p - (intOf i).toNat)
  case atStart => exact ⟨0, Nat.zero_le _, rfl, by simp, (Below.refl _ _).alloc (Nat.le_refl _) _, _, RowFn.new w _ 26 _ rfl _ (size_madeCells _ _), low_start D len (len + p)⟩
  case round =>
    obtain ⟨k, hk, rfl, hsz, hbel, f, hrow, hlow⟩ := hrel
    by_cases hlt : k < len + p
    · have hf0 := hrow.frozen (k * 2)
      have hf1 := hrow.frozen (k * 2 + 1)
      have hc0 := hrow.cell (k * 2) (by omega)
      have hc1 := hrow.cell (k * 2 + 1) (by omega)
      by_cases hd : k < len
      · exfalso; omega
      · go_wp2_with fail
        go_roundw
        case rel => exact ⟨k + 1, by omega, by go_num, by simpa using hsz, hbel.setCell (p := ⟨w.heap.size, k * 2, none⟩) (Nat.le_refl _) _, _, hrow.set (k * 2) _, low_pad hlow hlt hd⟩
        case measure => simp [intOf]; omega
    · go_wp2_with fail
      obtain rfl : k = len + p := by omega
      refine (cut6_narrow_at (w.heap.size + 1) w.heap.size (len + p) n _ (by omega) hnL (by omega) f (low_one hlow n hnL) _ (hrow.alloc _) (by omega) ?_ ?_ ?_).mono ?_
      · simp [go_sem, hsz]
      · simp [go_sem, hsz]
      · simp [go_sem, hsz]
      rintro e w1 ⟨gl, c, rfl, c0, hcut, hkeep, hb1⟩
      have hbw : Below w.heap.size w w1 := (hbel.alloc (by omega) _).trans (hb1.mono (by omega))
      have c1 : w1.cell? ⟨w.heap.size + 1, 1, none⟩ = some (.slice none 0 0) := by rw [hkeep 1 (by decide)]; simp [go_sem, hsz]
      have c2 : w1.cell? ⟨w.heap.size + 1, 2, none⟩ = some (.int .i64 0) := by rw [hkeep 2 (by decide)]; simp [go_sem, hsz]
      have c3 : w1.cell? ⟨w.heap.size + 1, 3, none⟩ = some (.slice none 0 0) := by rw [hkeep 3 (by decide)]; simp [go_sem, hsz]
      have c5 : w1.cell? ⟨w.heap.size + 1, 5, none⟩ = some (.int .i64 0) := by rw [hkeep 5 (by decide)]; simp [go_sem, hsz]
      have c8 : w1.cell? ⟨w.heap.size + 1, 8, none⟩ = some (.slice none 0 0) := by rw [hkeep 8 (by decide)]; simp [go_sem, hsz]
      have c10 : w1.cell? ⟨w.heap.size + 1, 10, none⟩ = some (.int .i64 0) := by rw [hkeep 10 (by decide)]; simp [go_sem, hsz]
      obtain ⟨hyes, hno, hle, htop, f', hrow', hsame⟩ := hcut
      have hlow' : ∀ i, i < n → LowAt D len f' i := fun i hi => by
        obtain ⟨a, b⟩ := hlow.1 i (by omega)
        exact ⟨by rw [hsame _ (by omega)]; exact a, by rw [hsame _ (by omega)]; exact b⟩
      have t1 : ((n : Int) != a3 % ((len : Int) + p + 1)) = false := by simp; omega
      clear hkeep hb1 hrow hlow hbel hsz hsame
      cases hk : keptB (len + p) n with
      | true =>
        obtain ⟨rfl, rfl⟩ := hyes hk
        clear hyes hno 
        go_wp2_with fail
        clear t1
        go_loopw [16] (fun i wr => ∃ k : Nat, k ≤ n ∧ i = .int .i64 k ∧ Same w w1 wr) (fun i _ => n - (intOf i).toNat)
        case atStart => exact ⟨0, Nat.zero_le _, rfl, rfl, hbw⟩
        case round =>
          obtain ⟨k, hkn, rfl, hs⟩ := hrel
          have e0 := (hs.cell ⟨w.heap.size + 1, 0, none⟩).trans c0
          by_cases hlt : k < n
          · have g0 : wr.cell? ⟨w.heap.size, k * 2, none⟩ = some (.int .u64 (W0 D len k)) := by rw [hs.cell, hrow'.cell _ (by omega), (hlow' k hlt).1]
            have g1 : wr.cell? ⟨w.heap.size, k * 2 + 1, none⟩ = some (.int .u64 (W1 D len k)) := by rw [hs.cell, hrow'.cell _ (by omega), (hlow' k hlt).2]
            by_cases hd : k < len
            · exfalso; omega
            · have v0 : W0 D len k = k := if_neg hd
              have v1 : W1 D len k = 0 := if_neg hd
              rw [v0] at g0
              rw [v1] at g1
              clear v0 v1
              go_wp2_with fail
              go_roundw
              case rel => exact ⟨k + 1, by omega, by go_num, hs⟩
              case measure => simp [intOf]; omega
          · have e1 := (hs.cell ⟨w.heap.size + 1, 1, none⟩).trans c1
            have e2 := (hs.cell ⟨w.heap.size + 1, 2, none⟩).trans c2
            have e3 := (hs.cell ⟨w.heap.size + 1, 3, none⟩).trans c3
            have e5 := (hs.cell ⟨w.heap.size + 1, 5, none⟩).trans c5
            have e8 := (hs.cell ⟨w.heap.size + 1, 8, none⟩).trans c8
            have e10 := (hs.cell ⟨w.heap.size + 1, 10, none⟩).trans c10
            have t2 : ((n : Int) != a3 % ((len : Int) + p + 1)) = false := by simp; omega
            clear c0 c1 c2 c3 c5 c8 c10 hbw hlow'
            have hpe := neq_ptr_same
            by_cases hn0 : 0 < n
            · have hp0 : (0 : Int) < a3 % ((len : Int) + p + 1) := by omega
              have hp1 : (0 : Int) < (len : Int) + p := by omega
              have hp2 : 0 < len + p := by omega
              go_wp2_with (go_at_call 7; refine (kept_at (len + p) n _ _ (by omega) (by omega) (by omega) (by omega) true hk _).mono ?_; rintro e w' ⟨rfl, rfl⟩)
              go_quiet (fail)
              go_wp2_with fail
              go_ret
              exact ⟨rfl, (hs.drewN _).2⟩
            · have hp0 : decide ((0 : Int) < a3 % ((len : Int) + p + 1)) = false := by simp; omega
              go_wp2_with (go_at_call 7; refine (kept_at (len + p) n _ _ (by omega) (by omega) (by omega) (by omega) true hk _).mono ?_; rintro e w' ⟨rfl, rfl⟩)
              go_quiet (fail)
              go_wp2_with fail
              go_ret
              exact ⟨rfl, (hs.drewN _).2⟩
      | false =>
        obtain rfl := hno hk
        clear hyes hno 
        go_wp2_with fail
        clear t1
        go_loopw [16] (fun i wr => ∃ k : Nat, k ≤ n ∧ i = .int .i64 k ∧ Same w w1 wr) (fun i _ => n - (intOf i).toNat)
        case atStart => exact ⟨0, Nat.zero_le _, rfl, rfl, hbw⟩
        case round =>
          obtain ⟨k, hkn, rfl, hs⟩ := hrel
          have e0 := (hs.cell ⟨w.heap.size + 1, 0, none⟩).trans c0
          by_cases hlt : k < n
          · have g0 : wr.cell? ⟨gl, k * 2, none⟩ = some (.int .u64 (W0 D len k)) := by rw [hs.cell, hrow'.cell _ (by omega), (hlow' k hlt).1]
            have g1 : wr.cell? ⟨gl, k * 2 + 1, none⟩ = some (.int .u64 (W1 D len k)) := by rw [hs.cell, hrow'.cell _ (by omega), (hlow' k hlt).2]
            by_cases hd : k < len
            · exfalso; omega
            · have v0 : W0 D len k = k := if_neg hd
              have v1 : W1 D len k = 0 := if_neg hd
              rw [v0] at g0
              rw [v1] at g1
              clear v0 v1
              go_wp2_with fail
              go_roundw
              case rel => exact ⟨k + 1, by omega, by go_num, hs⟩
              case measure => simp [intOf]; omega
          · have e1 := (hs.cell ⟨w.heap.size + 1, 1, none⟩).trans c1
            have e2 := (hs.cell ⟨w.heap.size + 1, 2, none⟩).trans c2
            have e3 := (hs.cell ⟨w.heap.size + 1, 3, none⟩).trans c3
            have e5 := (hs.cell ⟨w.heap.size + 1, 5, none⟩).trans c5
            have e8 := (hs.cell ⟨w.heap.size + 1, 8, none⟩).trans c8
            have e10 := (hs.cell ⟨w.heap.size + 1, 10, none⟩).trans c10
            have t2 : ((n : Int) != a3 % ((len : Int) + p + 1)) = false := by simp; omega
            have t3 : (2 * (n : Int) != 2 * (a3 % ((len : Int) + p + 1))) = false := by simp; omega
            clear c0 c1 c2 c3 c5 c8 c10 hbw hlow'
            go_wp2_with (go_at_call 7; refine (kept_at (len + p) n _ _ (by omega) (by omega) (by omega) (by omega) false hk _).mono ?_; rintro e w' ⟨rfl, rfl⟩)
            go_ret
            exact ⟨rfl, hs.2⟩

end Go.Proofs.Ybulkccbc
