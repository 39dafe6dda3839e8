import Derived.Test.YbulkccbcCutLaw
namespace Go.Proofs.Ybulkccbc
open Go.RowKit

set_option maxRecDepth 100000 in
set_option maxHeartbeats 4000000 in
theorem acut_wide (b off : Nat) (len cap p n : Nat) (D : Nat → Int) (a3 : Int) (hlen : len ≤ 1024) (hp : p ≤ 255) (hn1 : a3 % ((len : Int) + p + 1) ≤ n) (hn2 : (n : Int) ≤ a3 % ((len : Int) + p + 1)) (hnL : n ≤ len + p)
    (h30 : 0 ≤ a3) (h31 : a3 ≤ 18446744073709551615) (w : World)(hb : b < w.heap.size)
    (hD : ∀ i, i < len → w.cell? ⟨b, off + i, none⟩ = some (.int .u64 (D i))) (hD0 : ∀ i, i < len → 0 ≤ D i ∧ D i ≤ 18446744073709551615) :
    Calls Yba.prog 3 #[.slice (some ⟨b, off, none⟩) len cap, .int .u8 p, .bool true, .int .u64 a3] w fun e w' => e = .returned (.bool true) ∧ Below w.heap.size w w' := by
  obtain ⟨i0, hi, hz0, hz1, hz2⟩ := info_parts Yba.info26
  have hmk : ∀ w, (Instr.makeSlice 24 (.int .i64 (↑len + ↑p)) (.int .i64 (↑len + ↑p))).run Yba.prog w = .ok (.slice (some ⟨w.heap.size, 0, none⟩) (len + p) (len + p)) (w.alloc (.cells (madeCells z26 ((len + p) * 2)) 26)) := by
    intro w
    have := run_make (P := Yba.prog) w 24 26 i0 _ Yba.underlying24 hi hz0 .i64 .i64 ((len + p : Nat) : Int) ((len + p : Nat) : Int) (by omega) (by omega) (by rw [hz2]; omega) (by omega)
    rw [hz1, Int.toNat_natCast] at this
    simp only [Int.natCast_add] at this
    exact this
  clear hi hz0 hz1 hz2
  obtain ⟨i1, hi, hz0, hz1, hz2⟩ := info_parts Yba.info41
  have hmk2 : ∀ w, (Instr.makeSlice 28 (.int .i64 (↑len + ↑p)) (.int .i64 (↑len + ↑p))).run Yba.prog w = .ok (.slice (some ⟨w.heap.size, 0, none⟩) (len + p) (len + p)) (w.alloc (.cells (madeCells z41 ((len + p) * 8)) 41)) := by
    intro w
    have := run_make (P := Yba.prog) w 28 41 i1 _ Yba.underlying28 hi hz0 .i64 .i64 ((len + p : Nat) : Int) ((len + p : Nat) : Int) (by omega) (by omega) (by rw [hz2]; omega) (by omega)
    rw [hz1, Int.toNat_natCast] at this
    simp only [Int.natCast_add] at this
    exact this
  clear hi hz0 hz1 hz2
  go_enter Yba.func3, Yba.ntmps3
  go_wp2_with fail
  clear hmk
  go_loopw [12] (fun i wr => ∃ k : Nat, k ≤ len + p ∧ i = .int .i64 k ∧ wr.heap.size = w.heap.size + 1 ∧ Below w.heap.size w wr ∧ ∃ f, RowFn wr w.heap.size 26 ((len + p) * 2) f ∧ Low D len (len + p) k f)
    (fun i _ => len + p - (intOf i).toNat)
  case atStart => exact ⟨0, Nat.zero_le _, rfl, by simp, (Below.refl _ _).alloc (Nat.le_refl _) _, _, RowFn.new w _ 26 _ rfl _ (size_madeCells _ _), low_start D len (len + p)⟩
  case round =>
    obtain ⟨k, hk, rfl, hsz, hbel, f, hrow, hlow⟩ := hrel
    by_cases hlt : k < len + p
    · have hf0 := hrow.frozen (k * 2)
      have hf1 := hrow.frozen (k * 2 + 1)
      have hc0 := hrow.cell (k * 2) (by omega)
      have hc1 := hrow.cell (k * 2 + 1) (by omega)
      by_cases hd : k < len
      · have hDk := hD k hd
        have hDr : wr.cell? ⟨b, off + k, none⟩ = some (.int .u64 (D k)) := (hbel.cell (by exact hb)).trans hDk
        obtain ⟨d0, d1⟩ := hD0 k hd
        have hki : (k : Int) < len := by omega
        have hkl : (k : Int) < (len : Int) + p := by omega
        go_wp2_with fail
        go_region
        go_wp2_with fail
        go_region
        go_wp2_with fail
        go_roundw
        case rel => exact ⟨k + 1, by omega, by go_num, by simpa using hsz, (((hbel.setCell (p := ⟨w.heap.size, k * 2, none⟩) (Nat.le_refl _) _).setCell (p := ⟨w.heap.size, k * 2 + 1, none⟩) (Nat.le_refl _) _).drew).drew, _, ((hrow.set (k * 2) _).set (k * 2 + 1) _).drew.drew, low_data hlow hd⟩
        case measure => simp [intOf]; omega
      · go_wp2_with fail
        go_roundw
        case rel => exact ⟨k + 1, by omega, by go_num, by simpa using hsz, hbel.setCell (p := ⟨w.heap.size, k * 2, none⟩) (Nat.le_refl _) _, _, hrow.set (k * 2) _, low_pad hlow hlt hd⟩
        case measure => simp [intOf]; omega
    · go_wp2_with fail
      obtain rfl : k = len + p := by omega
      clear hmk2
      obtain ⟨wb, hwb⟩ : ∃ wb, wb = wr.alloc (.cells (aCells w.heap.size (len + p)) 37) := ⟨_, rfl⟩
      have hszb : wb.heap.size = w.heap.size + 2 := by rw [hwb]; simp [hsz]
      have hbelb : Below w.heap.size w wb := by rw [hwb]; exact hbel.alloc (by omega) _
      have hrowb : RowFn wb w.heap.size 26 ((len + p) * 2) f := by rw [hwb]; exact hrow.alloc _
      have hrowa : RowFn wb (w.heap.size + 1) 37 13 (fun j => (aCells w.heap.size (len + p)).getD j undef) := by rw [hwb]; exact RowFn.new wr _ 37 _ hsz.symm 13 rfl
      clear hrow hbel
      go_loopw [15] (fun i wr => ∃ k : Nat, k ≤ len + p ∧ i = .int .i64 k ∧ wr.heap.size = w.heap.size + 3 ∧ Below w.heap.size w wr ∧ RowFn wr w.heap.size 26 ((len + p) * 2) f ∧ RowFn wr (w.heap.size + 1) 37 13 (fun j => (aCells w.heap.size (len + p)).getD j undef) ∧
          ∃ fh, RowFn wr (w.heap.size + 2) 41 ((len + p) * 8) fh ∧ ∀ i, i < k → HighAt fh i)
        (fun i _ => len + p - (intOf i).toNat)
      case atStart =>
        rw [show (wr.alloc (Obj.cells #[Value.slice (some { block := w.heap.size, off := 0 }) (len + p) (len + p), Value.slice none 0 0, Value.int IntKind.i64 0, Value.slice none 0 0, Value.int IntKind.i64 0, Value.int IntKind.i64 0, Value.slice none 0 0, Value.int IntKind.i64 0, Value.slice none 0 0, Value.int IntKind.i64 0, Value.int IntKind.i64 0, Value.slice none 0 0, Value.int IntKind.i64 0] 37)) = wb from hwb.symm]
        exact ⟨0, Nat.zero_le _, rfl, by simp [hszb], hbelb.alloc (by omega) _, hrowb.alloc _, hrowa.alloc _, _, RowFn.new wb _ 41 _ (by rw [hszb]) _ (size_madeCells _ _), fun i h => absurd h (Nat.not_lt_zero _)⟩
      case round =>
        clear hwb hszb hbelb hrowb hrowa hsz
        clear wb
        obtain ⟨k, hk, rfl, hsz, hbel, hrow, hrowa, fh, hrowh, hhigh⟩ := hrel
        by_cases hlt : k < len + p
        · have hf0 := hrowh.frozen (k * 8)
          have hc0 := hrowh.cell (k * 8) (by omega)
          have hf1 := hrowh.frozen (k * 8 + 1)
          have hc1 := hrowh.cell (k * 8 + 1) (by omega)
          have hf2 := hrowh.frozen (k * 8 + 2)
          have hc2 := hrowh.cell (k * 8 + 2) (by omega)
          have hf3 := hrowh.frozen (k * 8 + 3)
          have hc3 := hrowh.cell (k * 8 + 3) (by omega)
          have hf4 := hrowh.frozen (k * 8 + 4)
          have hc4 := hrowh.cell (k * 8 + 4) (by omega)
          have hf5 := hrowh.frozen (k * 8 + 5)
          have hc5 := hrowh.cell (k * 8 + 5) (by omega)
          have hf6 := hrowh.frozen (k * 8 + 6)
          have hc6 := hrowh.cell (k * 8 + 6) (by omega)
          have hf7 := hrowh.frozen (k * 8 + 7)
          have hc7 := hrowh.cell (k * 8 + 7) (by omega)
          go_wp2_with fail
          go_roundw
          case rel => exact ⟨k + 1, by omega, by go_num, by simpa using hsz, ((((((((hbel.setCell (p := ⟨w.heap.size + 2, k * 8, none⟩) (Nat.le_add_right _ _) _).setCell (p := ⟨w.heap.size + 2, k * 8 + 1, none⟩) (Nat.le_add_right _ _) _).setCell (p := ⟨w.heap.size + 2, k * 8 + 2, none⟩) (Nat.le_add_right _ _) _).setCell (p := ⟨w.heap.size + 2, k * 8 + 3, none⟩) (Nat.le_add_right _ _) _).setCell (p := ⟨w.heap.size + 2, k * 8 + 4, none⟩) (Nat.le_add_right _ _) _).setCell (p := ⟨w.heap.size + 2, k * 8 + 5, none⟩) (Nat.le_add_right _ _) _).setCell (p := ⟨w.heap.size + 2, k * 8 + 6, none⟩) (Nat.le_add_right _ _) _).setCell (p := ⟨w.heap.size + 2, k * 8 + 7, none⟩) (Nat.le_add_right _ _) _), ((((((((hrow.other _ _ (show w.heap.size ≠ w.heap.size + 2 by omega)).other _ _ (show w.heap.size ≠ w.heap.size + 2 by omega)).other _ _ (show w.heap.size ≠ w.heap.size + 2 by omega)).other _ _ (show w.heap.size ≠ w.heap.size + 2 by omega)).other _ _ (show w.heap.size ≠ w.heap.size + 2 by omega)).other _ _ (show w.heap.size ≠ w.heap.size + 2 by omega)).other _ _ (show w.heap.size ≠ w.heap.size + 2 by omega)).other _ _ (show w.heap.size ≠ w.heap.size + 2 by omega)), ((((((((hrowa.other _ _ (show w.heap.size + 1 ≠ w.heap.size + 2 by omega)).other _ _ (show w.heap.size + 1 ≠ w.heap.size + 2 by omega)).other _ _ (show w.heap.size + 1 ≠ w.heap.size + 2 by omega)).other _ _ (show w.heap.size + 1 ≠ w.heap.size + 2 by omega)).other _ _ (show w.heap.size + 1 ≠ w.heap.size + 2 by omega)).other _ _ (show w.heap.size + 1 ≠ w.heap.size + 2 by omega)).other _ _ (show w.heap.size + 1 ≠ w.heap.size + 2 by omega)).other _ _ (show w.heap.size + 1 ≠ w.heap.size + 2 by omega)), _, ((((((((hrowh.set _ _).set _ _).set _ _).set _ _).set _ _).set _ _).set _ _).set _ _), high_step fh k hhigh⟩
          case measure => simp [intOf]; omega
        · obtain rfl : k = len + p := by omega
          have hc1 : wr.cell? ⟨w.heap.size + 1, 1, none⟩ = some (.slice none 0 0) := hrowa.cell 1 (by omega)
          have hc2 : wr.cell? ⟨w.heap.size + 1, 2, none⟩ = some (.int .i64 0) := hrowa.cell 2 (by omega)
          have hf1 := hrowa.frozen 1
          have hf2 := hrowa.frozen 2
          go_wp2_with fail
          refine (cut6_wide_at (w.heap.size + 1) w.heap.size (w.heap.size + 2) (len + p) n _ (by omega) hnL (by omega) f fh (low_one hlow n hnL) (high_one hhigh n hnL) _ ((hrow.other _ _ (by simp)).other _ _ (by simp)) (by omega) ((hrowh.other _ _ (by simp)).other _ _ (by simp)) (by omega) (((hrowa.set 1 _).set 2 _).cell 0 (by omega)) (((hrowa.set 1 _).set 2 _).frozen 0) (((hrowa.set 1 _).set 2 _).cell 2 (by omega)) (((hrowa.set 1 _).set 2 _).cell 1 (by omega)) (((hrowa.set 1 _).set 2 _).frozen 1)).mono ?_
          rintro e w1 ⟨gl, c, gk, d, rfl, c0, hcut, c1, hcuth, hkeep, hb1⟩
          have hbw : Below w.heap.size w w1 := ((hbel.setCell (p := ⟨w.heap.size + 1, 1, none⟩) (Nat.le_succ _) _).setCell (p := ⟨w.heap.size + 1, 2, none⟩) (Nat.le_succ _) _).trans (hb1.mono (by omega))
          have c2 : w1.cell? ⟨w.heap.size + 1, 2, none⟩ = some (.int .i64 1) := (hkeep 2 (by decide) (by decide)).trans (((hrowa.set 1 _).set 2 _).cell 2 (by omega))
          have c3 : w1.cell? ⟨w.heap.size + 1, 3, none⟩ = some (.slice none 0 0) := by exact (hkeep 3 (by decide) (by decide)).trans (((hrowa.set 1 _).set 2 _).cell 3 (by omega))
          have c5 : w1.cell? ⟨w.heap.size + 1, 5, none⟩ = some (.int .i64 0) := by exact (hkeep 5 (by decide) (by decide)).trans (((hrowa.set 1 _).set 2 _).cell 5 (by omega))
          have c8 : w1.cell? ⟨w.heap.size + 1, 8, none⟩ = some (.slice none 0 0) := by exact (hkeep 8 (by decide) (by decide)).trans (((hrowa.set 1 _).set 2 _).cell 8 (by omega))
          have c10 : w1.cell? ⟨w.heap.size + 1, 10, none⟩ = some (.int .i64 0) := by exact (hkeep 10 (by decide) (by decide)).trans (((hrowa.set 1 _).set 2 _).cell 10 (by omega))
          obtain ⟨hyes, hno, hle, htop, f', hrow', hsame⟩ := hcut
          have hlow' : ∀ i, i < n → LowAt D len f' i := fun i hi => by
            obtain ⟨a, b⟩ := hlow.1 i (by omega)
            exact ⟨by rw [hsame _ (by omega)]; exact a, by rw [hsame _ (by omega)]; exact b⟩
          have t1 : ((n : Int) != a3 % ((len : Int) + p + 1)) = false := by simp; omega
          obtain ⟨hyesh, hnoh, hleh, htoph, fh', hrowh', hsameh⟩ := hcuth
          have hhigh' : ∀ i, i < n → HighAt fh' i := fun i hi => by
            obtain ⟨a0, a1, a2, a3, a4, a5, a6, a7⟩ := hhigh i (by omega)
            exact ⟨by rw [hsameh _ (by omega)]; exact a0, by rw [hsameh _ (by omega)]; exact a1, by rw [hsameh _ (by omega)]; exact a2, by rw [hsameh _ (by omega)]; exact a3, by rw [hsameh _ (by omega)]; exact a4, by rw [hsameh _ (by omega)]; exact a5, by rw [hsameh _ (by omega)]; exact a6, by rw [hsameh _ (by omega)]; exact a7⟩
          clear hkeep hb1 hrow hlow hbel hsz hsame hrowa hrowh hhigh hsameh hc1 hc2 hf1 hf2
          cases hk : keptB (len + p) n with
          | true =>
            obtain ⟨rfl, rfl⟩ := hyes hk
            obtain ⟨rfl, rfl⟩ := hyesh hk
            clear hyes hno hyesh hnoh
            go_wp2_with fail
            clear t1
            go_loopw [16] (fun i wr => ∃ k : Nat, k ≤ n ∧ i = .int .i64 k ∧ Same w w1 wr) (fun i _ => n - (intOf i).toNat)
            case atStart => exact ⟨0, Nat.zero_le _, rfl, rfl, hbw⟩
            case round =>
              obtain ⟨k, hkn, rfl, hs⟩ := hrel
              have e0 := (hs.cell ⟨w.heap.size + 1, 0, none⟩).trans c0
              by_cases hlt : k < n
              · have g0 : wr.cell? ⟨w.heap.size, k * 2, none⟩ = some (.int .u64 (W0 D len k)) := by rw [hs.cell, hrow'.cell _ (by omega), (hlow' k hlt).1]
                have g1 : wr.cell? ⟨w.heap.size, k * 2 + 1, none⟩ = some (.int .u64 (W1 D len k)) := by rw [hs.cell, hrow'.cell _ (by omega), (hlow' k hlt).2]
                by_cases hd : k < len
                · have hDr : wr.cell? ⟨b, off + k, none⟩ = some (.int .u64 (D k)) := (hs.2.cell (by exact hb)).trans (hD k hd)
                  have v0 : W0 D len k = D k := if_pos hd
                  have v1 : W1 D len k = bits BinOp.xor IntKind.u64 (if IntKind.u64.signed = true then -1 else IntKind.u64.max) (D k) := if_pos hd
                  rw [v0] at g0
                  rw [v1] at g1
                  clear v0 v1
                  have hki : (k : Int) < len := by omega
                  go_wp2_with fail
                  go_quiet (fail)
                  go_wp2_with fail
                  go_roundw
                  case rel => exact ⟨k + 1, by omega, by go_num, hs.drewN _⟩
                  case measure => simp [intOf]; omega
                · have v0 : W0 D len k = k := if_neg hd
                  have v1 : W1 D len k = 0 := if_neg hd
                  rw [v0] at g0
                  rw [v1] at g1
                  clear v0 v1
                  go_wp2_with fail
                  go_roundw
                  case rel => exact ⟨k + 1, by omega, by go_num, hs⟩
                  case measure => simp [intOf]; omega
              · have e1 := (hs.cell ⟨w.heap.size + 1, 1, none⟩).trans c1
                have e2 := (hs.cell ⟨w.heap.size + 1, 2, none⟩).trans c2
                have e3 := (hs.cell ⟨w.heap.size + 1, 3, none⟩).trans c3
                have e5 := (hs.cell ⟨w.heap.size + 1, 5, none⟩).trans c5
                have e8 := (hs.cell ⟨w.heap.size + 1, 8, none⟩).trans c8
                have e10 := (hs.cell ⟨w.heap.size + 1, 10, none⟩).trans c10
                have t2 : ((n : Int) != a3 % ((len : Int) + p + 1)) = false := by simp; omega
                have hrowa1 : w.heap.size + 1 < w1.heap.size := World.block_lt_of_cell? w1 _ c0
                have hpe := neq_ptr_same
                by_cases hn0 : 0 < n
                · have hp0 : (0 : Int) < a3 % ((len : Int) + p + 1) := by omega
                  have hp1 : (0 : Int) < (len : Int) + p := by omega
                  have hp2 : 0 < len + p := by omega
                  go_wp2_with (go_at_call 7; refine (kept_at (len + p) n _ _ (by omega) (by omega) (by omega) (by omega) true hk _).mono ?_; rintro e w' ⟨rfl, rfl⟩)
                  go_quiet (fail)
                  go_wp2_with fail
                  have hs2 := ((hs.drewN nq).to2 hbw)
                  clear e0 e1 e2 e3 e5 e8 e10
                  go_loopw [19] (fun i wr => ∃ k : Nat, k ≤ n ∧ i = .int .i64 k ∧ Same2 w w1 wr) (fun i _ => n - (intOf i).toNat)
                  case atStart => exact ⟨0, Nat.zero_le _, rfl, hs2⟩
                  case round =>
                    clear hs2 hs
                    obtain ⟨k, hkn, rfl, hs⟩ := hrel
                    have hlt1 := hrowa1
                    have e1 := (hs.cell ⟨w.heap.size + 1, 1, none⟩ hlt1).trans c1
                    by_cases hlt : k < n
                    · obtain ⟨q0, q1, q2, q3, q4, q5, q6, q7⟩ := hhigh' k hlt
                      have g0 : wr.cell? ⟨w.heap.size + 2, k * 8, none⟩ = some (.int .i32 k) := by rw [hs.cell _ hrowh'.lt, hrowh'.cell _ (by omega), q0]
                      have g1 : wr.cell? ⟨w.heap.size + 2, k * 8 + 1, none⟩ = some (.int .u64 ((k : Int) + 1)) := by rw [hs.cell _ hrowh'.lt, hrowh'.cell _ (by omega), q1]
                      have g2 : wr.cell? ⟨w.heap.size + 2, k * 8 + 2, none⟩ = some (.int .i32 k) := by rw [hs.cell _ hrowh'.lt, hrowh'.cell _ (by omega), q2]
                      have g3 : wr.cell? ⟨w.heap.size + 2, k * 8 + 3, none⟩ = some (.int .i32 0) := by rw [hs.cell _ hrowh'.lt, hrowh'.cell _ (by omega), q3]
                      have g4 : wr.cell? ⟨w.heap.size + 2, k * 8 + 4, none⟩ = some (.int .i32 1) := by rw [hs.cell _ hrowh'.lt, hrowh'.cell _ (by omega), q4]
                      have g5 : wr.cell? ⟨w.heap.size + 2, k * 8 + 5, none⟩ = some (.int .i32 1) := by rw [hs.cell _ hrowh'.lt, hrowh'.cell _ (by omega), q5]
                      have g6 : wr.cell? ⟨w.heap.size + 2, k * 8 + 6, none⟩ = some (.int .i32 0) := by rw [hs.cell _ hrowh'.lt, hrowh'.cell _ (by omega), q6]
                      have g7 : wr.cell? ⟨w.heap.size + 2, k * 8 + 7, none⟩ = some (.int .i32 1) := by rw [hs.cell _ hrowh'.lt, hrowh'.cell _ (by omega), q7]
                      clear q0 q1 q2 q3 q4 q5 q6 q7
                      go_wp2_with fail
                      go_roundw
                      case rel => exact ⟨k + 1, by omega, by go_num, hs.alloc hbw.size _⟩
                      case measure => simp [intOf]; omega
                    · have e3 := (hs.cell ⟨w.heap.size + 1, 3, none⟩ hlt1).trans c3
                      have e5 := (hs.cell ⟨w.heap.size + 1, 5, none⟩ hlt1).trans c5
                      have e8 := (hs.cell ⟨w.heap.size + 1, 8, none⟩ hlt1).trans c8
                      have e10 := (hs.cell ⟨w.heap.size + 1, 10, none⟩ hlt1).trans c10
                      go_wp2_with (go_at_call 7; refine (kept_at (len + p) n _ _ (by omega) (by omega) (by omega) (by omega) true hk _).mono ?_; rintro e w' ⟨rfl, rfl⟩)
                      go_ret
                      exact ⟨rfl, hs.2⟩
                · have hp0 : decide ((0 : Int) < a3 % ((len : Int) + p + 1)) = false := by simp; omega
                  go_wp2_with (go_at_call 7; refine (kept_at (len + p) n _ _ (by omega) (by omega) (by omega) (by omega) true hk _).mono ?_; rintro e w' ⟨rfl, rfl⟩)
                  go_quiet (fail)
                  go_wp2_with fail
                  have hs2 := ((hs.drewN nq).to2 hbw)
                  clear e0 e1 e2 e3 e5 e8 e10
                  go_loopw [19] (fun i wr => ∃ k : Nat, k ≤ n ∧ i = .int .i64 k ∧ Same2 w w1 wr) (fun i _ => n - (intOf i).toNat)
                  case atStart => exact ⟨0, Nat.zero_le _, rfl, hs2⟩
                  case round =>
                    clear hs2 hs
                    obtain ⟨k, hkn, rfl, hs⟩ := hrel
                    have hlt1 := hrowa1
                    have e1 := (hs.cell ⟨w.heap.size + 1, 1, none⟩ hlt1).trans c1
                    by_cases hlt : k < n
                    · exfalso; omega
                    · have e3 := (hs.cell ⟨w.heap.size + 1, 3, none⟩ hlt1).trans c3
                      have e5 := (hs.cell ⟨w.heap.size + 1, 5, none⟩ hlt1).trans c5
                      have e8 := (hs.cell ⟨w.heap.size + 1, 8, none⟩ hlt1).trans c8
                      have e10 := (hs.cell ⟨w.heap.size + 1, 10, none⟩ hlt1).trans c10
                      go_wp2_with (go_at_call 7; refine (kept_at (len + p) n _ _ (by omega) (by omega) (by omega) (by omega) true hk _).mono ?_; rintro e w' ⟨rfl, rfl⟩)
                      go_ret
                      exact ⟨rfl, hs.2⟩
          | false =>
            obtain rfl := hno hk
            obtain rfl := hnoh hk
            clear hyes hno hyesh hnoh
            go_wp2_with fail
            clear t1
            go_loopw [16] (fun i wr => ∃ k : Nat, k ≤ n ∧ i = .int .i64 k ∧ Same w w1 wr) (fun i _ => n - (intOf i).toNat)
            case atStart => exact ⟨0, Nat.zero_le _, rfl, rfl, hbw⟩
            case round =>
              obtain ⟨k, hkn, rfl, hs⟩ := hrel
              have e0 := (hs.cell ⟨w.heap.size + 1, 0, none⟩).trans c0
              by_cases hlt : k < n
              · have g0 : wr.cell? ⟨gl, k * 2, none⟩ = some (.int .u64 (W0 D len k)) := by rw [hs.cell, hrow'.cell _ (by omega), (hlow' k hlt).1]
                have g1 : wr.cell? ⟨gl, k * 2 + 1, none⟩ = some (.int .u64 (W1 D len k)) := by rw [hs.cell, hrow'.cell _ (by omega), (hlow' k hlt).2]
                by_cases hd : k < len
                · have hDr : wr.cell? ⟨b, off + k, none⟩ = some (.int .u64 (D k)) := (hs.2.cell (by exact hb)).trans (hD k hd)
                  have v0 : W0 D len k = D k := if_pos hd
                  have v1 : W1 D len k = bits BinOp.xor IntKind.u64 (if IntKind.u64.signed = true then -1 else IntKind.u64.max) (D k) := if_pos hd
                  rw [v0] at g0
                  rw [v1] at g1
                  clear v0 v1
                  have hki : (k : Int) < len := by omega
                  go_wp2_with fail
                  go_quiet (fail)
                  go_wp2_with fail
                  go_roundw
                  case rel => exact ⟨k + 1, by omega, by go_num, hs.drewN _⟩
                  case measure => simp [intOf]; omega
                · have v0 : W0 D len k = k := if_neg hd
                  have v1 : W1 D len k = 0 := if_neg hd
                  rw [v0] at g0
                  rw [v1] at g1
                  clear v0 v1
                  go_wp2_with fail
                  go_roundw
                  case rel => exact ⟨k + 1, by omega, by go_num, hs⟩
                  case measure => simp [intOf]; omega
              · have e1 := (hs.cell ⟨w.heap.size + 1, 1, none⟩).trans c1
                have e2 := (hs.cell ⟨w.heap.size + 1, 2, none⟩).trans c2
                have e3 := (hs.cell ⟨w.heap.size + 1, 3, none⟩).trans c3
                have e5 := (hs.cell ⟨w.heap.size + 1, 5, none⟩).trans c5
                have e8 := (hs.cell ⟨w.heap.size + 1, 8, none⟩).trans c8
                have e10 := (hs.cell ⟨w.heap.size + 1, 10, none⟩).trans c10
                have t2 : ((n : Int) != a3 % ((len : Int) + p + 1)) = false := by simp; omega
                have t3 : (2 * (n : Int) != 2 * (a3 % ((len : Int) + p + 1))) = false := by simp; omega
                have hrowa1 : w.heap.size + 1 < w1.heap.size := World.block_lt_of_cell? w1 _ c0
                go_wp2_with (go_at_call 7; refine (kept_at (len + p) n _ _ (by omega) (by omega) (by omega) (by omega) false hk _).mono ?_; rintro e w' ⟨rfl, rfl⟩)
                have hs2 := ((hs).to2 hbw)
                clear e0 e1 e2 e3 e5 e8 e10
                go_loopw [19] (fun i wr => ∃ k : Nat, k ≤ n ∧ i = .int .i64 k ∧ Same2 w w1 wr) (fun i _ => n - (intOf i).toNat)
                case atStart => exact ⟨0, Nat.zero_le _, rfl, hs2⟩
                case round =>
                  clear hs2 hs
                  obtain ⟨k, hkn, rfl, hs⟩ := hrel
                  have hlt1 := hrowa1
                  have e1 := (hs.cell ⟨w.heap.size + 1, 1, none⟩ hlt1).trans c1
                  by_cases hlt : k < n
                  · obtain ⟨q0, q1, q2, q3, q4, q5, q6, q7⟩ := hhigh' k hlt
                    have g0 : wr.cell? ⟨gk, k * 8, none⟩ = some (.int .i32 k) := by rw [hs.cell _ hrowh'.lt, hrowh'.cell _ (by omega), q0]
                    have g1 : wr.cell? ⟨gk, k * 8 + 1, none⟩ = some (.int .u64 ((k : Int) + 1)) := by rw [hs.cell _ hrowh'.lt, hrowh'.cell _ (by omega), q1]
                    have g2 : wr.cell? ⟨gk, k * 8 + 2, none⟩ = some (.int .i32 k) := by rw [hs.cell _ hrowh'.lt, hrowh'.cell _ (by omega), q2]
                    have g3 : wr.cell? ⟨gk, k * 8 + 3, none⟩ = some (.int .i32 0) := by rw [hs.cell _ hrowh'.lt, hrowh'.cell _ (by omega), q3]
                    have g4 : wr.cell? ⟨gk, k * 8 + 4, none⟩ = some (.int .i32 1) := by rw [hs.cell _ hrowh'.lt, hrowh'.cell _ (by omega), q4]
                    have g5 : wr.cell? ⟨gk, k * 8 + 5, none⟩ = some (.int .i32 1) := by rw [hs.cell _ hrowh'.lt, hrowh'.cell _ (by omega), q5]
                    have g6 : wr.cell? ⟨gk, k * 8 + 6, none⟩ = some (.int .i32 0) := by rw [hs.cell _ hrowh'.lt, hrowh'.cell _ (by omega), q6]
                    have g7 : wr.cell? ⟨gk, k * 8 + 7, none⟩ = some (.int .i32 1) := by rw [hs.cell _ hrowh'.lt, hrowh'.cell _ (by omega), q7]
                    clear q0 q1 q2 q3 q4 q5 q6 q7
                    go_wp2_with fail
                    go_roundw
                    case rel => exact ⟨k + 1, by omega, by go_num, hs.alloc hbw.size _⟩
                    case measure => simp [intOf]; omega
                  · have e3 := (hs.cell ⟨w.heap.size + 1, 3, none⟩ hlt1).trans c3
                    have e5 := (hs.cell ⟨w.heap.size + 1, 5, none⟩ hlt1).trans c5
                    have e8 := (hs.cell ⟨w.heap.size + 1, 8, none⟩ hlt1).trans c8
                    have e10 := (hs.cell ⟨w.heap.size + 1, 10, none⟩ hlt1).trans c10
                    go_wp2_with (go_at_call 7; refine (kept_at (len + p) n _ _ (by omega) (by omega) (by omega) (by omega) false hk _).mono ?_; rintro e w' ⟨rfl, rfl⟩)
                    go_ret
                    exact ⟨rfl, hs.2⟩

end Go.Proofs.Ybulkccbc
