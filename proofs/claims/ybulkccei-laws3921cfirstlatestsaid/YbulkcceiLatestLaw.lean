import Derived.Test.YbulkcceiNewest
namespace Go.Proofs.Ybulkccei
open Go.RowKit

/-- A Revision's zero cells. -/
def zRev : Array Value := #[.string ByteArray.empty, .pointer none, .bool false, .pointer none]

/-- The four cells of a Revision, laid at place k of the row. -/
def revSet (f : Nat → Value) (k : Nat) (s : ByteArray) : Nat → Value := upd (upd (upd (upd f (k * 4) (.string s)) (k * 4 + 1) (.pointer none)) (k * 4 + 2) (.bool false)) (k * 4 + 3) (.pointer none)

theorem rev_step (S : Nat → ByteArray) (f : Nat → Value) (k : Nat) (h : ∀ i, i < k → f (i * 4) = .string (S i)) (i : Nat) (hi : i < k + 1) : revSet f k (S k) (i * 4) = .string (S i) := by
  unfold revSet
  rw [upd_other _ _ _ _ (by omega), upd_other _ _ _ _ (by omega), upd_other _ _ _ _ (by omega)]
  by_cases e : i = k
  · subst e; exact upd_same _ _ _
  · rw [upd_other _ _ _ _ (by omega)]; exact h i (by omega)

/-- What the law holds of the file: its revisions lie in block N + 1, the first k of them dated. -/
structure Revs (w wr : World) (N len : Nat) (S : Nat → ByteArray) (k : Nat) : Prop where
  head : wr.cell? ⟨N, 6, none⟩ = some (.slice (some ⟨N + 1, 0, none⟩) len len)
  below : Below N w wr
  size : N + 2 ≤ wr.heap.size
  row : ∃ f, RowFn wr (N + 1) 67 (len * 4) f ∧ ∀ i, i < k → f (i * 4) = .string (S i)

theorem Revs.drewN {w wr : World} {N len k : Nat} {S : Nat → ByteArray} (h : Revs w wr N len S k) (m : Nat) : Revs w (wr.drewN m) N len S k := by
  obtain ⟨f, h1, h2⟩ := h.row
  exact ⟨h.head, below_drewN h.below m, h.size, f, h1.of_block rfl, h2⟩

theorem Revs.set {w wr : World} {N len k : Nat} {S : Nat → ByteArray} (h : Revs w wr N len S k) :
    Revs w (((((wr.setCell ⟨N + 1, k * 4, none⟩ (.string (S k))).setCell ⟨N + 1, k * 4 + 1, none⟩ (.pointer none)).setCell ⟨N + 1, k * 4 + 2, none⟩ (.bool false)).setCell ⟨N + 1, k * 4 + 3, none⟩ (.pointer none)).drew) N len S (k + 1) := by
  obtain ⟨f, h1, h2⟩ := h.row
  have ne : ∀ i : Nat, (⟨N + 1, i, none⟩ : Addr) ≠ ⟨N, 6, none⟩ := fun i e => by have := congrArg Addr.block e; simp at this
  refine ⟨?_, ?_, by simpa using h.size, _, ((((h1.set _ _).set _ _).set _ _).set _ _).drew, rev_step S f k h2⟩
  · rw [World.cell?_drew]
    iterate 4 rw [World.cell?_setCell_other _ _ _ _ (ne _)]
    exact h.head
  · exact ((((h.below.setCell (p := ⟨N + 1, k * 4, none⟩) (Nat.le_succ _) _).setCell (p := ⟨N + 1, k * 4 + 1, none⟩) (Nat.le_succ _) _).setCell (p := ⟨N + 1, k * 4 + 2, none⟩) (Nat.le_succ _) _).setCell (p := ⟨N + 1, k * 4 + 3, none⟩) (Nat.le_succ _) _).drew

set_option maxRecDepth 100000 in
set_option maxHeartbeats 4000000 in
theorem latest_some (b off len cap : Nat) (S : Nat → ByteArray) (hl : 0 < len) (hlen : len ≤ 4096) (w : World) (hb : b < w.heap.size)
    (hD : ∀ i, i < len → w.cell? ⟨b, off + i, none⟩ = some (.string (S i))) :
    Calls Yba.prog 7 #[.slice (some ⟨b, off, none⟩) len cap] w fun e w' => e = .returned (.bool true) ∧ Below w.heap.size w w' := by
  obtain ⟨i0, hi, hz0, hz1, hz2⟩ := info_parts Yba.info67
  have hmk : ∀ w, (Instr.makeSlice 62 (.int .i64 ↑len) (.int .i64 ↑len)).run Yba.prog w = .ok (.slice (some ⟨w.heap.size, 0, none⟩) len len) (w.alloc (.cells (madeCells zRev (len * 4)) 67)) := by
    intro w
    have := run_make (P := Yba.prog) w 62 67 i0 _ Yba.underlying62 hi hz0 .i64 .i64 (len : Int) (len : Int) (by omega) (by omega) (by rw [hz2]; omega) (by omega)
    rw [hz1, Int.toNat_natCast] at this
    exact this
  clear hi hz0 hz1 hz2
  go_enter Yba.func7, Yba.ntmps7
  go_wp2_with fail
  have hstart : Revs w ((w.alloc (Obj.cells #[Value.int IntKind.i64 0, Value.string { data := #[] }, Value.string { data := #[] }, Value.string { data := #[] }, Value.slice none 0 0, Value.pointer none, Value.slice (some { block := w.heap.size + 1, off := 0 }) len len, Value.pointer none, Value.map none] 65)).alloc (Obj.cells (madeCells zRev (len * 4)) 67)) w.heap.size len S 0 :=
    ⟨by simp [go_sem], ((Below.refl _ _).alloc (Nat.le_refl _) _).alloc (by simp) _, by simp, _, RowFn.new _ _ 67 _ (by simp) _ (size_madeCells _ _), fun i h => absurd h (Nat.not_lt_zero _)⟩
  clear hmk
  go_loopw [24] (fun i wr => ∃ k : Nat, k ≤ len ∧ i = .int .i64 k ∧ Revs w wr w.heap.size len S k) (fun i _ => len - (intOf i).toNat)
  case atStart => exact ⟨0, Nat.zero_le _, rfl, hstart⟩
  case round =>
    clear hstart
    obtain ⟨k, hk, rfl, hx⟩ := hrel
    have c6 := hx.head
    have hsz := hx.size
    by_cases hlt : k < len
    · obtain ⟨f, hf, _⟩ := hx.row
      have e0 := hf.cell (k * 4) (by omega)
      have e1 := hf.cell (k * 4 + 1) (by omega)
      have e2 := hf.cell (k * 4 + 2) (by omega)
      have e3 := hf.cell (k * 4 + 3) (by omega)
      have f0 := hf.frozen (k * 4)
      have f1 := hf.frozen (k * 4 + 1)
      have f2 := hf.frozen (k * 4 + 2)
      have f3 := hf.frozen (k * 4 + 3)
      have hd : wr.cell? ⟨b, off + k, none⟩ = some (.string (S k)) := (hx.below.cell (by exact hb)).trans (hD k hlt)
      have hki : (k : Int) < len := by omega
      have HX := hx.set
      have HX' : Hid _ := HX
      clear HX hx hf
      go_wp2_with fail
      go_region
      go_wp2_with fail
      go_roundw
      case rel => exact ⟨k + 1, by omega, by go_num, HX'.out⟩
      case measure => simp [intOf]; omega
    · obtain rfl : k = len := by omega
      obtain ⟨f, hf, hS⟩ := hx.row
      go_wp2_with fail
      refine (newest_some w.heap.size (w.heap.size + 1) k k S f hl (by omega) _ c6 hf hS).mono ?_
      rintro e w' ⟨B, hB, rfl, m, rfl⟩
      have hx1 := hx.drewN m
      clear hx hf hS c6 hsz
      generalize wr.drewN m = W1 at hx1 ⊢
      have c6 := hx1.head
      have hBk := hB.1
      have t0 : ((k : Int) == 0) = false := by simp; omega
      have hBi : (B : Int) < k := by omega
      go_wp2_with fail
      clear t0
      go_loop [6, 59] (fun q i => ∃ j : Nat, j ≤ B ∧ i = .int .i64 j ∧ q = .int .i64 (-1)) (fun _ i => B - (intOf i).toNat)
      case atStart => exact ⟨0, Nat.zero_le _, rfl, rfl⟩
      case round =>
        obtain ⟨j, hj, rfl, rfl⟩ := hrel
        by_cases hjB : j < B
        · have hq : ∀ w', (binOp .eql 68 (.pointer (some ⟨w.heap.size + 1, B * 4, none⟩)) (.pointer (some ⟨w.heap.size + 1, j * 4, none⟩))).run Yba.prog w' = .ok (.bool false) w' := fun _ => by rw [eql_rev]; simp; omega
          have hji : (j : Int) < k := by omega
          go_wp2_with fail
          go_round
          case rel => exact ⟨j + 1, by omega, by go_num, rfl⟩
          case measure => simp [intOf]; omega
        · obtain rfl : j = B := by omega
          have hq : ∀ w', (binOp .eql 68 (.pointer (some ⟨w.heap.size + 1, j * 4, none⟩)) (.pointer (some ⟨w.heap.size + 1, j * 4, none⟩))).run Yba.prog w' = .ok (.bool true) w' := fun _ => by rw [eql_rev]; simp
          go_wp2_with fail
          clear hq c6
          go_loopw [8] (fun i wr => ∃ q : Nat, q ≤ k ∧ i = .int .i64 q ∧ Revs w wr w.heap.size k S k) (fun i _ => k - (intOf i).toNat)
          case atStart => exact ⟨0, Nat.zero_le _, rfl, hx1⟩
          case round =>
            clear hx1
            obtain ⟨q, hq, rfl, hx⟩ := hrel
            have c6 := hx.head
            by_cases hlt2 : q < k
            · obtain ⟨f, hf, hS⟩ := hx.row
              have e0 : wr.cell? ⟨w.heap.size + 1, q * 4, none⟩ = some (.string (S q)) := by rw [hf.cell _ (by omega), hS q hlt2]
              have e1 : wr.cell? ⟨b, off + q, none⟩ = some (.string (S q)) := (hx.below.cell (by exact hb)).trans (hD q hlt2)
              have e2 : wr.cell? ⟨b, off + j, none⟩ = some (.string (S j)) := (hx.below.cell (by exact hb)).trans (hD j hBk)
              have hqi : (q : Int) < k := by omega
              have HX : Hid (∀ n, Revs w (wr.drewN n) w.heap.size k S k) := fun n => hx.drewN n
              clear hx hf hS
              rcases Nat.lt_trichotomy q j with h | h | h
              · have g1 : Op.bytesLess (S q).toList (S j).toList = true := hB.2.1 q h
                have n1 : (q : Int) < j := by omega
                have n2 : decide ((j : Int) < q) = false := by simp; omega
                have n3 : decide (j < q) = false := by simp; omega
                clear hB
                go_wp2_with fail
                go_quiet (fail)
                go_wp2_with fail
                go_quiet (fail)
                go_wp2_with fail
                go_quiet (fail)
                go_wp2_with fail
                go_roundw
                case rel => exact ⟨q + 1, by omega, by go_num, by first | exact HX.out _ | (rw [World.drewN_drewN]; exact HX.out _) | (rw [World.drewN_drewN, World.drewN_drewN]; exact HX.out _)⟩
                case measure => simp [intOf]; omega
              · subst h
                clear hB
                go_wp2_with fail
                go_quiet (fail)
                go_wp2_with fail
                go_quiet (fail)
                go_wp2_with fail
                go_quiet (fail)
                go_wp2_with fail
                go_roundw
                case rel => exact ⟨q + 1, by omega, by go_num, by first | exact HX.out _ | (rw [World.drewN_drewN]; exact HX.out _) | (rw [World.drewN_drewN, World.drewN_drewN]; exact HX.out _)⟩
                case measure => simp [intOf]; omega
              · have g1 := hB.2.2 q h hlt2
                have n1 : decide ((q : Int) < j) = false := by simp; omega
                have n3 : decide (q < j) = false := by simp; omega
                have n2 : (j : Int) < q := by omega
                clear hB
                cases hl1 : Op.bytesLess (S q).toList (S j).toList with
                | true =>
                  clear g1
                  go_wp2_with fail
                  go_quiet (fail)
                  go_wp2_with fail
                  go_quiet (fail)
                  go_wp2_with fail
                  go_quiet (fail)
                  go_wp2_with fail
                  go_roundw
                  case rel => exact ⟨q + 1, by omega, by go_num, by first | exact HX.out _ | (rw [World.drewN_drewN]; exact HX.out _) | (rw [World.drewN_drewN, World.drewN_drewN]; exact HX.out _)⟩
                  case measure => simp [intOf]; omega
                | false =>
                  have hl2 : ((S q).toList == (S j).toList) = true := by simpa [gtS, hl1] using g1
                  clear g1
                  go_wp2_with fail
                  go_quiet (fail)
                  go_wp2_with fail
                  go_quiet (fail)
                  go_wp2_with fail
                  go_quiet (fail)
                  go_wp2_with fail
                  go_roundw
                  case rel => exact ⟨q + 1, by omega, by go_num, by first | exact HX.out _ | (rw [World.drewN_drewN]; exact HX.out _) | (rw [World.drewN_drewN, World.drewN_drewN]; exact HX.out _)⟩
                  case measure => simp [intOf]; omega
            · go_wp2_with fail
              go_ret
              exact ⟨rfl, hx.below⟩

set_option maxRecDepth 100000 in
theorem latest_nil (w : World) : Calls Yba.prog 7 #[.slice none 0 0] w fun e w' => e = .returned (.bool true) ∧ Below w.heap.size w w' := by
  have hn := eql_nil
  go_enter Yba.func7, Yba.ntmps7
  go_wp2_with fail
  refine (newest_none w.heap.size 0 none _ (by simp [go_sem])).mono ?_
  rintro e w' ⟨rfl, rfl⟩
  go_wp2_with fail
  go_ret
  exact ⟨rfl, (Below.refl _ _).alloc (Nat.le_refl _) _⟩

set_option maxRecDepth 100000 in
theorem latest_empty (x : Addr) (cap : Nat) (w : World) : Calls Yba.prog 7 #[.slice (some x) 0 cap] w fun e w' => e = .returned (.bool true) ∧ Below w.heap.size w w' := by
  have hn := eql_nil
  obtain ⟨i0, hi, hz0, hz1, hz2⟩ := info_parts Yba.info67
  have hmk : ∀ w, (Instr.makeSlice 62 (.int .i64 0) (.int .i64 0)).run Yba.prog w = .ok (.slice (some ⟨w.heap.size, 0, none⟩) 0 0) (w.alloc (.cells (madeCells zRev 0) 67)) := by
    intro w
    have := run_make (P := Yba.prog) w 62 67 i0 _ Yba.underlying62 hi hz0 .i64 .i64 0 0 (by omega) (by omega) (by omega) (by omega)
    rw [hz1] at this
    exact this
  clear hi hz0 hz1 hz2
  go_enter Yba.func7, Yba.ntmps7
  go_wp2_with fail
  refine wp_loop_rounds 1 ?_
  rw [rounds_succ]
  go_wp2_with fail
  refine (newest_none w.heap.size 0 (some ⟨w.heap.size + 1, 0, none⟩) _ (by simp [go_sem])).mono ?_
  rintro e w' ⟨rfl, rfl⟩
  go_wp2_with fail
  go_ret
  exact ⟨rfl, ((Below.refl _ _).alloc (Nat.le_refl _) _).alloc (by simp) _⟩

end Go.Proofs.Ybulkccei
