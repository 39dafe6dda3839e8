import Derived.Test.YbulkcceiAt
namespace Go.Proofs.Ybulkccei
open Go.RowKit

/-- The world in the law's last loop: nothing but draws since w1. -/
def Same (w w1 wr : World) : Prop := wr.heap = w1.heap ∧ Below w.heap.size w wr
theorem Same.cell {w w1 wr : World} (h : Same w w1 wr) (a : Addr) : wr.cell? a = w1.cell? a := World.cell?_of_block (by rw [h.1])
theorem Same.drewN {w w1 wr : World} (h : Same w w1 wr) (n : Nat) : Same w w1 (wr.drewN n) := ⟨h.1, below_drewN h.2 n⟩

set_option maxRecDepth 100000 in
set_option maxHeartbeats 2000000 in
theorem index_any (b off len cap : Nat) (D : Nat → Int) (a1 a2 : Int) (hlen : len ≤ 1024) (h10 : 0 ≤ a1) (h11 : a1 ≤ 18446744073709551615) (h20 : 0 ≤ a2) (h21 : a2 ≤ 65535) (m0 : 0 ≤ a1 % ((len : Int) + 1)) (m1 : a1 % ((len : Int) + 1) ≤ len) (w : World) (hb : b < w.heap.size)
    (hD : ∀ i, i < len → w.cell? ⟨b, off + i, none⟩ = some (.int .u8 (D i))) :
    Calls Yba.prog 5 #[.slice (some ⟨b, off, none⟩) len cap, .int .u64 a1, .int .u16 a2] w fun e w' => e = .returned (.bool true) ∧ Below w.heap.size w w' := by
  obtain ⟨i0, hi, hz0, hz1, hz2⟩ := info_parts Yba.info5
  have hmk : ∀ w, (Instr.makeSlice 48 (.int .i64 ↑len) (.int .i64 ↑len)).run Yba.prog w = .ok (.slice (some ⟨w.heap.size, 0, none⟩) len len) (w.alloc (.cells (madeCells z5 len) 5)) := by
    intro w
    have := run_make (P := Yba.prog) w 48 5 i0 _ Yba.underlying48 hi hz0 .i64 .i64 (len : Int) (len : Int) (by omega) (by omega) (by rw [hz2]; omega) (by omega)
    rw [hz1, Int.toNat_natCast, Nat.mul_one] at this
    exact this
  clear hi hz0 hz1 hz2
  obtain ⟨W2, hcp, hs2, hb2, hrow⟩ := copy_buf w (some ⟨b, off, none⟩) len cap D (.inr ⟨b, off, rfl, hb, hD⟩)
  have HB : Hid (Below w.heap.size w W2) := hb2
  have HR : Hid (RowFn W2 w.heap.size 5 len (fun j => .int .u8 (D j))) := hrow
  clear hb2 hrow
  go_enter Yba.func5, Yba.ntmps5
  go_wp2_with fail
  have hb3 := fun o => HB.out.alloc (by omega) o
  have hr3 := fun o => HR.out.alloc o
  have c1 : ∀ (cs : Array Value) (t : TypeId) (i : Nat), (W2.alloc (.cells cs t)).cell? ⟨w.heap.size + 1, i, none⟩ = cs[i]? := fun cs t i => World.cell?_alloc_at cs t _ i hs2.symm
  clear HB HR hmk hcp
  generalize hW3 : (W2.alloc (Obj.cells #[Value.string { data := #[] }, Value.slice (some { block := w.heap.size, off := 0 }) len len, Value.int IntKind.i64 (a1 % (↑len + 1)), Value.int IntKind.i64 0, Value.int IntKind.i64 0, Value.int IntKind.i64 0, Value.int IntKind.i64 0, Value.slice none 0 0, Value.slice none 0 0, Value.bool false] 54)) = W3
  have d1 : W3.cell? ⟨w.heap.size + 1, 1, none⟩ = some (.slice (some ⟨w.heap.size, 0, none⟩) len len) := by rw [← hW3, c1]; rfl
  have d2 : W3.cell? ⟨w.heap.size + 1, 2, none⟩ = some (.int .i64 (a1 % (↑len + 1))) := by rw [← hW3, c1]; rfl
  have hb4 : Below w.heap.size w W3 := by rw [← hW3]; exact hb3 _
  have hr4 : RowFn W3 w.heap.size 5 len (fun j => .int .u8 (D j)) := by rw [← hW3]; exact hr3 _
  clear hW3 hb3 hr3 c1 hs2
  by_cases hin : a1 % ((len : Int) + 1) + a2 < len
  · have d3 : W3.cell? ⟨w.heap.size, (a1 % ((len : Int) + 1) + a2).toNat, none⟩ = some (.int .u8 (D (a1 % ((len : Int) + 1) + a2).toNat)) := by rw [hr4.cell _ (by omega)]
    refine (at_in (w.heap.size + 1) w.heap.size len len _ a2 _ m0 h20 hin (by omega) _ d1 d2 d3).mono ?_
    rintro e w' ⟨rfl, m, rfl⟩
    go_wp2_with fail
    have hs0 : Same w W3 (W3.drewN m) := ⟨rfl, below_drewN hb4 m⟩
    go_loopw [13] (fun i wr => ∃ k : Nat, k ≤ len ∧ i = .int .i64 k ∧ Same w W3 wr) (fun i _ => len - (intOf i).toNat)
    case atStart => exact ⟨0, Nat.zero_le _, rfl, hs0⟩
    case round =>
      clear hs0
      obtain ⟨k, hk, rfl, hs⟩ := hrel
      by_cases hlt : k < len
      · have e0 : wr.cell? ⟨w.heap.size, k, none⟩ = some (.int .u8 (D k)) := by rw [hs.cell, hr4.cell _ hlt]
        have e1 : wr.cell? ⟨b, off + k, none⟩ = some (.int .u8 (D k)) := (hs.2.cell (by exact hb)).trans (hD k hlt)
        have hki : (k : Int) < len := by omega
        go_wp2_with fail
        go_quiet (fail)
        go_wp2_with fail
        go_roundw
        case rel => exact ⟨k + 1, by omega, by go_num, hs.drewN _⟩
        case measure => simp [intOf]; omega
      · go_wp2_with fail
        go_ret
        exact ⟨rfl, hs.2⟩
  · refine (at_out (w.heap.size + 1) len len (some ⟨w.heap.size, 0, none⟩) _ a2 m0 h20 (by omega) (by omega) (by omega) _ d1 d2).mono ?_
    rintro e w' ⟨rfl, m, rfl⟩
    go_wp2_with fail
    have hs0 : Same w W3 (W3.drewN m) := ⟨rfl, below_drewN hb4 m⟩
    go_loopw [13] (fun i wr => ∃ k : Nat, k ≤ len ∧ i = .int .i64 k ∧ Same w W3 wr) (fun i _ => len - (intOf i).toNat)
    case atStart => exact ⟨0, Nat.zero_le _, rfl, hs0⟩
    case round =>
      clear hs0
      obtain ⟨k, hk, rfl, hs⟩ := hrel
      by_cases hlt : k < len
      · have e0 : wr.cell? ⟨w.heap.size, k, none⟩ = some (.int .u8 (D k)) := by rw [hs.cell, hr4.cell _ hlt]
        have e1 : wr.cell? ⟨b, off + k, none⟩ = some (.int .u8 (D k)) := (hs.2.cell (by exact hb)).trans (hD k hlt)
        have hki : (k : Int) < len := by omega
        go_wp2_with fail
        go_quiet (fail)
        go_wp2_with fail
        go_roundw
        case rel => exact ⟨k + 1, by omega, by go_num, hs.drewN _⟩
        case measure => simp [intOf]; omega
      · go_wp2_with fail
        go_ret
        exact ⟨rfl, hs.2⟩

set_option maxRecDepth 100000 in
set_option maxHeartbeats 2000000 in
theorem index_empty (a0 : Option Addr) (len cap : Nat) (D : Nat → Int) (a1 a2 : Int) (hlen : len ≤ 0) (h10 : 0 ≤ a1) (h11 : a1 ≤ 18446744073709551615) (h20 : 0 ≤ a2) (h21 : a2 ≤ 65535) (m0 : 0 ≤ a1 % ((len : Int) + 1)) (m1 : a1 % ((len : Int) + 1) ≤ len) (w : World) :
    Calls Yba.prog 5 #[.slice a0 len cap, .int .u64 a1, .int .u16 a2] w fun e w' => e = .returned (.bool true) ∧ Below w.heap.size w w' := by
  obtain ⟨i0, hi, hz0, hz1, hz2⟩ := info_parts Yba.info5
  have hmk : ∀ w, (Instr.makeSlice 48 (.int .i64 ↑len) (.int .i64 ↑len)).run Yba.prog w = .ok (.slice (some ⟨w.heap.size, 0, none⟩) len len) (w.alloc (.cells (madeCells z5 len) 5)) := by
    intro w
    have := run_make (P := Yba.prog) w 48 5 i0 _ Yba.underlying48 hi hz0 .i64 .i64 (len : Int) (len : Int) (by omega) (by omega) (by rw [hz2]; omega) (by omega)
    rw [hz1, Int.toNat_natCast, Nat.mul_one] at this
    exact this
  clear hi hz0 hz1 hz2
  obtain ⟨W2, hcp, hs2, hb2, hrow⟩ := copy_buf w a0 len cap D (.inl (by omega))
  have HB : Hid (Below w.heap.size w W2) := hb2
  have HR : Hid (RowFn W2 w.heap.size 5 len (fun j => .int .u8 (D j))) := hrow
  clear hb2 hrow
  go_enter Yba.func5, Yba.ntmps5
  go_wp2_with fail
  have hb3 := fun o => HB.out.alloc (by omega) o
  have hr3 := fun o => HR.out.alloc o
  have c1 : ∀ (cs : Array Value) (t : TypeId) (i : Nat), (W2.alloc (.cells cs t)).cell? ⟨w.heap.size + 1, i, none⟩ = cs[i]? := fun cs t i => World.cell?_alloc_at cs t _ i hs2.symm
  clear HB HR hmk hcp
  generalize hW3 : (W2.alloc (Obj.cells #[Value.string { data := #[] }, Value.slice (some { block := w.heap.size, off := 0 }) len len, Value.int IntKind.i64 (a1 % (↑len + 1)), Value.int IntKind.i64 0, Value.int IntKind.i64 0, Value.int IntKind.i64 0, Value.int IntKind.i64 0, Value.slice none 0 0, Value.slice none 0 0, Value.bool false] 54)) = W3
  have d1 : W3.cell? ⟨w.heap.size + 1, 1, none⟩ = some (.slice (some ⟨w.heap.size, 0, none⟩) len len) := by rw [← hW3, c1]; rfl
  have d2 : W3.cell? ⟨w.heap.size + 1, 2, none⟩ = some (.int .i64 (a1 % (↑len + 1))) := by rw [← hW3, c1]; rfl
  have hb4 : Below w.heap.size w W3 := by rw [← hW3]; exact hb3 _
  have hr4 : RowFn W3 w.heap.size 5 len (fun j => .int .u8 (D j)) := by rw [← hW3]; exact hr3 _
  clear hW3 hb3 hr3 c1 hs2
  refine (at_out (w.heap.size + 1) len len (some ⟨w.heap.size, 0, none⟩) _ a2 m0 h20 (by omega) (by omega) (by omega) _ d1 d2).mono ?_
  rintro e w' ⟨rfl, m, rfl⟩
  go_wp2_with fail
  have hs0 : Same w W3 (W3.drewN m) := ⟨rfl, below_drewN hb4 m⟩
  go_loopw [13] (fun i wr => ∃ k : Nat, k ≤ len ∧ i = .int .i64 k ∧ Same w W3 wr) (fun i _ => len - (intOf i).toNat)
  case atStart => exact ⟨0, Nat.zero_le _, rfl, hs0⟩
  case round =>
    clear hs0
    obtain ⟨k, hk, rfl, hs⟩ := hrel
    by_cases hlt : k < len
    · exfalso; omega
    · go_wp2_with fail
      go_ret
      exact ⟨rfl, hs.2⟩

end Go.Proofs.Ybulkccei
