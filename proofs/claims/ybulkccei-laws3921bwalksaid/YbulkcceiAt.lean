import Derived.Test.YbulkcceiKit
import Derived.WalkSpells
import Derived.WalkLawsBesides
import Derived.Deep.QuietTactic
import Derived.BigQuiet
namespace Go.Proofs.Ybulkccei
open Go.RowKit

/-- at(i) inside the source. -/
theorem at_in (lb g len cap : Nat) (off i : Int) (v : Value) (h0 : 0 ≤ off) (hi : 0 ≤ i) (hlt : off + i < len) (hl : len ≤ 100000) (w : World)
    (h1 : w.cell? ⟨lb, 1, none⟩ = some (.slice (some ⟨g, 0, none⟩) len cap)) (h2 : w.cell? ⟨lb, 2, none⟩ = some (.int .i64 off)) (hc : w.cell? ⟨g, (off + i).toNat, none⟩ = some v) :
    Calls Yba.prog 10 #[.pointer (some ⟨lb, 0, none⟩), .int .i64 i] w fun e w' => e = .returned v ∧ ∃ m, w' = w.drewN m := by
  go_enter Yba.func10, Yba.ntmps10
  go_wp2
  go_quiet (fail)
  go_wp2
  go_quiet (fail)
  go_wp2
  go_ret
  exact ⟨rfl, _, World.drewN_drewN ..⟩

/-- at(i) past its end. -/
theorem at_out (lb len cap : Nat) (a : Option Addr) (off i : Int) (h0 : 0 ≤ off) (hi : 0 ≤ i) (hlt : (len : Int) ≤ off + i) (ho : off ≤ 100000) (hj : i ≤ 100000) (w : World)
    (h1 : w.cell? ⟨lb, 1, none⟩ = some (.slice a len cap)) (h2 : w.cell? ⟨lb, 2, none⟩ = some (.int .i64 off)) :
    Calls Yba.prog 10 #[.pointer (some ⟨lb, 0, none⟩), .int .i64 i] w fun e w' => e = .returned (.int .u8 0) ∧ ∃ m, w' = w.drewN m := by
  go_enter Yba.func10, Yba.ntmps10
  go_wp2
  go_quiet (fail)
  go_wp2
  go_ret
  exact ⟨rfl, _, rfl⟩

theorem Yba.info5 : (Yba.prog.info? 5).map (fun i => (i.zero, i.size, i.bytes)) = some (some (.int .u8 0), 1, 1) := by kernel_rfl
def z5 : Array Value := #[.int .u8 0]

/-- What came in: it is empty, or a row of bytes. -/
def IsSrc (w : World) (a : Option Addr) (len : Nat) (D : Nat → Int) : Prop :=
  len = 0 ∨ ∃ b off, a = some ⟨b, off, none⟩ ∧ b < w.heap.size ∧ ∀ i, i < len → w.cell? ⟨b, off + i, none⟩ = some (.int .u8 (D i))

/-- 'buf := make([]byte, len(src)); copy(buf, src)'. -/
theorem copy_buf (w : World) (a : Option Addr) (len cap : Nat) (D : Nat → Int) (h : IsSrc w a len D) :
    ∃ W2, (∀ ty, (Builtin.copy_ #[48, 48] ty #[.slice (some ⟨w.heap.size, 0, none⟩) len len, .slice a len cap]).run Yba.prog (w.alloc (.cells (madeCells z5 len) 5)) = .ok (.int .i64 len) W2) ∧
      W2.heap.size = w.heap.size + 1 ∧ Below w.heap.size w W2 ∧ RowFn W2 w.heap.size 5 len (fun j => .int .u8 (D j)) := by
  have hnew := RowFn.new w (madeCells z5 len) 5 w.heap.size rfl len (size_madeCells _ _)
  have hsz : (Yba.prog.info? 5).map (·.size) = some 1 := by
    obtain ⟨i0, hi, _, hz1, _⟩ := info_parts Yba.info5
    rw [hi]; simp [hz1]
  rcases h with rfl | ⟨b, off, rfl, hb, hc⟩
  · refine ⟨_, fun ty => run_copy_none _ 48 48 ty 5 _ _ 0 0 0 cap Yba.underlying48 hsz rfl, by simp, (Below.refl _ _).alloc (Nat.le_refl _) _, ?_⟩
    exact hnew.congr (fun j hj => absurd hj (Nat.not_lt_zero _))
  · have hr := fun ty => run_copy_cells (P := Yba.prog) (w.alloc (.cells (madeCells z5 len) 5)) 48 48 ty 5 w.heap.size 0 len len ⟨b, off, none⟩ len cap (newsOf (fun j => .int .u8 (D j)) len) Yba.underlying48 hsz (by rw [newsOf_length]; simp)
      (fun j v hv => by
        obtain ⟨hj, rfl⟩ := newsOf_get hv
        rw [Addr.add_lit, World.cell?_alloc_past _ _ _ hb]; exact hc j hj)
      (fun j hj => by rw [newsOf_length] at hj; rw [Nat.zero_add, hnew.cell _ hj]; rfl) (fun j _ => hnew.frozen _)
      (fun v hv => by obtain ⟨x, _, rfl⟩ := List.mem_map.1 hv; rfl)
    refine ⟨_, fun ty => by rw [hr ty, newsOf_length]; rfl, ?_, ?_, ?_⟩
    · rw [size_setCells, World.size_alloc]
    · exact below_setCells _ (Nat.le_refl _) _ _ _ ((Below.refl _ _).alloc (Nat.le_refl _) _)
    · obtain ⟨f', h1, h2, _⟩ := RowFn.setCells (newsOf (fun j => .int .u8 (D j)) len) 0 _ _ hnew
      refine h1.congr fun j hj => ?_
      have := h2 j (by rw [newsOf_length]; exact hj)
      rw [Nat.zero_add] at this
      rw [this]
      simp [newsOf, hj]

end Go.Proofs.Ybulkccei
