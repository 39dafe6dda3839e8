import Derived.Test.YbulkcceiDefines
namespace Go.Proofs.Ybulkccei
open Go.RowKit

set_option maxRecDepth 100000 in
set_option maxHeartbeats 1000000 in
theorem member_empty (a0 : Option Addr) (cap : Nat) (a1 : Int) (kw nm : ByteArray) (w : World) :
    Calls Yba.prog 4 #[.slice a0 0 cap, .int .u64 a1, .string kw, .string nm] w fun e w' => e = .returned (.bool true) ∧ Below w.heap.size w w' := by
  go_enter Yba.func4, Yba.ntmps4
  go_wp2_with fail
  have hx : Tree w (w.alloc (.cells #[.string kw, .string nm, .bool false, .int .i64 0, .int .i64 0, .slice none 0 0] 44)) w.heap.size (fun _ => ByteArray.empty) (fun _ => ByteArray.empty) 0 (.slice none 0 0) (fun _ => 0) :=
    ⟨by simp [go_sem], by simp [go_sem], World.ownsRow_nil _ _ _ _, fun i h => absurd h (Nat.not_lt_zero _), (Below.refl _ _).alloc (Nat.le_refl _) _, by simp⟩
  refine (defines_any w (w.heap.size + 1) w.heap.size 0 (fun _ => ByteArray.empty) (fun _ => ByteArray.empty) kw nm _ _ (by omega) _ (hx.alloc _) (by simp [go_sem])).mono ?_
  rintro e w' ⟨rfl, rfl⟩
  have t1 : found (fun _ => ByteArray.empty) (fun _ => ByteArray.empty) kw nm 0 = false := rfl
  go_wp2_with fail
  go_ret
  exact ⟨rfl, (hx.alloc _).below⟩

set_option maxRecDepth 100000 in
set_option maxHeartbeats 1000000 in
theorem member_any (b off len cap : Nat) (K A : Nat → ByteArray) (a1 : Int) (kw nm : ByteArray) (hl : 0 < len) (hlen : len ≤ 1024) (h10 : 0 ≤ a1) (h11 : a1 ≤ 18446744073709551615) (m0 : 0 ≤ a1 % (len : Int)) (m1 : a1 % (len : Int) < len) (w : World) (hb : b < w.heap.size) (hD : ∀ i, i < len → StmtAt w b off K A i) :
    Calls Yba.prog 4 #[.slice (some ⟨b, off, none⟩) len cap, .int .u64 a1, .string kw, .string nm] w fun e w' => e = .returned (.bool true) ∧ Below w.heap.size w w' := by
  go_enter Yba.func4, Yba.ntmps4
  go_wp2_with (go_at_call 8; refine (top_any b off len cap K A kw nm hlen _ hb hD).mono ?_; rintro e w1 ⟨rfl, v, Pt, hx⟩)
  have c3 : (w1.alloc (.cells #[.pointer none, .slice none 0 0, .pointer none, .pointer (some ⟨w.heap.size, 0, none⟩), .map none, .map none, .bool false, .map none, .map none, .map none, .map none] 37)).cell? ⟨w1.heap.size, 3, none⟩ = some (.pointer (some ⟨w.heap.size, 0, none⟩)) := by rw [World.cell?_alloc_at _ _ _ _ rfl]; rfl
  have hx2 := hx.alloc (.cells #[.pointer none, .slice none 0 0, .pointer none, .pointer (some ⟨w.heap.size, 0, none⟩), .map none, .map none, .bool false, .map none, .map none, .map none, .map none] 37)
  clear hx
  generalize hdb : w1.heap.size = db at c3 ⊢
  clear hdb
  generalize (w1.alloc (.cells #[.pointer none, .slice none 0 0, .pointer none, .pointer (some ⟨w.heap.size, 0, none⟩), .map none, .map none, .bool false, .map none, .map none, .map none, .map none] 37)) = W2 at c3 hx2 ⊢
  have hq : (a1 % (len : Int)).toNat < len := by omega
  have e1 : W2.cell? ⟨b, off + (a1 % (len : Int)).toNat * 2, none⟩ = some (.string (K (a1 % (len : Int)).toNat)) := (hx2.below.cell (p := ⟨b, off + (a1 % (len : Int)).toNat * 2, none⟩) hb).trans (hD _ hq).kw
  have e2 : W2.cell? ⟨b, off + (a1 % (len : Int)).toNat * 2 + 1, none⟩ = some (.string (A (a1 % (len : Int)).toNat)) := (hx2.below.cell (p := ⟨b, off + (a1 % (len : Int)).toNat * 2 + 1, none⟩) hb).trans (hD _ hq).arg
  have HF : Hid (found K A (K (a1 % (len : Int)).toNat) (A (a1 % (len : Int)).toNat) len = true) := found_hit hq (by simp [hitB])
  have HX : Hid (Tree w W2 w.heap.size K A len v Pt) := hx2
  have HC : Hid (W2.cell? ⟨db, 3, none⟩ = some (.pointer (some ⟨w.heap.size, 0, none⟩))) := c3
  clear hx2 c3 hD
  go_quiet ((go_at_call 9; exact Calls.quiet_of_same (defines_any w db w.heap.size len K A _ _ v Pt (by omega) _ (HX.out.drewN _) HC.out)))
  go_wp2_with fail
  go_ret
  exact ⟨by show Ending.returned (.bool _) = _; rw [HF.out], (HX.out.drewN _).below⟩

end Go.Proofs.Ybulkccei
