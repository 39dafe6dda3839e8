import Derived.Test.YbulkcceiKit
import Derived.Test.YbulkcceiOrder
import Derived.WalkSpells
import Derived.WalkLawsBesides
import Derived.Deep.QuietTactic
import Derived.BigQuiet
import Derived.LaidEqlPtr
namespace Go.Proofs.Ybulkccei
open Go.RowKit

theorem Yba.info67 : (Yba.prog.info? 67).map (fun i => (i.zero, i.size, i.bytes)) = some (some (.agg #[.string ByteArray.empty, .pointer none, .bool false, .pointer none]), 4, 40) := by kernel_rfl

/-- '==' on two pointers to revisions of one row. -/
theorem eql_rev (g i j : Nat) (w : World) : (binOp .eql 68 (.pointer (some ⟨g, i, none⟩)) (.pointer (some ⟨g, j, none⟩))).run Yba.prog w = .ok (.bool (decide (i = j))) w := by
  obtain ⟨i0, hi, _, hz1, _⟩ := info_parts Yba.info67
  have hs : (sameAddr ⟨g, i, none⟩ ⟨g, j, none⟩).run Yba.prog w = .ok (decide (i = j)) w := by
    simp only [sameAddr]
    by_cases e : i = j
    · subst e; simp
    · have : ((⟨g, i, none⟩ : Addr) == ⟨g, j, none⟩) = false := by
        apply beq_eq_false_iff_ne.2
        intro h; exact e (congrArg Addr.off h)
      simp [this, e]
  have h : ∀ d : Nat, (Op.equalIn (d + 1) 68 (.pointer (some ⟨g, i, none⟩)) (.pointer (some ⟨g, j, none⟩))).run Yba.prog w = .ok (decide (i = j)) w := fun d => by
    simp [Op.equalIn, run_underlying Yba.underlying68, sizeOf, typeInfo, hi, hz1, hs]
  simp only [binOp]
  simp [Op.equal, Op.maxDepth, h 9999]

theorem eql_nil (a : Option Addr) (w : World) : (binOp .eql 68 (.pointer a) (.pointer none)).run Yba.prog w = .ok (.bool a.isNone) w :=
  run_eql_pointer_nil w 68 a (by kernel_rfl)

set_option maxHeartbeats 1000000 in
theorem newest_some (fb g len cap : Nat) (S : Nat → ByteArray) (f : Nat → Value) (hl : 0 < len) (hl2 : len ≤ 100000) (w : World) (h6 : w.cell? ⟨fb, 6, none⟩ = some (.slice (some ⟨g, 0, none⟩) len cap)) (hrow : RowFn w g 67 (len * 4) f) (hS : ∀ i, i < len → f (i * 4) = .string (S i)) :
    Calls Yba.prog 11 #[.pointer (some ⟨fb, 0, none⟩)] w fun e w' => ∃ B, Best S len B ∧ e = .returned (.pointer (some ⟨g, B * 4, none⟩)) ∧ ∃ m, w' = w.drewN m := by
  have hn := eql_nil
  go_enter Yba.func11, Yba.ntmps11
  go_wp2_with fail
  go_loopw [3, 11] (fun p i wr => ∃ k : Nat, k ≤ len ∧ i = .int .i64 k ∧ (∃ m, wr = w.drewN m) ∧ ((k = 0 ∧ p = .pointer none) ∨ ∃ B, Best S k B ∧ p = .pointer (some ⟨g, B * 4, none⟩))) (fun _ i _ => len - (intOf i).toNat)
  case atStart => exact ⟨0, Nat.zero_le _, rfl, ⟨0, rfl⟩, .inl ⟨rfl, rfl⟩⟩
  case round =>
    obtain ⟨k, hk, rfl, ⟨m, rfl⟩, hp⟩ := hrel
    rcases hp with ⟨rfl, rfl⟩ | ⟨B, hB, rfl⟩
    · go_wp2_with fail
      go_quiet (fail)
      go_wp2_with fail
      go_roundw
      case rel => exact ⟨1, by omega, by go_num, ⟨_, rfl⟩, .inr ⟨0, best_one S, rfl⟩⟩
      case measure => simp [intOf]; omega
    · by_cases hlt : k < len
      · have hBk := hB.1
        have e0 : w.cell? ⟨g, k * 4, none⟩ = some (.string (S k)) := (hrow.cell _ (by omega)).trans (by rw [hS k hlt])
        have e1 : w.cell? ⟨g, B * 4, none⟩ = some (.string (S B)) := (hrow.cell _ (by omega)).trans (by rw [hS B (by omega)])
        cases hl1 : Op.bytesLess (S k).toList (S B).toList with
        | true =>
          have HG : Hid (gtS (S k) (S B) = false) := by simp [Hid, gtS, hl1]
          go_wp2_with fail
          go_quiet (fail)
          go_wp2_with fail
          go_roundw
          case rel => exact ⟨k + 1, by omega, by go_num, ⟨_, rfl⟩, .inr ⟨B, best_stay hB HG.out, rfl⟩⟩
          case measure => simp [intOf]; omega
        | false =>
          cases hl2 : (S k).toList == (S B).toList with
          | true =>
            have HG : Hid (gtS (S k) (S B) = false) := by simp only [Hid, gtS, hl1, hl2]; rfl
            go_wp2_with fail
            go_quiet (fail)
            go_wp2_with fail
            go_roundw
            case rel => exact ⟨k + 1, by omega, by go_num, ⟨_, rfl⟩, .inr ⟨B, best_stay hB HG.out, rfl⟩⟩
            case measure => simp [intOf]; omega
          | false =>
            have HG : Hid (gtS (S k) (S B) = true) := by simp only [Hid, gtS, hl1, hl2]; rfl
            go_wp2_with fail
            go_quiet (fail)
            go_wp2_with fail
            go_roundw
            case rel => exact ⟨k + 1, by omega, by go_num, ⟨_, rfl⟩, .inr ⟨k, best_move hB HG.out, rfl⟩⟩
            case measure => simp [intOf]; omega
      · go_wp2_with fail
        go_ret
        obtain rfl : k = len := by omega
        exact ⟨B, hB, rfl, _, rfl⟩

theorem newest_none (fb cap : Nat) (a : Option Addr) (w : World) (h6 : w.cell? ⟨fb, 6, none⟩ = some (.slice a 0 cap)) :
    Calls Yba.prog 11 #[.pointer (some ⟨fb, 0, none⟩)] w fun e w' => e = .returned (.pointer none) ∧ w' = w := by
  go_enter Yba.func11, Yba.ntmps11
  go_wp2_with fail
  refine wp_loop_rounds 1 ?_
  rw [rounds_succ]
  go_wp2_with fail
  go_ret
  exact ⟨rfl, rfl⟩

end Go.Proofs.Ybulkccei
