import Derived.Test.YbulkcceiTop
namespace Go.Proofs.Ybulkccei
open Go.RowKit

theorem top_empty (a0 : Option Addr) (len cap : Nat) (K A : Nat → ByteArray) (kw nm : ByteArray) (hlen : len ≤ 0) (w : World) :
    Calls Yba.prog 8 #[.slice a0 len cap, .string kw, .string nm] w fun e w' => e = .returned (.pointer (some ⟨w.heap.size, 0, none⟩)) ∧ ∃ v Pt, Tree w w' w.heap.size K A len v Pt := by
  obtain rfl : len = 0 := by omega
  go_enter Yba.func8, Yba.ntmps8
  go_wp2_with fail
  refine wp_loop_rounds 1 ?_
  rw [rounds_succ]
  go_wp2_with fail
  go_ret
  exact ⟨rfl, .slice none 0 0, fun _ => 0, by simp [go_sem], by simp [go_sem], World.ownsRow_nil _ _ _ _, fun i h => absurd h (Nat.not_lt_zero _), (Below.refl _ _).alloc (Nat.le_refl _) _, by simp⟩

/-- Is statement i the one that is looked for? -/
def hitB (K A : Nat → ByteArray) (kw nm : ByteArray) (i : Nat) : Bool := ((K i).toList == kw.toList) && ((A i).toList == nm.toList)
/-- Is it among the first k? -/
def found (K A : Nat → ByteArray) (kw nm : ByteArray) (k : Nat) : Bool := (List.range k).any (hitB K A kw nm)

theorem found_hit {K A : Nat → ByteArray} {kw nm : ByteArray} {k i : Nat} (hi : i < k) (h : hitB K A kw nm i = true) : found K A kw nm k = true := by
  unfold found; rw [List.any_eq_true]; exact ⟨i, by simpa using hi, h⟩
theorem found_none {K A : Nat → ByteArray} {kw nm : ByteArray} {k : Nat} (h : ∀ i, i < k → hitB K A kw nm i = false) : found K A kw nm k = false := by
  unfold found; rw [List.any_eq_false]; intro i hi; rw [h i (by simpa using hi)]; exact Bool.false_ne_true

/-- (*side).defines over the tree that the law makes. -/
theorem defines_any (w0 : World) (db N k : Nat) (K A : Nat → ByteArray) (kw nm : ByteArray) (v : Value) (Pt : Nat → Nat) (hk : k ≤ 100000) (w : World) (hx : Tree w0 w N K A k v Pt) (h3 : w.cell? ⟨db, 3, none⟩ = some (.pointer (some ⟨N, 0, none⟩))) :
    Calls Yba.prog 9 #[.pointer (some ⟨db, 0, none⟩), .string kw, .string nm] w fun e w' => e = .returned (.bool (found K A kw nm k)) ∧ w' = w := by
  have c5 := hx.head
  rcases hx.own.2 with ⟨rfl, rfl⟩ | ⟨g, cap, cur, rfl, hg, hh, _, _, _, _⟩
  · have HF : Hid (found K A kw nm 0 = false) := rfl
    go_enter Yba.func9, Yba.ntmps9
    go_wp2_with fail
    refine wp_loop_rounds 1 ?_
    rw [rounds_succ]
    go_wp2_with fail
    go_ret
    exact ⟨rfl, rfl⟩
  · have hcell : ∀ i, i < k → w.cell? ⟨g, i, none⟩ = some (.pointer (some ⟨Pt i, 0, none⟩)) := fun i hi => by
      rw [hx.own.cellAt i (by omega)]; simp [ptrs, hi]
    have hkid : ∀ i, i < k → w.cell? ⟨Pt i, 0, none⟩ = some (.string (K i)) ∧ w.cell? ⟨Pt i, 1, none⟩ = some (.string (A i)) := fun i hi => by
      obtain ⟨_, f, hf, f0, f1⟩ := hx.kids i hi
      exact ⟨by rw [hf.cell 0 (by omega), f0], by rw [hf.cell 1 (by omega), f1]⟩
    clear hx hh
    go_enter Yba.func9, Yba.ntmps9
    go_wp2_with fail
    go_loop [17] (fun i => ∃ j : Nat, j ≤ k ∧ i = .int .i64 j ∧ ∀ q, q < j → hitB K A kw nm q = false) (fun i => k - (intOf i).toNat)
    case atStart => exact ⟨0, Nat.zero_le _, rfl, fun q h => absurd h (Nat.not_lt_zero _)⟩
    case round =>
      obtain ⟨j, hj, rfl, hnone⟩ := hrel
      by_cases hlt : j < k
      · have e0 := hcell j hlt
        have e1 := (hkid j hlt).1
        have e2 := (hkid j hlt).2
        have hji : (j : Int) < k := by omega
        have HN : Hid (∀ q, q < j → hitB K A kw nm q = false) := hnone
        clear hnone hcell hkid
        cases h1 : (K j).toList == kw.toList with
        | true =>
          cases h2 : (A j).toList == nm.toList with
          | true =>
            have HF : Hid (found K A kw nm k = true) := found_hit hlt (by simp only [hitB, h1, h2]; rfl)
            go_wp2_with fail
            go_ret
            exact ⟨by rw [HF.out]; rfl, rfl⟩
          | false =>
            have HF : Hid (hitB K A kw nm j = false) := by simp only [Hid, hitB, h1, h2]; rfl
            go_wp2_with fail
            go_round
            case rel => exact ⟨j + 1, by omega, by go_num, fun q hq => (Nat.lt_succ_iff_lt_or_eq.1 hq).elim (HN.out q) (fun e => e ▸ HF.out)⟩
            case measure => simp [intOf]; omega
        | false =>
          have HF : Hid (hitB K A kw nm j = false) := by simp only [Hid, hitB, h1]; rfl
          go_wp2_with fail
          go_round
          case rel => exact ⟨j + 1, by omega, by go_num, fun q hq => (Nat.lt_succ_iff_lt_or_eq.1 hq).elim (HN.out q) (fun e => e ▸ HF.out)⟩
          case measure => simp [intOf]; omega
      · obtain rfl : j = k := by omega
        have HF : Hid (found K A kw nm j = false) := found_none hnone
        clear hnone
        go_wp2_with fail
        go_ret
        exact ⟨by rw [HF.out]; rfl, rfl⟩
end Go.Proofs.Ybulkccei
