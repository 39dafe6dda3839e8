import Derived.Test.YbulkcceiDefines
namespace Go.Proofs.Ybulkccei
open Go.RowKit

/-- Is it among those from j on? -/
def tailF (K A : Nat → ByteArray) (kw nm : ByteArray) (len j : Nat) : Bool := (List.range len).any fun i => decide (j ≤ i) && hitB K A kw nm i

theorem tailF_zero (K A : Nat → ByteArray) (kw nm : ByteArray) (len : Nat) : tailF K A kw nm len 0 = found K A kw nm len := by
  unfold tailF found
  simp
theorem tailF_end (K A : Nat → ByteArray) (kw nm : ByteArray) (len : Nat) : tailF K A kw nm len len = false := by
  unfold tailF; rw [List.any_eq_false]; intro i hi
  have : i < len := by simpa using hi
  simp [show ¬ len ≤ i by omega]
theorem tailF_hit {K A : Nat → ByteArray} {kw nm : ByteArray} {len j : Nat} (hj : j < len) (h : hitB K A kw nm j = true) : tailF K A kw nm len j = true := by
  unfold tailF; rw [List.any_eq_true]; exact ⟨j, by simpa using hj, by simp [h]⟩
theorem tailF_miss {K A : Nat → ByteArray} {kw nm : ByteArray} {len j : Nat} (h : hitB K A kw nm j = false) : tailF K A kw nm len j = tailF K A kw nm len (j + 1) := by
  unfold tailF
  congr 1
  funext i
  by_cases e : i = j
  · subst e; simp [h]
  · have : decide (j ≤ i) = decide (j + 1 ≤ i) := by
      by_cases h1 : j ≤ i
      · simp [h1, show j + 1 ≤ i by omega]
      · simp [h1, show ¬ j + 1 ≤ i by omega]
    rw [this]

/-- Nothing but draws since w1. -/
def SameW (w w1 wr : World) : Prop := wr.heap = w1.heap ∧ Below w.heap.size w wr
theorem SameW.cell {w w1 wr : World} (h : SameW w w1 wr) (a : Addr) : wr.cell? a = w1.cell? a := World.cell?_of_block (by rw [h.1])
theorem SameW.drewN {w w1 wr : World} (h : SameW w w1 wr) (n : Nat) : SameW w w1 (wr.drewN n) := ⟨h.1, below_drewN h.2 n⟩

set_option maxRecDepth 100000 in
set_option maxHeartbeats 4000000 in
theorem model_any (b off len cap : Nat) (K A : Nat → ByteArray) (kw nm : ByteArray) (hl : 0 < len) (hlen : len ≤ 1024) (w : World) (hb : b < w.heap.size) (hD : ∀ i, i < len → StmtAt w b off K A i) :
    Calls Yba.prog 3 #[.slice (some ⟨b, off, none⟩) len cap, .string kw, .string nm] w fun e w' => e = .returned (.bool true) ∧ Below w.heap.size w w' := by
  have t1 : (!found K A kw nm len == tailF K A kw nm len 0) = false := by rw [tailF_zero]; simp
  go_enter Yba.func3, Yba.ntmps3
  go_wp2_with (go_at_call 8; refine (top_any b off len cap K A kw nm hlen _ hb hD).mono ?_; rintro e w1 ⟨rfl, v, Pt, hx⟩)
  have c3 : (w1.alloc (.cells #[.pointer none, .slice none 0 0, .pointer none, .pointer (some ⟨w.heap.size, 0, none⟩), .map none, .map none, .bool false, .map none, .map none, .map none, .map none] 37)).cell? ⟨w1.heap.size, 3, none⟩ = some (.pointer (some ⟨w.heap.size, 0, none⟩)) := by rw [World.cell?_alloc_at _ _ _ _ rfl]; rfl
  have hx2 := hx.alloc (.cells #[.pointer none, .slice none 0 0, .pointer none, .pointer (some ⟨w.heap.size, 0, none⟩), .map none, .map none, .bool false, .map none, .map none, .map none, .map none] 37)
  clear hx
  generalize hdb : w1.heap.size = db at c3 ⊢
  clear hdb
  generalize (w1.alloc (.cells #[.pointer none, .slice none 0 0, .pointer none, .pointer (some ⟨w.heap.size, 0, none⟩), .map none, .map none, .bool false, .map none, .map none, .map none, .map none] 37)) = W2 at c3 hx2 ⊢
  refine (defines_any w db w.heap.size len K A kw nm v Pt (by omega) W2 hx2 c3).mono ?_
  rintro e w' ⟨rfl, rfl⟩
  have c5 := hx2.head
  have hbel := hx2.below
  obtain ⟨g, cap2, hv⟩ : ∃ g c, v = .slice (some ⟨g, 0, none⟩) len c := by
    rcases hx2.own.2 with ⟨_, h⟩ | ⟨g, cap2, cur, h, _⟩
    · omega
    · exact ⟨g, cap2, h⟩
  subst hv
  have hcell : ∀ i, i < len → w'.cell? ⟨g, i, none⟩ = some (.pointer (some ⟨Pt i, 0, none⟩)) := fun i hi => by
    rw [hx2.own.cellAt i (by omega)]; simp [ptrs, hi]
  have hkid : ∀ i, i < len → w'.cell? ⟨Pt i, 0, none⟩ = some (.string (K i)) ∧ w'.cell? ⟨Pt i, 1, none⟩ = some (.string (A i)) := fun i hi => by
    obtain ⟨_, f, hf, f0, f1⟩ := hx2.kids i hi
    exact ⟨by rw [hf.cell 0 (by omega), f0], by rw [hf.cell 1 (by omega), f1]⟩
  have harg : ∀ i, i < len → w'.cell? ⟨b, off + i * 2, none⟩ = some (.string (K i)) ∧ w'.cell? ⟨b, off + i * 2 + 1, none⟩ = some (.string (A i)) := fun i hi => ⟨(hbel.cell (p := ⟨b, off + i * 2, none⟩) hb).trans (hD i hi).kw, (hbel.cell (p := ⟨b, off + i * 2 + 1, none⟩) hb).trans (hD i hi).arg⟩
  clear hx2 hD
  go_wp2_with fail
  go_loop [9, 10] (fun v i => ∃ j : Nat, j ≤ len ∧ i = .int .i64 ((j : Int) - 1) ∧ v = .bool (tailF K A kw nm len j)) (fun _ i => (intOf i + 1).toNat)
  case atStart => exact ⟨len, Nat.le_refl _, rfl, by rw [tailF_end]⟩
  case round =>
    obtain ⟨j, hj, rfl, rfl⟩ := hrel
    cases j with
    | succ q =>
      rw [show ((q + 1 : Nat) : Int) - 1 = (q : Int) by omega]
      have e1 := (harg q (by omega)).1
      have e2 := (harg q (by omega)).2
      have hqi : (q : Int) < len := by omega
      cases h1 : (K q).toList == kw.toList with
      | true =>
        cases h2 : (A q).toList == nm.toList with
        | true =>
          have HT : Hid (tailF K A kw nm len q = true) := tailF_hit (by omega) (by simp only [hitB, h1, h2]; rfl)
          go_wp2_with fail
          go_round
          case rel => exact ⟨q, by omega, by go_num, by rw [HT.out]⟩
          case measure => simp [intOf]
        | false =>
          have HT : Hid (tailF K A kw nm len q = tailF K A kw nm len (q + 1)) := tailF_miss (by simp only [hitB, h1, h2]; rfl)
          go_wp2_with fail
          go_round
          case rel => exact ⟨q, by omega, by go_num, by rw [HT.out]⟩
          case measure => simp [intOf]
      | false =>
        have HT : Hid (tailF K A kw nm len q = tailF K A kw nm len (q + 1)) := tailF_miss (by simp only [hitB, h1]; rfl)
        go_wp2_with fail
        go_round
        case rel => exact ⟨q, by omega, by go_num, by rw [HT.out]⟩
        case measure => simp [intOf]
    | zero =>
      rw [show ((0 : Nat) : Int) - 1 = -1 by omega]
      go_wp2_with fail
      clear t1
      go_loopw [11] (fun i wr => ∃ q : Nat, q ≤ len ∧ i = .int .i64 q ∧ SameW w w' wr) (fun i _ => len - (intOf i).toNat)
      case atStart => exact ⟨0, Nat.zero_le _, rfl, rfl, hbel⟩
      case round =>
        obtain ⟨q, hq, rfl, hs⟩ := hrel
        by_cases hlt : q < len
        · have e3 := (hs.cell ⟨db, 3, none⟩).trans c3
          have e5 := (hs.cell ⟨w.heap.size, 5, none⟩).trans c5
          have p0 := (hs.cell ⟨g, q, none⟩).trans (hcell q hlt)
          have p1 := (hs.cell ⟨Pt q, 0, none⟩).trans (hkid q hlt).1
          have p2 := (hs.cell ⟨Pt q, 1, none⟩).trans (hkid q hlt).2
          have a1 := (hs.cell ⟨b, off + q * 2, none⟩).trans (harg q hlt).1
          have a2 := (hs.cell ⟨b, off + q * 2 + 1, none⟩).trans (harg q hlt).2
          have hqi : (q : Int) < len := by omega
          have HS : Hid (∀ n, SameW w w' (wr.drewN n)) := fun n => hs.drewN n
          clear hs hcell hkid harg c3 c5 hbel
          go_wp2_with fail
          go_quiet (fail)
          go_wp2_with fail
          go_roundw
          case rel => exact ⟨q + 1, by omega, by go_num, HS.out _⟩
          case measure => simp [intOf]; omega
        · go_wp2_with fail
          go_ret
          exact ⟨rfl, hs.2⟩

set_option maxRecDepth 100000 in
set_option maxHeartbeats 4000000 in
theorem model_empty (a0 : Option Addr) (len cap : Nat) (K A : Nat → ByteArray) (kw nm : ByteArray) (hlen : len ≤ 0) (w : World) :
    Calls Yba.prog 3 #[.slice a0 len cap, .string kw, .string nm] w fun e w' => e = .returned (.bool true) ∧ Below w.heap.size w w' := by
  have t1 : (!found K A kw nm len == tailF K A kw nm len 0) = false := by rw [tailF_zero]; simp
  go_enter Yba.func3, Yba.ntmps3
  go_wp2_with (go_at_call 8; refine (top_empty a0 len cap K A kw nm hlen _).mono ?_; rintro e w1 ⟨rfl, v, Pt, hx⟩)
  have c3 : (w1.alloc (.cells #[.pointer none, .slice none 0 0, .pointer none, .pointer (some ⟨w.heap.size, 0, none⟩), .map none, .map none, .bool false, .map none, .map none, .map none, .map none] 37)).cell? ⟨w1.heap.size, 3, none⟩ = some (.pointer (some ⟨w.heap.size, 0, none⟩)) := by rw [World.cell?_alloc_at _ _ _ _ rfl]; rfl
  have hx2 := hx.alloc (.cells #[.pointer none, .slice none 0 0, .pointer none, .pointer (some ⟨w.heap.size, 0, none⟩), .map none, .map none, .bool false, .map none, .map none, .map none, .map none] 37)
  clear hx
  generalize hdb : w1.heap.size = db at c3 ⊢
  clear hdb
  generalize (w1.alloc (.cells #[.pointer none, .slice none 0 0, .pointer none, .pointer (some ⟨w.heap.size, 0, none⟩), .map none, .map none, .bool false, .map none, .map none, .map none, .map none] 37)) = W2 at c3 hx2 ⊢
  refine (defines_any w db w.heap.size len K A kw nm v Pt (by omega) W2 hx2 c3).mono ?_
  rintro e w' ⟨rfl, rfl⟩
  have c5 := hx2.head
  have hbel := hx2.below
  have hv : ∃ a c, v = .slice a len c := by
    rcases hx2.own.2 with ⟨h, h0⟩ | ⟨g, cap2, cur, h, _⟩
    · exact ⟨none, 0, by rw [h, h0]⟩
    · exact ⟨_, _, h⟩
  obtain ⟨av, cv, hv⟩ := hv
  subst hv
  clear hx2
  go_wp2_with fail
  go_loop [9, 10] (fun v i => ∃ j : Nat, j ≤ len ∧ i = .int .i64 ((j : Int) - 1) ∧ v = .bool (tailF K A kw nm len j)) (fun _ i => (intOf i + 1).toNat)
  case atStart => exact ⟨len, Nat.le_refl _, rfl, by rw [tailF_end]⟩
  case round =>
    obtain ⟨j, hj, rfl, rfl⟩ := hrel
    cases j with
    | succ q =>
      exfalso; omega
    | zero =>
      rw [show ((0 : Nat) : Int) - 1 = -1 by omega]
      go_wp2_with fail
      clear t1
      go_loopw [11] (fun i wr => ∃ q : Nat, q ≤ len ∧ i = .int .i64 q ∧ SameW w w' wr) (fun i _ => len - (intOf i).toNat)
      case atStart => exact ⟨0, Nat.zero_le _, rfl, rfl, hbel⟩
      case round =>
        obtain ⟨q, hq, rfl, hs⟩ := hrel
        by_cases hlt : q < len
        · exfalso; omega
        · go_wp2_with fail
          go_ret
          exact ⟨rfl, hs.2⟩

end Go.Proofs.Ybulkccei
