import Derived.Test.YbulkcceiKit
import Derived.WalkSpells
import Derived.WalkLawsBesides
import Derived.Deep.QuietTactic
import Derived.BigQuiet
import Derived.Deep.RegionHeldLaw
import Derived.Deep.RegionLaw
import Derived.Deep.AppendLies
namespace Go.Proofs.Ybulkccei
open Go.RowKit

theorem Yba.info24 : (Yba.prog.info? 24).map (fun i => (i.zero, i.size, i.bytes)) = some (some (.pointer none), 1, 8) := by kernel_rfl

/-- The pointers to the first k substatements: statement i lies in block Pt i. -/
def ptrs (Pt : Nat → Nat) (k : Nat) : List Value := (List.range k).map fun i => .pointer (some ⟨Pt i, 0, none⟩)
theorem ptrs_length (Pt : Nat → Nat) (k : Nat) : (ptrs Pt k).length = k := by simp [ptrs]

/-- Statement i: its keyword and its argument. -/
def KidAt (wr : World) (b : Nat) (s t : ByteArray) : Prop := ∃ f, RowFn wr b 44 6 f ∧ f 0 = .string s ∧ f 1 = .string t

/-- The top with k substatements, as the law makes it; it lies in block N. -/
structure Tree (w wr : World) (N : Nat) (K A : Nat → ByteArray) (k : Nat) (v : Value) (Pt : Nat → Nat) : Prop where
  head : wr.cell? ⟨N, 5, none⟩ = some v
  free : wr.frozen? ⟨N, 5, none⟩ = false
  own : wr.ownsRow (N + 1) 24 1 v k (ptrs Pt k)
  kids : ∀ i, i < k → N < Pt i ∧ KidAt wr (Pt i) (K i) (A i)
  below : Below N w wr
  size : N < wr.heap.size

/-- Two strings, side by side, at place i of the row that came in. -/
structure StmtAt (w : World) (b off : Nat) (K A : Nat → ByteArray) (i : Nat) : Prop where
  kw : w.cell? ⟨b, off + i * 2, none⟩ = some (.string (K i))
  arg : w.cell? ⟨b, off + i * 2 + 1, none⟩ = some (.string (A i))

theorem own_not {wr : World} {base : Nat} {e : TypeId} {v : Value} {n : Nat} {xs : List Value} (h : wr.ownsRow base e 1 v n xs) {b : Nat} (hb : b < base) : some b ≠ v.ownBlock := by
  rcases h.2 with ⟨rfl, _⟩ | ⟨g, cap, cur, rfl, hg, _⟩
  · simp [Value.ownBlock]
  · intro e; simp [Value.ownBlock] at e; omega

theorem own_kid {wr : World} {base : Nat} {v : Value} {n : Nat} {xs : List Value} (h : wr.ownsRow base 24 1 v n xs) {b : Nat} {s t : ByteArray} (hk : KidAt wr b s t) : some b ≠ v.ownBlock := by
  obtain ⟨f, ⟨cs, h1, _⟩, _⟩ := hk
  rcases h.2 with ⟨rfl, _⟩ | ⟨g, cap, cur, rfl, _, hh, _⟩
  · simp [Value.ownBlock]
  · intro e
    simp [Value.ownBlock] at e
    subst e
    rw [hh] at h1
    simp at h1

theorem own_lt {wr : World} {base : Nat} {e : TypeId} {v : Value} {n : Nat} {xs : List Value} (h : wr.ownsRow base e 1 v n xs) {b : Nat} (hb : wr.heap.size ≤ b) : some b ≠ v.ownBlock := by
  rcases h.2 with ⟨rfl, _⟩ | ⟨g, cap, cur, rfl, _, hh, _⟩
  · simp [Value.ownBlock]
  · intro e
    have := lt_of_block hh
    simp [Value.ownBlock] at e
    omega

theorem KidAt.of_block {w w' : World} {b : Nat} {s t : ByteArray} (h : KidAt w b s t) (e : w'.heap[b]? = w.heap[b]?) : KidAt w' b s t := by
  obtain ⟨f, h1, h2⟩ := h
  exact ⟨f, h1.of_block e, h2⟩
theorem KidAt.lt {w : World} {b : Nat} {s t : ByteArray} (h : KidAt w b s t) : b < w.heap.size := by
  obtain ⟨f, h1, _⟩ := h
  exact h1.lt

theorem Tree.alloc {w wr : World} {N k : Nat} {K A : Nat → ByteArray} {v : Value} {Pt : Nat → Nat} (h : Tree w wr N K A k v Pt) (o : Obj) : Tree w (wr.alloc o) N K A k v Pt := by
  have hs := h.size
  exact ⟨by rw [World.cell?_alloc_past _ _ _ hs]; exact h.head, by rw [World.frozen?_alloc_past _ _ _ hs]; exact h.free, h.own.alloc o,
    fun i hi => ⟨(h.kids i hi).1, (h.kids i hi).2.of_block (Below.heap_alloc _ _ _ (h.kids i hi).2.lt)⟩, h.below.alloc (by omega) o, by simp; omega⟩
theorem Tree.drewN {w wr : World} {N k : Nat} {K A : Nat → ByteArray} {v : Value} {Pt : Nat → Nat} (h : Tree w wr N K A k v Pt) (m : Nat) : Tree w (wr.drewN m) N K A k v Pt :=
  ⟨h.head, h.free, h.own, fun i hi => ⟨(h.kids i hi).1, (h.kids i hi).2.of_block rfl⟩, below_drewN h.below m, h.size⟩

/-- Behind the append the top's own cell is as it was. -/
theorem Tree.far {w W4 w5 : World} {N k : Nat} {K A : Nat → ByteArray} {v : Value} {Pt : Nat → Nat} (h : Tree w W4 N K A k v Pt) (hg : W4.grownBy w5 v.ownBlock) : w5.cell? ⟨N, 5, none⟩ = some v ∧ w5.frozen? ⟨N, 5, none⟩ = false :=
  ⟨(hg.cell_far _ h.size (own_not h.own (Nat.lt_succ_self N))).trans h.head, (hg.frozen_far _ h.size (own_not h.own (Nat.lt_succ_self N))).trans h.free⟩

/-- One substatement more: it lies in block P. -/
theorem Tree.push {w W4 w5 : World} {N k P g cap : Nat} {K A : Nat → ByteArray} {v : Value} {Pt : Nat → Nat} (h : Tree w W4 N K A k v Pt) (hk : KidAt W4 P (K k) (A k)) (hP : N < P) (hPv : some P ≠ v.ownBlock)
    (hown : w5.ownsRow (N + 1) 24 1 (.slice (some ⟨g, 0, none⟩) (k + 1) cap) (k + 1) (ptrs Pt k ++ [.pointer (some ⟨P, 0, none⟩)])) (hg : W4.grownBy w5 v.ownBlock) :
    ∃ Pt', Tree w (w5.setCell ⟨N, 5, none⟩ (.slice (some ⟨g, 0, none⟩) (k + 1) cap)) N K A (k + 1) (.slice (some ⟨g, 0, none⟩) (k + 1) cap) Pt' := by
  have hf := h.far hg
  refine ⟨fun i => if i = k then P else Pt i, World.cell?_setCell_same _ _ _ hf.1, by rw [World.frozen?_setCell]; exact hf.2, ?_, fun i hi => ?_, ?_, ?_⟩
  · have e : ptrs (fun i => if i = k then P else Pt i) (k + 1) = ptrs Pt k ++ [.pointer (some ⟨P, 0, none⟩)] := by
      unfold ptrs
      rw [List.range_succ, List.map_append]
      congr 1
      · apply List.map_congr_left
        intro i hi
        simp at hi
        simp [show ¬ i = k by omega]
      · simp
    rw [e]
    exact ownsRow_setCell_below hown (Nat.lt_succ_self N) _
  · by_cases e : i = k
    · subst e
      simp only [if_true]
      refine ⟨hP, (hk.of_block (hg.block _ hk.lt hPv)).of_block (heap_setCell_other _ _ _ _ (show P ≠ N by omega))⟩
    · simp only [e, if_false]
      obtain ⟨a, c⟩ := h.kids i (by omega)
      exact ⟨a, (c.of_block (hg.block _ c.lt (own_kid h.own c))).of_block (heap_setCell_other _ _ _ _ (show Pt i ≠ N by omega))⟩
  · refine (h.below.grown hg (Nat.le_of_lt h.size) (fun b hb => ?_)).setCell (p := ⟨N, 5, none⟩) (Nat.le_refl _) _
    rcases Nat.lt_or_ge b N with hlt | hge
    · exact absurd hb.symm (own_not h.own (by omega))
    · exact hge
  · have := hg.size
    have := h.size
    simp; omega

set_option maxRecDepth 100000 in
set_option maxHeartbeats 4000000 in
theorem top_any (b off len cap : Nat) (K A : Nat → ByteArray) (kw nm : ByteArray) (hlen : len ≤ 1024) (w : World) (hb : b < w.heap.size) (hD : ∀ i, i < len → StmtAt w b off K A i) :
    Calls Yba.prog 8 #[.slice (some ⟨b, off, none⟩) len cap, .string kw, .string nm] w fun e w' => e = .returned (.pointer (some ⟨w.heap.size, 0, none⟩)) ∧ ∃ v Pt, Tree w w' w.heap.size K A len v Pt := by
  obtain ⟨i0, hi, hz0, hz1, hz2⟩ := info_parts Yba.info24
  go_enter Yba.func8, Yba.ntmps8
  go_wp2_with fail
  go_loopw [8] (fun i wr => ∃ k : Nat, k ≤ len ∧ i = .int .i64 k ∧ ∃ v Pt, Tree w wr w.heap.size K A k v Pt) (fun i _ => len - (intOf i).toNat)
  case atStart =>
    exact ⟨0, Nat.zero_le _, rfl, .slice none 0 0, fun _ => 0, by simp [go_sem], by simp [go_sem], World.ownsRow_nil _ _ _ _, fun i h => absurd h (Nat.not_lt_zero _), (Below.refl _ _).alloc (Nat.le_refl _) _, by simp⟩
  case round =>
    obtain ⟨k, hk, rfl, v, Pt, hx⟩ := hrel
    by_cases hlt : k < len
    · have e0 := (hx.below.cell (p := ⟨b, off + k * 2, none⟩) hb).trans (hD k hlt).kw
      have e1 := (hx.below.cell (p := ⟨b, off + k * 2 + 1, none⟩) hb).trans (hD k hlt).arg
      have hki : (k : Int) < len := by omega
      have hsz := hx.size
      go_wp2_with fail
      generalize hcb : wr.heap.size = cb at hsz ⊢
      have hx1 := hx.alloc (.cells #[.string kw, .string nm, .bool false, .int .i64 0, .int .i64 0, .slice none 0 0] 44)
      have b0 : (wr.alloc (.cells #[.string kw, .string nm, .bool false, .int .i64 0, .int .i64 0, .slice none 0 0] 44)).cell? ⟨b, off + k * 2, none⟩ = some (.string (K k)) := by rw [World.cell?_alloc_past _ _ _ (by omega)]; exact e0
      have b1 : (wr.alloc (.cells #[.string kw, .string nm, .bool false, .int .i64 0, .int .i64 0, .slice none 0 0] 44)).cell? ⟨b, off + k * 2 + 1, none⟩ = some (.string (A k)) := by rw [World.cell?_alloc_past _ _ _ (by omega)]; exact e1
      clear hx e0 e1 hcb hsz
      generalize (wr.alloc (.cells #[.string kw, .string nm, .bool false, .int .i64 0, .int .i64 0, .slice none 0 0] 44)) = W1 at hx1 b0 b1 ⊢
      have c5 := hx1.head
      have hsz := hx1.size
      have hbW : b < W1.heap.size := by omega
      have hs1 : w.heap.size < W1.heap.size + 1 := by omega
      have hs2 : w.heap.size < W1.heap.size + 1 + 1 := by omega
      have hb1 : b < W1.heap.size + 1 := by omega
      have hb2 : b < W1.heap.size + 1 + 1 := by omega
      have HT : Hid (Tree w ((((W1.alloc (.cells #[.pointer (some ⟨cb, 0, none⟩)] 24)).alloc (.cells #[.string (K k), .string (A k), .bool false, .int .i64 0, .int .i64 0, .slice (some ⟨W1.heap.size, 0, none⟩) 1 1] 44)).alloc (.cells #[.pointer (some ⟨W1.heap.size + 1, 0, none⟩)] 24)).drew) w.heap.size K A k v Pt) := (((hx1.alloc _).alloc _).alloc _).drewN 1
      have HK : Hid (KidAt ((((W1.alloc (.cells #[.pointer (some ⟨cb, 0, none⟩)] 24)).alloc (.cells #[.string (K k), .string (A k), .bool false, .int .i64 0, .int .i64 0, .slice (some ⟨W1.heap.size, 0, none⟩) 1 1] 44)).alloc (.cells #[.pointer (some ⟨W1.heap.size + 1, 0, none⟩)] 24)).drew) (W1.heap.size + 1) (K k) (A k)) := ⟨_, ((RowFn.new (W1.alloc (.cells #[.pointer (some ⟨cb, 0, none⟩)] 24)) _ 44 (W1.heap.size + 1) (by simp) 6 rfl).alloc _).drew, rfl, rfl⟩
      have HN : Hid (∀ j u, ([.pointer (some ⟨W1.heap.size + 1, 0, none⟩)] : List Value)[j]? = some u → ((((W1.alloc (.cells #[.pointer (some ⟨cb, 0, none⟩)] 24)).alloc (.cells #[.string (K k), .string (A k), .bool false, .int .i64 0, .int .i64 0, .slice (some ⟨W1.heap.size, 0, none⟩) 1 1] 44)).alloc (.cells #[.pointer (some ⟨W1.heap.size + 1, 0, none⟩)] 24)).drew).cell? ((⟨W1.heap.size + 1 + 1, 0, none⟩ : Addr).add j) = some u) := fun j u hj => by
        match j, hj with
        | 0, hj => simp at hj; subst hj; rw [Addr.add_lit, World.cell?_drew, World.cell?_alloc_at _ _ _ _ (by simp)]; rfl
      have HV : Hid (some (W1.heap.size + 1) ≠ v.ownBlock) := own_lt hx1.own (by omega)
      have hbytes : (k + 1) * 8 ≤ 140737488355328 := by omega
      have h63 : Hid (k + 1 ≤ maxLen) := by show k + 1 ≤ maxLen; unfold maxLen; omega
      clear hx1 hD
      go_region_law (refine step_append_lies _ rfl (.tmp 28) (.tmp 43) 27 rfl (w.heap.size + 1) 24 i0 (.pointer none) 1 8 Yba.underlying27 hi hz0 hz1 hz2 rfl (by decide) v k (ptrs Pt k) (by simp [Act.eval]) HT.out.own ⟨W1.heap.size + 1 + 1, 0, none⟩ 1 1 [.pointer (some ⟨W1.heap.size + 1, 0, none⟩)] (by simp [Act.eval]) rfl HN.out (by intro u hu; simp at hu; subst hu; rfl) (by decide) h63.out hbytes (by exact HT.out.size) _ rfl ?_; intro g cap2 w5 hown hgrow hat hlt5; have c6 := (HT.out.far hgrow).1; have f6 := (HT.out.far hgrow).2)
      all_goals
        obtain ⟨Pt2, hx2⟩ := HT.out.push HK.out (by omega) HV.out hown hgrow
        clear hown hgrow hat HT HK HN HV
        go_wp2_with fail
        go_roundw
        case rel => exact ⟨k + 1, by omega, by go_num, _, Pt2, hx2⟩
        case measure => simp [intOf]; omega
    · go_wp2_with fail
      go_ret
      obtain rfl : k = len := by omega
      exact ⟨rfl, v, Pt, hx⟩
end Go.Proofs.Ybulkccei
