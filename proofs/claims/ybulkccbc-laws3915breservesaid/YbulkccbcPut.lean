import Derived.Test.YbulkccbcKit
import Derived.WalkSpells
import Derived.WalkLawsBesides
namespace Go.Proofs.Ybulkccbc
open Go.RowKit

/-- The name of item i: one of the five letters. -/
def nm (i : Int) : ByteArray := (ByteArray.mk #[97, 98, 99, 100, 101]).extract (i % 5).toNat ((i % 5).toNat + 1)

theorem name_any (i : Int) (h0 : 0 ≤ i) (w : World) :
    Calls Yba.prog 8 #[.int .i64 i] w fun e w' => e = .returned (.string (nm i)) ∧ w' = w := by
  have h1 : 0 ≤ i % 5 := by omega
  have h2 : i % 5 < 5 := by omega
  go_enter Yba.func8, Yba.ntmps8
  go_wp2
  go_ret
  exact ⟨by show Ending.returned (.string _) = _; rw [nm, show (i % 5 + 1).toNat = (i % 5).toNat + 1 by omega], rfl⟩

/-- The five cells of an Op, laid at place k of the row. -/
def opSet (f : Nat → Value) (k : Nat) (kind tx : Int) (item : ByteArray) (line col : Int) : Nat → Value :=
  upd (upd (upd (upd (upd f (k * 5) (.int .u8 kind)) (k * 5 + 1) (.int .u64 tx)) (k * 5 + 2) (.string item)) (k * 5 + 3) (.int .i64 line)) (k * 5 + 3 + 1) (.int .i64 col)

/-- At place i of the row lies this Op. -/
def OpAt (f : Nat → Value) (i : Nat) (kind tx : Int) (item : ByteArray) (line col : Int) : Prop :=
  f (i * 5) = .int .u8 kind ∧ f (i * 5 + 1) = .int .u64 tx ∧ f (i * 5 + 2) = .string item ∧ f (i * 5 + 3) = .int .i64 line ∧ f (i * 5 + 4) = .int .i64 col

theorem opAt_set (f : Nat → Value) (k : Nat) (kind tx : Int) (item : ByteArray) (line col : Int) : OpAt (opSet f k kind tx item line col) k kind tx item line col := by
  refine ⟨?_, ?_, ?_, ?_, ?_⟩ <;> simp [opSet, upd] <;> omega

theorem opAt_kept (f : Nat → Value) (k i : Nat) (h : i ≠ k) (kind tx : Int) (item : ByteArray) (line col : Int) (kind' tx' : Int) (item' : ByteArray) (line' col' : Int)
    (hi : OpAt f i kind tx item line col) : OpAt (opSet f k kind' tx' item' line' col') i kind tx item line col := by
  obtain ⟨a, b, c, d, e⟩ := hi
  unfold opSet
  refine ⟨?_, ?_, ?_, ?_, ?_⟩ <;> (repeat rw [upd_other _ _ _ _ (by omega)]) <;> assumption

/-- What 'put' leaves where there is room. -/
structure Put (w w' : World) (lb ob L C n : Nat) (f : Nat → Value) : Prop where
  head : w'.cell? ⟨lb, 0, none⟩ = some (.slice (some ⟨ob, 0, none⟩) (L + 1) C)
  row : RowFn w' ob 53 n f
  kept : ∀ b o, b < w.heap.size → b ≠ ob → (b ≠ lb ∨ o ≠ 0) → w'.cell? ⟨b, o, none⟩ = w.cell? ⟨b, o, none⟩
  free : ∀ b o, b < w.heap.size → w'.frozen? ⟨b, o, none⟩ = w.frozen? ⟨b, o, none⟩
  size : w'.heap.size = w.heap.size + 1
  below : ∀ B, B ≤ lb → B ≤ ob → Below B w w'

/-- The world behind 'put', written out. -/
def putW (w : World) (lb ob L C : Nat) (tx line col it kind : Int) (item : ByteArray) : World :=
  ((((((w.setCell ⟨lb, 0, none⟩ (.slice (some ⟨ob, 0, none⟩) (L + 1) C)).setCell ⟨ob, L * 5, none⟩ (.int .u8 kind)).setCell ⟨ob, L * 5 + 1, none⟩ (.int .u64 tx)).setCell ⟨ob, L * 5 + 2, none⟩ (.string item)).setCell ⟨ob, L * 5 + 3, none⟩ (.int .i64 line)).setCell ⟨ob, L * 5 + 3 + 1, none⟩ (.int .i64 col)).alloc
    (.cells #[.int .u64 tx, .int .i64 line, .int .i64 col, .int .u32 it, .int .u8 kind] 71) |>.drew

theorem put_world (lb ob L C n : Nat) (f : Nat → Value) (tx line col it kind : Int) (item : ByteArray) (w : World)
    (hl : w.cell? ⟨lb, 0, none⟩ = some (.slice (some ⟨ob, 0, none⟩) L C)) (hb : lb ≠ ob) (hrow : RowFn w ob 53 n f) :
    Put w (putW w lb ob L C tx line col it kind item) lb ob L C n (opSet f L kind tx item line col) := by
  have hlb : lb < w.heap.size := World.block_lt_of_cell? w _ hl
  have hob := hrow.lt
  have hne : ∀ i : Nat, (⟨ob, i, none⟩ : Addr) ≠ ⟨lb, 0, none⟩ := fun i e => hb (by have := congrArg Addr.block e; exact this.symm)
  unfold putW
  refine ⟨?_, ?_, ?_, ?_, ?_, ?_⟩
  · rw [World.cell?_drew, World.cell?_alloc_lt _ _ _ (by simpa using hlb)]
    iterate 5 rw [World.cell?_setCell_other _ _ _ _ (hne _)]
    exact World.cell?_setCell_same _ _ _ hl
  · exact ((((((hrow.other ⟨lb, 0, none⟩ _ (fun e => hb e.symm)).set _ _).set _ _).set _ _).set _ _).set _ _).alloc _ |>.drew
  · intro b o hlt h1 h2
    have hn1 : ∀ i : Nat, (⟨ob, i, none⟩ : Addr) ≠ ⟨b, o, none⟩ := fun i e => h1 (by have := congrArg Addr.block e; exact this.symm)
    have hn2 : (⟨lb, 0, none⟩ : Addr) ≠ ⟨b, o, none⟩ := fun e => by
      have e1 := congrArg Addr.block e; have e2 := congrArg Addr.off e
      simp only at e1 e2; omega
    rw [World.cell?_drew, World.cell?_alloc_lt _ _ _ (by simpa using hlt)]
    iterate 5 rw [World.cell?_setCell_other _ _ _ _ (hn1 _)]
    rw [World.cell?_setCell_other _ _ _ _ hn2]
  · intro b o hlt
    rw [World.frozen?_drew, World.frozen?_alloc_old _ _ _ (by simp; omega)]
    simp
  · simp
  · intro B h1 h2
    refine Below.drew (Below.alloc ?_ (by simp; omega) _)
    exact ((((((Below.refl B w).setCell (by exact h1) _).setCell (by exact h2) _).setCell (by exact h2) _).setCell (by exact h2) _).setCell (by exact h2) _).setCell (by exact h2) _

theorem put_yes (lb ob L C : Nat) (f : Nat → Value) (tx line col it kind : Int) (item : ByteArray) (w : World)
    (hl : w.cell? ⟨lb, 0, none⟩ = some (.slice (some ⟨ob, 0, none⟩) L C)) (hf : w.frozen? ⟨lb, 0, none⟩ = false) (hlt : L < C) (hC : C ≤ 1000000) (hb : lb ≠ ob)
    (hrow : RowFn w ob 53 (C * 5) f) :
    Calls Yba.prog 9 #[.pointer (some ⟨lb, 0, none⟩), .agg #[.int .u64 tx, .int .i64 line, .int .i64 col, .int .u32 it, .int .u8 kind], .string item] w fun e w' =>
      e = .returned (.bool true) ∧ Put w w' lb ob L C (C * 5) (opSet f L kind tx item line col) := by
  have hlb : lb < w.heap.size := World.block_lt_of_cell? w _ hl
  have hob := hrow.lt
  have hc0 := hrow.cell (L * 5) (by omega)
  have hc1 := hrow.cell (L * 5 + 1) (by omega)
  have hc2 := hrow.cell (L * 5 + 2) (by omega)
  have hc3 := hrow.cell (L * 5 + 3) (by omega)
  have hc4 := hrow.cell (L * 5 + 3 + 1) (by omega)
  have hf0 := hrow.frozen (L * 5)
  have hf1 := hrow.frozen (L * 5 + 1)
  have hf2 := hrow.frozen (L * 5 + 2)
  have hf3 := hrow.frozen (L * 5 + 3)
  have hf4 := hrow.frozen (L * 5 + 3 + 1)
  have HR : Hid (RowFn w ob 53 (C * 5) f) := hrow
  clear hrow
  go_enter Yba.func9, Yba.ntmps9
  go_wp2
  go_region
  go_wp2
  go_ret
  exact ⟨rfl, put_world lb ob L C (C * 5) f tx line col it kind item w hl hb HR.out⟩

/-- No room: nothing is put. -/
theorem put_no (lb ob L : Nat) (tx line col it kind : Int) (item : ByteArray) (w : World)
    (hl : w.cell? ⟨lb, 0, none⟩ = some (.slice (some ⟨ob, 0, none⟩) L L)) (_hC : L ≤ 1000000) :
    Calls Yba.prog 9 #[.pointer (some ⟨lb, 0, none⟩), .agg #[.int .u64 tx, .int .i64 line, .int .i64 col, .int .u32 it, .int .u8 kind], .string item] w fun e w' =>
      e = .returned (.bool false) ∧ w' = w.alloc (.cells #[.int .u64 tx, .int .i64 line, .int .i64 col, .int .u32 it, .int .u8 kind] 71) := by
  have hlb : lb < w.heap.size := World.block_lt_of_cell? w _ hl
  go_enter Yba.func9, Yba.ntmps9
  go_wp2
  go_ret
  exact ⟨rfl, rfl⟩
end Go.Proofs.Ybulkccbc
