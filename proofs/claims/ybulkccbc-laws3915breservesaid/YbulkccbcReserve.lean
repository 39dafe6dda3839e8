import Derived.Test.YbulkccbcPut
import Derived.Deep.RegionLawGrows
import Derived.Deep.QuietTactic
import Derived.BigQuiet
import Derived.Laws.CopyOwn
namespace Go.Proofs.Ybulkccbc
open Go.RowKit

/-- (*opList).len where the blocks hold nothing. -/
theorem len_any (lb : Nat) (a : Option Addr) (L C : Nat) (hL : L ≤ 1000000) (w : World) (h0 : w.cell? ⟨lb, 0, none⟩ = some (.slice a L C)) (h3 : w.cell? ⟨lb, 3, none⟩ = some (.int .i64 0)) :
    Calls Yba.prog 12 #[.pointer (some ⟨lb, 0, none⟩)] w fun e w' => e = .returned (.int .i64 L) ∧ ∃ m, w' = w.drewN m := by
  go_enter Yba.func12, Yba.ntmps12
  go_wp2
  go_quiet (fail)
  go_wp2
  go_ret
  exact ⟨rfl, _, rfl⟩

/-- What is owned and not empty, written out. -/
theorem own_form {w : World} {base size n : Nat} {e : TypeId} {v : Value} {xs : List Value} (h : w.ownsRow base e size v n xs) (hn : 0 < n) : ∃ g cap, v = .slice (some ⟨g, 0, none⟩) n cap := by
  rcases h.2 with ⟨_, h0⟩ | ⟨g, cap, _, hv, _⟩
  · omega
  · exact ⟨g, cap, hv⟩

/-- copy where nothing is copied, whatever the element's size. -/
theorem run_copy_zero {P : Program} (w : World) (dT sT ty elem : TypeId) (i : TypeInfo) (d a : Option Addr) (dLen dCap sLen sCap : Nat) (hu : P.underlying dT = some (.slice elem)) (hq : P.info? elem = some i) (hn : Nat.min sLen dLen = 0) :
    (Builtin.copy_ #[dT, sT] ty #[.slice d dLen dCap, .slice a sLen sCap]).run P w = .ok (goInt 0) w := by
  have hl : ∀ (x : Addr), (loadCells x 0).run P w = .ok #[] w := fun x => by simpa using run_loadCells_list (P := P) w x [] (by simp)
  cases d <;> cases a <;> simp [Builtin.copy_, run_underlying hu, Builtin.lenOf, Builtin.firstCells, sizeOf, typeInfo, hq, hn, storeCells, hl]

theorem Yba.info53 : (Yba.prog.info? 53).map (fun i => (i.zero, i.size, i.bytes)) = some (some (.agg #[.int .u8 0, .int .u64 0, .string ByteArray.empty, .int .i64 0, .int .i64 0]), 5, 48) := by kernel_rfl
theorem Yba.info56 : (Yba.prog.info? 56).map (fun i => (i.zero, i.size, i.bytes)) = some (some (.slice none 0 0), 1, 24) := by kernel_rfl
/-- An Op's zero cells. -/
def zOp : Array Value := #[.int .u8 0, .int .u64 0, .string ByteArray.empty, .int .i64 0, .int .i64 0]

set_option maxRecDepth 100000 in
/-- (*opList).joined of a list that holds nothing: a new slice with room for n. -/
theorem joined_empty (lb n : Nat) (hn : 0 < n) (hn2 : n ≤ 1000) (w : World) (h0 : w.cell? ⟨lb, 0, none⟩ = some (.slice none 0 0)) (h1 : w.cell? ⟨lb, 1, none⟩ = some (.slice none 0 0)) (h2 : w.cell? ⟨lb, 2, none⟩ = some (.slice none 0 0)) (h3 : w.cell? ⟨lb, 3, none⟩ = some (.int .i64 0)) :
    Calls Yba.prog 15 #[.pointer (some ⟨lb, 0, none⟩), .int .i64 n] w fun e w' => e = .returned (.slice (some ⟨w.heap.size, 0, none⟩) 0 n) ∧ Below w.heap.size w w' ∧ ∃ f, RowFn w' w.heap.size 53 (n * 5) f := by
  obtain ⟨i0, hi, hz0, hz1, hz2⟩ := info_parts Yba.info53
  have hlb : lb < w.heap.size := World.block_lt_of_cell? w _ h0
  have hmk : ∀ w, (Instr.makeSlice 46 (.int .i64 0) (.int .i64 ↑n)).run Yba.prog w = .ok (.slice (some ⟨w.heap.size, 0, none⟩) 0 n) (w.alloc (.cells (madeCells zOp (n * 5)) 53)) := by
    intro w
    have := run_make (P := Yba.prog) w 46 53 i0 _ Yba.underlying46 hi hz0 .i64 .i64 0 (n : Int) (by omega) (by omega) (by rw [hz2]; omega) (by omega)
    rw [hz1, Int.toNat_natCast] at this
    exact this
  have ha0 : ∀ k o, ((w.drewN k).alloc o).cell? ⟨lb, 0, none⟩ = some (.slice none 0 0) := fun k o => (World.cell?_alloc_past o lb 0 (by exact hlb)).trans h0
  have ha1 : ∀ k o, ((w.drewN k).alloc o).cell? ⟨lb, 1, none⟩ = some (.slice none 0 0) := fun k o => (World.cell?_alloc_past o lb 1 (by exact hlb)).trans h1
  have ha2 : ∀ k o, ((w.drewN k).alloc o).cell? ⟨lb, 2, none⟩ = some (.slice none 0 0) := fun k o => (World.cell?_alloc_past o lb 2 (by exact hlb)).trans h2
  have hcp : ∀ (a : Option Addr) (w : World), (Builtin.copy_ #[46, 46] 3 #[.slice a 0 n, .slice none 0 0]).run Yba.prog w = .ok (.int .i64 0) w := fun a w => run_copy_zero w 46 46 3 53 i0 a none 0 n 0 0 Yba.underlying46 hi rfl
  go_enter Yba.func15, Yba.ntmps15
  go_wp2_with (go_at_call 12; refine (len_any lb none 0 0 (by omega) _ (by assumption) (by assumption)).mono ?_; rintro e w' ⟨rfl, m, rfl⟩)
  have hfacts : ∀ k, Below w.heap.size w ((w.drewN k).alloc (.cells (madeCells zOp (n * 5)) 53)) ∧ ((w.drewN k).alloc (.cells (madeCells zOp (n * 5)) 53)).heap.size = w.heap.size + 1 ∧ ∃ f, RowFn ((w.drewN k).alloc (.cells (madeCells zOp (n * 5)) 53)) w.heap.size 53 (n * 5) f :=
    fun k => ⟨(below_drewN (Below.refl _ _) k).alloc (by exact Nat.le_refl _) _, by rw [World.size_alloc]; rfl, _, RowFn.new (w.drewN k) _ 53 _ rfl _ (size_madeCells _ _)⟩
  generalize hk : (_ + m : Nat) = k
  obtain ⟨hb3, hs3, f3, hr3⟩ := hfacts k
  have k1 := ha1 k (.cells (madeCells zOp (n * 5)) 53)
  have k2 := ha2 k (.cells (madeCells zOp (n * 5)) 53)
  clear hk hfacts ha0 ha1 ha2 hmk hcp
  generalize hW : ((w.drewN k).alloc (.cells (madeCells zOp (n * 5)) 53)) = W3 at *
  clear hW
  obtain ⟨i1, hj, hy0, hy1, hy2⟩ := info_parts Yba.info56
  have hlb3 : lb < W3.heap.size := by omega
  have s3 : Hid (∀ j u, ([.slice none 0 0] : List Value)[j]? = some u → ((W3.alloc (.cells #[.slice none 0 0] 56)).drew).cell? ((⟨w.heap.size + 1, 0, none⟩ : Addr).add j) = some u) := fun j u hj => by
    match j, hj with
    | 0, hj => simp at hj; subst hj; rw [Addr.add_lit, World.cell?_drew, World.cell?_alloc_at _ _ _ _ hs3.symm]; rfl
  go_region_law (refine step_append_grows rfl (.tmp 27) (.tmp 32) 55 rfl 56 i1 (.slice none 0 0) 1 24 Yba.underlying55 hj hy0 hy1 hy2 rfl (by decide) none 0 0 [] (by simp [Act.eval]) (fun _ => ⟨rfl, rfl⟩) rfl (fun b hb => by cases hb) ⟨w.heap.size + 1, 0, none⟩ 1 1 [.slice none 0 0] (by simp [Act.eval]) rfl s3.out (by intro u hu; simp at hu; subst hu; rfl) (by decide) (by decide) (by decide) ?_; intro v' w' hown hgrow; obtain ⟨g, cap, hv⟩ := own_form hown (by decide); rw [hv])
  all_goals
    rw [hv] at hown
    have hg0 : w'.cell? ⟨g, 0, none⟩ = some (.slice none 0 0) := hown.cellAt 0 (by decide)
    have hb4 : Below w.heap.size w w' := ((hb3.alloc (by omega) _).drew).grown hgrow (by simp; omega) (fun k hk => by cases hk)
    have hr4 : RowFn w' w.heap.size 53 (n * 5) f3 := (hr3.alloc (.cells #[.slice none 0 0] 56)).of_block (hgrow.block _ (by simp; omega) (by simp))
    clear hown hgrow hb3 hr3 s3 hs3 hlb3 k1 k2 hv v'
    go_wp2
    refine wp_loop_rounds 2 ?_
    rw [rounds_succ]
    go_wp2
    refine wp_loop_rounds 1 ?_
    rw [rounds_succ]
    go_wp2
    rw [rounds_succ]
    go_wp2
    go_ret
    exact ⟨rfl, hb4, f3, hr4⟩

/-- newOpList. -/
theorem new_any (w : World) : Calls Yba.prog 10 #[] w fun e w' => e = .returned (.agg #[.slice none 0 0, .slice none 0 0, .slice none 0 0, .int .i64 0, .slice (some ⟨w.heap.size + 1, 0, none⟩) 1 1, .slice none 0 0, .int .i64 0, .int .u64 0, .slice none 0 0, .pointer none, .slice none 0 0, .int .u32 0, .map (some (w.heap.size + 1 + 1)), .map none]) ∧ Below w.heap.size w w' ∧ w'.heap.size = w.heap.size + 3 := by
  have hmm := @run_makeMap Yba.prog
  go_enter Yba.func10, Yba.ntmps10
  go_wp2
  exact bodyPost_ret (v := .agg #[.slice none 0 0, .slice none 0 0, .slice none 0 0, .int .i64 0, .slice (some ⟨w.heap.size + 1, 0, none⟩) 1 1, .slice none 0 0, .int .i64 0, .int .u64 0, .slice none 0 0, .pointer none, .slice none 0 0, .int .u32 0, .map (some (w.heap.size + 1 + 1)), .map none]) (by simp [results, Yba.results10, go_sem]) rfl ⟨rfl, (((Below.refl _ _).alloc (Nat.le_refl _) _).alloc (by simp) _).alloc (by simp; omega) _, by simp⟩

theorem reserve_zero (lb : Nat) (w : World) (h0 : w.cell? ⟨lb, 0, none⟩ = some (.slice none 0 0)) (h3 : w.cell? ⟨lb, 3, none⟩ = some (.int .i64 0)) :
    Calls Yba.prog 11 #[.pointer (some ⟨lb, 0, none⟩), .int .i64 0] w fun e w' => e = .returned (.tuple #[]) ∧ ∃ m, w' = w.drewN m := by
  go_enter Yba.func11, Yba.ntmps11
  go_wp2_with (go_at_call 12; refine (len_any lb none 0 0 (by omega) _ (by assumption) (by assumption)).mono ?_; rintro e w' ⟨rfl, m, rfl⟩)
  go_end0
  exact ⟨rfl, _, rfl⟩

theorem reserved {w1 : World} {lb ob n : Nat} {v0 a0 a1 a2 a3 : Value} {f : Nat → Value} (k0 : w1.cell? ⟨lb, 0, none⟩ = some v0) (k3 : w1.cell? ⟨lb, 3, none⟩ = some a3) (g0 : w1.frozen? ⟨lb, 0, none⟩ = false) (hrow : RowFn w1 ob 53 n f) (hne : ob ≠ lb) :
    let W := ((((w1.setCell ⟨lb, 0, none⟩ a0).setCell ⟨lb, 1, none⟩ a1).setCell ⟨lb, 2, none⟩ a2).setCell ⟨lb, 3, none⟩ a3).drew
    W.cell? ⟨lb, 0, none⟩ = some a0 ∧ W.cell? ⟨lb, 3, none⟩ = some a3 ∧ W.frozen? ⟨lb, 0, none⟩ = false ∧ Below lb w1 W ∧ RowFn W ob 53 n f := by
  intro W
  have ne : ∀ i j : Nat, i ≠ j → (⟨lb, i, none⟩ : Addr) ≠ ⟨lb, j, none⟩ := fun i j h e => h (congrArg Addr.off e)
  refine ⟨?_, ?_, ?_, ?_, ?_⟩
  · show World.cell? _ _ = _
    rw [World.cell?_drew, World.cell?_setCell_other _ _ _ _ (ne 3 0 (by decide)), World.cell?_setCell_other _ _ _ _ (ne 2 0 (by decide)), World.cell?_setCell_other _ _ _ _ (ne 1 0 (by decide))]
    exact World.cell?_setCell_same _ _ _ k0
  · rw [World.cell?_drew]
    refine World.cell?_setCell_same _ _ _ (u := a3) ?_
    rw [World.cell?_setCell_other _ _ _ _ (ne 2 3 (by decide)), World.cell?_setCell_other _ _ _ _ (ne 1 3 (by decide)), World.cell?_setCell_other _ _ _ _ (ne 0 3 (by decide))]
    exact k3
  · rw [World.frozen?_drew]
    simp [g0]
  · exact ((((Below.refl lb w1).setCell (p := ⟨lb, 0, none⟩) (Nat.le_refl _) _).setCell (p := ⟨lb, 1, none⟩) (Nat.le_refl _) _).setCell (p := ⟨lb, 2, none⟩) (Nat.le_refl _) _).setCell (p := ⟨lb, 3, none⟩) (Nat.le_refl _) _ |>.drew
  · exact ((((hrow.other ⟨lb, 0, none⟩ _ hne).other ⟨lb, 1, none⟩ _ hne).other ⟨lb, 2, none⟩ _ hne).other ⟨lb, 3, none⟩ _ hne).drew

/-- reserve(n) of a list that holds nothing. -/
theorem reserve_some (lb n : Nat) (hn : 0 < n) (hn2 : n ≤ 1000) (w : World) (h0 : w.cell? ⟨lb, 0, none⟩ = some (.slice none 0 0)) (h1 : w.cell? ⟨lb, 1, none⟩ = some (.slice none 0 0)) (h2 : w.cell? ⟨lb, 2, none⟩ = some (.slice none 0 0)) (h3 : w.cell? ⟨lb, 3, none⟩ = some (.int .i64 0))
    (f0 : w.frozen? ⟨lb, 0, none⟩ = false) (f1 : w.frozen? ⟨lb, 1, none⟩ = false) (f2 : w.frozen? ⟨lb, 2, none⟩ = false) (f3 : w.frozen? ⟨lb, 3, none⟩ = false) :
    Calls Yba.prog 11 #[.pointer (some ⟨lb, 0, none⟩), .int .i64 n] w fun e w' => e = .returned (.tuple #[]) ∧ w'.cell? ⟨lb, 0, none⟩ = some (.slice (some ⟨w.heap.size, 0, none⟩) 0 n) ∧ w'.cell? ⟨lb, 3, none⟩ = some (.int .i64 0) ∧ w'.frozen? ⟨lb, 0, none⟩ = false ∧
      Below lb w w' ∧ ∃ f, RowFn w' w.heap.size 53 (n * 5) f := by
  have hlb : lb < w.heap.size := World.block_lt_of_cell? w _ h0
  have j0 : ∀ k, (w.drewN k).cell? ⟨lb, 0, none⟩ = some (.slice none 0 0) := fun _ => h0
  have j1 : ∀ k, (w.drewN k).cell? ⟨lb, 1, none⟩ = some (.slice none 0 0) := fun _ => h1
  have j2 : ∀ k, (w.drewN k).cell? ⟨lb, 2, none⟩ = some (.slice none 0 0) := fun _ => h2
  have j3 : ∀ k, (w.drewN k).cell? ⟨lb, 3, none⟩ = some (.int .i64 0) := fun _ => h3
  go_enter Yba.func11, Yba.ntmps11
  go_wp2_with (go_at_call 12; refine (len_any lb none 0 0 (by omega) _ (by assumption) (by assumption)).mono ?_; rintro e w' ⟨rfl, m, rfl⟩)
  refine (joined_empty lb n hn hn2 (w.drewN m) h0 h1 h2 h3).mono ?_
  rintro e w1 ⟨rfl, hbel0, f, hrow⟩
  have hbel : Below w.heap.size w w1 := (below_drewN (Below.refl _ _) m).trans hbel0
  have k0 := (hbel.cell (p := ⟨lb, 0, none⟩) hlb).trans h0
  have k1 := (hbel.cell (p := ⟨lb, 1, none⟩) hlb).trans h1
  have k2 := (hbel.cell (p := ⟨lb, 2, none⟩) hlb).trans h2
  have k3 := (hbel.cell (p := ⟨lb, 3, none⟩) hlb).trans h3
  have g0 := (hbel.frozen (p := ⟨lb, 0, none⟩) hlb).trans f0
  have g1 := (hbel.frozen (p := ⟨lb, 1, none⟩) hlb).trans f1
  have g2 := (hbel.frozen (p := ⟨lb, 2, none⟩) hlb).trans f2
  have g3 := (hbel.frozen (p := ⟨lb, 3, none⟩) hlb).trans f3
  clear hbel0 j0 j1 j2 j3 h0 h1 h2 h3 f0 f1 f2 f3
  go_wp2
  go_region
  go_end0
  obtain ⟨r0, r3, rf, rb, rr⟩ := reserved (a0 := .slice (some ⟨w.heap.size, 0, none⟩) 0 n) (a1 := .slice none 0 0) (a2 := .slice none 0 0) k0 k3 g0 hrow (by show w.heap.size ≠ lb; omega)
  exact ⟨rfl, r0, r3, rf, (hbel.mono (by omega)).trans rb, f, rr⟩

end Go.Proofs.Ybulkccbc
