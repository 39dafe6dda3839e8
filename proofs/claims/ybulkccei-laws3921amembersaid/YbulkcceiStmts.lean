/- A slice of statements {keyword, argument} that came in, read as data: what the walks are told of it. -/
import Derived.Test.YbulkcceiTop
import Derived.ProofKit
import Derived.OpenShut
import Derived.Deep.Slices
namespace Go.Proofs.Ybulkccei
open Go.ChangeShapes Go.WideShapes Go.ChangeAt Go.RowKit

theorem cells40 : Yba.prog.cellsOf 40 = 2 := by kernel_rfl
theorem cells9 : Yba.prog.cellsOf 9 = 1 := by kernel_rfl

/-- It is empty, or a row of pairs of strings. -/
def IsStmts (w : World) (a : Option Addr) (len : Nat) : Prop := len = 0 ∨ ∃ (b off : Nat) (K A : Nat → ByteArray), a = some ⟨b, off, none⟩ ∧ 0 < len ∧ b < w.heap.size ∧ ∀ i, i < len → StmtAt w b off K A i

theorem field_string {P : Program} {H : Type} {enc : TypeId × Value → H} {w : World} {base : Nat} {spare : Nat → Bool} {held : Bool} {T : TypeId} {n j : Nat} {cs : List Value} {y : DataW H × List MemPlace} (hT : P.underlying T = some .string)
    (h : DataW.trod enc P w base spare held n T ((cs.drop j).take 1) = some y) : ∃ v, cs[j]? = some (.string v) := by
  obtain ⟨v, h1, _⟩ := DataW.trod_string hT h
  refine ⟨v, ?_⟩
  have : ((cs.drop j).take 1)[0]? = some (.string v) := by rw [h1]; rfl
  simpa using this

theorem open_stmt {H : Type} {enc : TypeId × Value → H} {W : World} {base : Nat} {spare : Nat → Bool} {held : Bool} {n : Nat} {cs : List Value} {y : DataW H × List MemPlace} (h : DataW.trod enc Yba.prog W base spare held n 40 cs = some y) :
    ∃ v : ByteArray × ByteArray, cs[0]? = some (.string v.1) ∧ cs[1]? = some (.string v.2) := by
  obtain ⟨xs, m, _, _, _, hlen, hf⟩ := DataW.trod_struct Yba.underlying40 h
  match xs, hlen with
  | [y0, y1], _ =>
    have f0 : DataW.trod enc Yba.prog W base spare held m 9 ((cs.drop 0).take (Yba.prog.cellsOf 9)) = some y0 := hf 0 _ rfl
    have f1 : DataW.trod enc Yba.prog W base spare held m 9 ((cs.drop 1).take (Yba.prog.cellsOf 9)) = some y1 := hf 1 _ rfl
    rw [cells9] at f0 f1
    obtain ⟨v0, e0⟩ := field_string Yba.underlying9 f0
    obtain ⟨v1, e1⟩ := field_string Yba.underlying9 f1
    exact ⟨(v0, v1), e0, e1⟩

theorem open_stmts {H : Type} {enc : TypeId × Value → H} {W : World} {a : Option Addr} {len cap : Nat} {d : DataW H} {p : List MemPlace} (h : DataW.Trod enc Yba.prog W 0 (fun _ => true) true 22 (.slice a len cap) d p) : IsStmts W a len := by
  obtain ⟨fuel, hf⟩ := h
  rcases Deep.open_slice Yba.underlying22 hf with ⟨hcs, _⟩ | ⟨x, l, c, m, n, D, Pl, hcs, _, hl, _, hm, _, hel⟩
  · simp [Value.cells] at hcs
    exact .inl hcs.2.1
  · simp [Value.cells] at hcs
    obtain ⟨rfl, rfl, rfl⟩ := hcs
    by_cases h0 : len = 0
    · exact .inl h0
    have hm' : m = cap := by simpa using hm
    have hall : ∀ i, i < len → ∃ v : ByteArray × ByteArray, W.cell? (x.add (i * 2)) = some (.string v.1) ∧ W.cell? (x.add (i * 2 + 1)) = some (.string v.2) := by
      intro i hi
      obtain ⟨cs, hc, ht⟩ := hel i (by omega)
      rw [cells40] at hc
      obtain ⟨_, hlen, hcell⟩ := World.cells?_some hc
      obtain ⟨v, e0, e1⟩ := open_stmt ht
      have c0 := hcell 0 (by decide)
      have c1 := hcell 1 (by decide)
      rw [Deep.add_add] at c0 c1
      exact ⟨v, c0.trans e0, c1.trans e1⟩
    obtain ⟨V, hV⟩ : ∃ V : Nat → ByteArray × ByteArray, ∀ i, i < len → W.cell? (x.add (i * 2)) = some (.string (V i).1) ∧ W.cell? (x.add (i * 2 + 1)) = some (.string (V i).2) := by
      classical
      refine ⟨fun i => if hi : i < len then Classical.choose (hall i hi) else (ByteArray.empty, ByteArray.empty), fun i hi => ?_⟩
      simp only [dif_pos hi]
      exact Classical.choose_spec (hall i hi)
    obtain ⟨b, off, spot⟩ := x
    have hspot : spot = none := by
      have := World.cell?_spot (hV 0 (by omega)).1
      simpa [Addr.add] using this
    subst hspot
    refine .inr ⟨b, off, fun i => (V i).1, fun i => (V i).2, rfl, by omega, ?_, fun i hi => ?_⟩
    · have := (hV 0 (by omega)).1
      rw [Addr.add_lit] at this
      exact World.block_lt_of_cell? W _ this
    · obtain ⟨e0, e1⟩ := hV i hi
      rw [Addr.add_lit] at e0 e1
      exact ⟨e0, e1⟩

end Go.Proofs.Ybulkccei
