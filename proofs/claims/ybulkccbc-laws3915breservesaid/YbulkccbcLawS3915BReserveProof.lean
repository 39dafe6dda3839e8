/-
  THE PROOF OF 'Rows.LawS3915BReserveSaid': the frame is the guide's way for a law over slices (as in its shells), turned to a slice of records; the walk: YbulkccbcReserveLaw, YbulkccbcReserveLawB.
-/
import Derived.Test.YbulkccbcRows
import Derived.WalkKit
import Derived.ProofKit
import Derived.OpenShut
import Derived.ShutString
import Derived.ChangeOld
import Derived.Below
import Derived.Deep.Slices
import Derived.Test.YbulkccbcReserveLawB
namespace Go.Proofs.Ybulkccbc.lawS3915BReserve
open Go.ChangeShapes Go.WideShapes Go.ChangeAt Go.RowKit
open Go.ChangeMaps (open_string shut_string)
set_option linter.unusedVariables false

theorem laidOut : laidOutB Yba.prog = true := by kernel_rfl
theorem own : ownKnob Yba.prog.godebug = none := by kernel_rfl
theorem cells78 : Yba.prog.cellsOf 78 = 5 := by kernel_rfl
theorem cells5 : Yba.prog.cellsOf 5 = 1 := by kernel_rfl
theorem cells25 : Yba.prog.cellsOf 25 = 1 := by kernel_rfl
theorem cells3 : Yba.prog.cellsOf 3 = 1 := by kernel_rfl

/-- WHAT THE WALK IS TOLD OF THE RECORDS THAT CAME IN. -/
def IsRecs (w : World) (a : Option Addr) (len : Nat) : Prop := len = 0 ∨ ∃ b off R, a = some ⟨b, off, none⟩ ∧ b < w.heap.size ∧ ∀ i, i < len → RecAt w b off R i

section
variable {H : Type} {enc : TypeId × Value → H} {w : World} {base : Nat} {spare : Nat → Bool} {held : Bool}

theorem field_int {P : Program} {k : IntKind} {T : TypeId} {n j : Nat} {cs : List Value} {y : DataW H × List MemPlace} (hT : P.underlying T = some (.int k)) (h : DataW.trod enc P w base spare held n T ((cs.drop j).take 1) = some y) :
    ∃ v, cs[j]? = some (.int k v) ∧ (Lit.int k v).wf = true := by
  obtain ⟨v, h1, _, h3⟩ := DataW.trod_int hT h
  refine ⟨v, ?_, h3⟩
  have : ((cs.drop j).take 1)[0]? = some (.int k v) := by rw [h1]; rfl
  simpa using this
end

/-- One record, read as data: its five cells. -/
theorem open_rec {H : Type} {enc : TypeId × Value → H} {W : World} {base : Nat} {spare : Nat → Bool} {held : Bool} {n : Nat} {cs : List Value} {y : DataW H × List MemPlace} (h : DataW.trod enc Yba.prog W base spare held n 78 cs = some y) :
    ∃ v : Int × Int × Int × Int × Int, cs[0]? = some (.int .u8 v.1) ∧ cs[1]? = some (.int .u64 v.2.1) ∧ cs[2]? = some (.int .u8 v.2.2.1) ∧ cs[3]? = some (.int .i64 v.2.2.2.1) ∧ cs[4]? = some (.int .i64 v.2.2.2.2) ∧ (Lit.int .u8 v.2.2.1).wf = true := by
  obtain ⟨xs, m, _, _, _, hlen, hf⟩ := DataW.trod_struct Yba.underlying78 h
  match xs, hlen with
  | [y0, y1, y2, y3, y4], _ =>
    have f0 : DataW.trod enc Yba.prog W base spare held m 5 ((cs.drop 0).take (Yba.prog.cellsOf 5)) = some y0 := hf 0 _ rfl
    rw [cells5] at f0
    have f1 : DataW.trod enc Yba.prog W base spare held m 25 ((cs.drop 1).take (Yba.prog.cellsOf 25)) = some y1 := hf 1 _ rfl
    rw [cells25] at f1
    have f2 : DataW.trod enc Yba.prog W base spare held m 5 ((cs.drop 2).take (Yba.prog.cellsOf 5)) = some y2 := hf 2 _ rfl
    rw [cells5] at f2
    have f3 : DataW.trod enc Yba.prog W base spare held m 3 ((cs.drop 3).take (Yba.prog.cellsOf 3)) = some y3 := hf 3 _ rfl
    rw [cells3] at f3
    have f4 : DataW.trod enc Yba.prog W base spare held m 3 ((cs.drop 4).take (Yba.prog.cellsOf 3)) = some y4 := hf 4 _ rfl
    rw [cells3] at f4
    obtain ⟨v0, e0, _⟩ := field_int Yba.underlying5 (y := y0) f0
    obtain ⟨v1, e1, _⟩ := field_int Yba.underlying25 (y := y1) f1
    obtain ⟨v2, e2, g2⟩ := field_int Yba.underlying5 (y := y2) f2
    obtain ⟨v3, e3, _⟩ := field_int Yba.underlying3 (y := y3) f3
    obtain ⟨v4, e4, _⟩ := field_int Yba.underlying3 (y := y4) f4
    exact ⟨(v0, v1, v2, v3, v4), e0, e1, e2, e3, e4, g2⟩

theorem open_recs {H : Type} {enc : TypeId × Value → H} {W : World} {a : Option Addr} {len cap : Nat} {d : DataW H} {p : List MemPlace} (h : DataW.Trod enc Yba.prog W 0 (fun _ => true) true 75 (.slice a len cap) d p) : IsRecs W a len := by
  obtain ⟨fuel, hf⟩ := h
  rcases Deep.open_slice Yba.underlying75 hf with ⟨hcs, _⟩ | ⟨x, l, c, m, n, D, Pl, hcs, _, hl, _, hm, _, hel⟩
  · simp [Value.cells] at hcs
    exact .inl hcs.2.1
  · simp [Value.cells] at hcs
    obtain ⟨rfl, rfl, rfl⟩ := hcs
    by_cases h0 : len = 0
    · exact .inl h0
    have hm' : m = cap := by simpa using hm
    have hall : ∀ i, i < len → ∃ v : Int × Int × Int × Int × Int, W.cell? (x.add (i * 5)) = some (.int .u8 v.1) ∧ W.cell? (x.add (i * 5 + 1)) = some (.int .u64 v.2.1) ∧ W.cell? (x.add (i * 5 + 2)) = some (.int .u8 v.2.2.1) ∧ W.cell? (x.add (i * 5 + 3)) = some (.int .i64 v.2.2.2.1) ∧ W.cell? (x.add (i * 5 + 4)) = some (.int .i64 v.2.2.2.2) ∧ (Lit.int .u8 v.2.2.1).wf = true := by
      intro i hi
      obtain ⟨cs, hc, ht⟩ := hel i (by omega)
      rw [cells78] at hc
      obtain ⟨_, hlen, hcell⟩ := World.cells?_some hc
      obtain ⟨v, e0, e1, e2, e3, e4, g⟩ := open_rec ht
      have c0 := hcell 0 (by decide)
      have c1 := hcell 1 (by decide)
      have c2 := hcell 2 (by decide)
      have c3 := hcell 3 (by decide)
      have c4 := hcell 4 (by decide)
      rw [Deep.add_add] at c0 c1 c2 c3 c4
      exact ⟨v, c0.trans e0, c1.trans e1, c2.trans e2, c3.trans e3, c4.trans e4, g⟩
    obtain ⟨V, hV⟩ := Deep.choose_lt hall
    obtain ⟨b, off, spot⟩ := x
    have hspot : spot = none := by
      have := World.cell?_spot (hV 0 (by omega)).1
      simpa [Addr.add] using this
    subst hspot
    refine .inr ⟨b, off, ⟨fun i => (V i).1, fun i => (V i).2.1, fun i => (V i).2.2.1, fun i => (V i).2.2.2.1, fun i => (V i).2.2.2.2⟩, rfl, ?_, fun i hi => ?_⟩
    · have := (hV 0 (by omega)).1
      rw [Addr.add_lit] at this
      exact World.block_lt_of_cell? W _ this
    · obtain ⟨e0, e1, e2, e3, e4, g⟩ := hV i hi
      rw [Addr.add_lit] at e0 e1 e2 e3 e4
      obtain ⟨g0, g1⟩ := bounds_u8 g
      exact ⟨e0, e1, e2, e3, e4, g0, g1⟩

/-! ### STEP 1: THE WALK: the Go text returns true and writes nothing that was there. -/
set_option maxRecDepth 100000 in
theorem walk_long (a0 : Int) (a1 : Option Addr) (len cap : Nat) (h : 1024 < len) (w : World) :
    Calls Yba.prog 5 #[.int .u16 a0, .slice a1 len cap] w fun e w' => e = .returned (.bool true) ∧ Below w.heap.size w w' := by
  go_enter Yba.func5, Yba.ntmps5
  go_wp2_with fail
  go_ret
  exact ⟨rfl, Below.refl _ _⟩

theorem walk (a0 : Int) (a1 : Option Addr) (len cap : Nat) (w : World) (w0 : (Lit.int .u16 a0).wf = true) (hr : IsRecs w a1 len) :
    Calls Yba.prog 5 #[.int .u16 a0, .slice a1 len cap] w fun e w' => e = .returned (.bool true) ∧ Below w.heap.size w w' := by
  by_cases hlong : 1024 < len
  · exact walk_long a0 a1 len cap hlong w
  obtain ⟨b0, b1⟩ := bounds_u16 w0
  rcases hr with h0 | ⟨b, off, R, rfl, hb, hR⟩
  · by_cases hz : a0 % 300 ≤ 0
    · exact res_zero_empty a1 len cap a0 (by omega) hz b0 b1 w
    · exact res_some_empty a1 len cap (a0 % 300).toNat a0 ⟨fun _ => 0, fun _ => 0, fun _ => 0, fun _ => 0, fun _ => 0⟩ (by omega) (by omega) (by omega) (by omega) b0 b1 w
  · by_cases hz : a0 % 300 ≤ 0
    · exact res_zero b off len cap a0 R (by omega) hz b0 b1 w hb hR
    · exact res_some b off len cap (a0 % 300).toNat a0 R (by omega) (by omega) (by omega) (by omega) b0 b1 w hb hR

/-! ### THE ROW's STEP: WRITTEN OUT: LEAVE IT -/
set_option maxRecDepth 100000 in
theorem lifted (os : Os) (started : os.Started) (H : Type) (enc : TypeId × Value → H) :
    ReturnsInHanded {} Yba.checked os 5 .any (Rows.lawS3915BReserveSpec.pre6 enc Yba.prog Yba.f5 Rows.lawS3915BReserveRow.domain false) (Rows.lawS3915BReserveSpec.post enc Yba.prog Yba.f5 false true false false) := by
  refine returnsInHanded_of_change (C := Yba.checked) own started (by kernel_rfl) Yba.func5
    (ChangeSpec.witness6 (enc := enc) (C := Yba.checked) false ⟨#[], #[.int .u16 0, .slice none 0 0], []⟩ 8 (by kernel_rfl) (by kernel_rfl) (by kernel_rfl) (by kernel_rfl)) ?_
  intro W base args ds gs before hval0 hW hcnd _
  have hval : ∀ (j : Nat) t v, Yba.f5.params[j]? = some t → args[j]? = some v → Value.okWide Yba.prog W .any base t v := hval0
  have hW' := hW
  obtain ⟨p, q, hA0, hV, rfl, hfz, hnd⟩ := hW
  have hA : DataW.TrodAll enc Yba.prog W 0 (fun _ => true) true Yba.f5.params.toList args.toList ds p := hA0
  rw [Yba.params5] at hA hval
  obtain ⟨v0, vs0, d0, ds0, p0, q0, hargs, rfl, rfl, h0, r0⟩ := trodAll_cons hA
  obtain ⟨v1, vs1, d1, ds1, p1, q1, rfl, rfl, rfl, h1, r1⟩ := trodAll_cons r0
  obtain ⟨rfl, rfl, rfl⟩ := trodAll_nil r1
  obtain rfl : args = #[v0, v1] := by cases args; simp_all
  obtain ⟨rfl, rfl⟩ := trodVars_none hV
  obtain ⟨a0, rfl, rfl, rfl, w0⟩ := open_int Yba.underlying74 (hval 0 74 v0 rfl rfl) h0
  obtain ⟨a1, len1, cap1, rfl⟩ := okWide_slice Yba.underlying75 (hval 1 75 v1 rfl rfl)
  have k1 := h1
  have lt1 : ∀ x ∈ p1, x.block < W.heap.size := by obtain ⟨m, hm⟩ := k1; exact DataW.trod_lt m _ _ _ hm
  have hrecs := open_recs h1
  clear hA0 hval0
  refine (walk a0 a1 len1 cap1 W w0 hrecs).mono fun e W' ⟨he, bel⟩ => ?_
  subst he
  exact ⟨_, rfl, _, _, _, [], _, [], hW', trodAll_mk1 (shut_bool Yba.underlying4 _), (trodAll_cons_mk (shut_int Yba.underlying74 w0) (trodAll_cons_mk (Below.trod laidOut (by kernel_rfl) (of_decide_eq_true (by kernel_rfl)) k1 bel lt1) trodAll_mk0)), rfl, bel.frame _, fun h => by cases h⟩

theorem over : Rows.lawS3915BReserveRow.holds Yba.pinned (OpenSpec.ofChange Rows.lawS3915BReserveSpec) :=
  OpenClaim.holds_of_wide 5 Yba.f5 rfl rfl rfl rfl rfl rfl rfl ⟨rfl, rfl, rfl, rfl, rfl⟩ rfl rfl rfl rfl rfl (by kernel_rfl) Yba.func5 (by kernel_rfl)
    (of_decide_eq_true (by kernel_rfl)) (by unfold Func.isWrapper; first | (rw [if_pos (by decide +kernel)]; kernel_rfl) | (rw [if_neg (by decide +kernel)]; exact ⟨rfl, rfl⟩))
    (fun os started H enc _ => lifted os started H enc)

/-- ████ THE STATEMENT ████ -/
theorem proved : Rows.LawS3915BReserveSaid := over
#print axioms proved
end Go.Proofs.Ybulkccbc.lawS3915BReserve
