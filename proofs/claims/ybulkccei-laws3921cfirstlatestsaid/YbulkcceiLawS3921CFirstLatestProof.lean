/-
  THE PROOF OF 'Rows.LawS3921CFirstLatestSaid': the frame is the guide's way for a law over slices (as in its shells), turned to a slice of strings; the walk: YbulkcceiLatestLaw.
-/
import Derived.Test.YbulkcceiRows
import Derived.WalkKit
import Derived.ProofKit
import Derived.OpenShut
import Derived.ShutString
import Derived.ChangeOld
import Derived.Below
import Derived.SliceStrings
import Derived.Test.YbulkcceiLatestLaw
namespace Go.Proofs.Ybulkccei.lawS3921CFirstLatest
open Go.ChangeShapes Go.WideShapes Go.ChangeAt Go.RowKit
open Go.ChangeMaps (open_string shut_string)
set_option linter.unusedVariables false

theorem laidOut : laidOutB Yba.prog = true := by kernel_rfl
theorem own : ownKnob Yba.prog.godebug = none := by kernel_rfl
theorem cells9 : Yba.prog.cellsOf 9 = 1 := by kernel_rfl

/-- WHAT THE WALK IS TOLD OF THE DATES THAT CAME IN: nil; not nil and empty; or a row of strings. -/
def IsDates (w : World) (a : Option Addr) (len cap : Nat) : Prop :=
  (a = none ∧ len = 0 ∧ cap = 0) ∨ (∃ x, a = some x ∧ len = 0) ∨ ∃ (b off : Nat) (S : Nat → ByteArray), a = some ⟨b, off, none⟩ ∧ 0 < len ∧ b < w.heap.size ∧ ∀ i, i < len → w.cell? ⟨b, off + i, none⟩ = some (.string (S i))

theorem open_dates {H : Type} {enc : TypeId × Value → H} {W : World} {a : Option Addr} {len cap : Nat} {d : DataW H} {p : List MemPlace} (h : DataW.Trod enc Yba.prog W 0 (fun _ => true) true 58 (.slice a len cap) d p) : IsDates W a len cap := by
  obtain ⟨fuel, hf⟩ := h
  rcases open_strings Yba.underlying58 Yba.underlying9 cells9 hf with ⟨hcs, _⟩ | ⟨x, l, c, ss, hcs, _, hl, _, hz, _, hcell, _⟩
  · simp [Value.cells] at hcs
    exact .inl hcs
  · simp [Value.cells] at hcs
    obtain ⟨rfl, rfl, rfl⟩ := hcs
    by_cases h0 : len = 0
    · exact .inr (.inl ⟨x, rfl, h0⟩)
    have hz' : ss.length = cap := by simpa using hz
    obtain ⟨b, off, spot⟩ := x
    have hspot : spot = none := by
      have := World.cell?_spot (hcell 0 (by omega))
      simpa [Addr.add] using this
    subst hspot
    refine .inr (.inr ⟨b, off, fun i => ss.getD i ByteArray.empty, rfl, by omega, ?_, fun i hi => ?_⟩)
    · have := hcell 0 (by omega)
      rw [Addr.add_lit] at this
      exact World.block_lt_of_cell? W _ this
    · have := hcell i (by omega)
      rw [Addr.add_lit] at this
      exact this

/-! ### STEP 1: THE WALK: the Go text returns true and writes nothing that was there. -/
set_option maxRecDepth 100000 in
theorem walk_long (a0 : Option Addr) (len cap : Nat) (h : 4096 < len) (w : World) :
    Calls Yba.prog 7 #[.slice a0 len cap] w fun e w' => e = .returned (.bool true) ∧ Below w.heap.size w w' := by
  go_enter Yba.func7, Yba.ntmps7
  go_wp2_with fail
  go_ret
  exact ⟨rfl, Below.refl _ _⟩

theorem walk (a0 : Option Addr) (len cap : Nat) (w : World) (hd : IsDates w a0 len cap) :
    Calls Yba.prog 7 #[.slice a0 len cap] w fun e w' => e = .returned (.bool true) ∧ Below w.heap.size w w' := by
  by_cases hlong : 4096 < len
  · exact walk_long a0 len cap hlong w
  rcases hd with ⟨rfl, rfl, rfl⟩ | ⟨x, rfl, rfl⟩ | ⟨b, off, S, rfl, hl, hb, hc⟩
  · exact latest_nil w
  · exact latest_empty x cap w
  · exact latest_some b off len cap S hl (by omega) w hb hc

/-! ### THE ROW's STEP: WRITTEN OUT: LEAVE IT -/
set_option maxRecDepth 100000 in
theorem lifted (os : Os) (started : os.Started) (H : Type) (enc : TypeId × Value → H) :
    ReturnsInHanded {} Yba.checked os 7 .any (Rows.lawS3921CFirstLatestSpec.pre6 enc Yba.prog Yba.f7 Rows.lawS3921CFirstLatestRow.domain false) (Rows.lawS3921CFirstLatestSpec.post enc Yba.prog Yba.f7 false true false false) := by
  refine returnsInHanded_of_change (C := Yba.checked) own started (by kernel_rfl) Yba.func7
    (ChangeSpec.witness6 (enc := enc) (C := Yba.checked) false ⟨#[], #[.slice none 0 0], []⟩ 8 (by kernel_rfl) (by kernel_rfl) (by kernel_rfl) (by kernel_rfl)) ?_
  intro W base args ds gs before hval0 hW hcnd _
  have hval : ∀ (j : Nat) t v, Yba.f7.params[j]? = some t → args[j]? = some v → Value.okWide Yba.prog W .any base t v := hval0
  have hW' := hW
  obtain ⟨p, q, hA0, hV, rfl, hfz, hnd⟩ := hW
  have hA : DataW.TrodAll enc Yba.prog W 0 (fun _ => true) true Yba.f7.params.toList args.toList ds p := hA0
  rw [Yba.params7] at hA hval
  obtain ⟨v0, vs0, d0, ds0, p0, q0, hargs, rfl, rfl, h0, r0⟩ := trodAll_cons hA
  obtain ⟨rfl, rfl, rfl⟩ := trodAll_nil r0
  obtain rfl : args = #[v0] := by cases args; simp_all
  obtain ⟨rfl, rfl⟩ := trodVars_none hV
  obtain ⟨a0, len0, cap0, rfl⟩ := okWide_slice Yba.underlying58 (hval 0 58 v0 rfl rfl)
  have k0 := h0
  have lt0 : ∀ x ∈ p0, x.block < W.heap.size := by obtain ⟨m, hm⟩ := k0; exact DataW.trod_lt m _ _ _ hm
  have hd := open_dates h0
  clear hA0 hval0
  refine (walk a0 len0 cap0 W hd).mono fun e W' ⟨he, bel⟩ => ?_
  subst he
  exact ⟨_, rfl, _, _, _, [], _, [], hW', trodAll_mk1 (shut_bool Yba.underlying4 _), (trodAll_cons_mk (Below.trod laidOut (by kernel_rfl) (of_decide_eq_true (by kernel_rfl)) k0 bel lt0) trodAll_mk0), rfl, bel.frame _, fun h => by cases h⟩

theorem over : Rows.lawS3921CFirstLatestRow.holds Yba.pinned (OpenSpec.ofChange Rows.lawS3921CFirstLatestSpec) :=
  OpenClaim.holds_of_wide 7 Yba.f7 rfl rfl rfl rfl rfl rfl rfl ⟨rfl, rfl, rfl, rfl, rfl⟩ rfl rfl rfl rfl rfl (by kernel_rfl) Yba.func7 (by kernel_rfl)
    (of_decide_eq_true (by kernel_rfl)) (by unfold Func.isWrapper; first | (rw [if_pos (by decide +kernel)]; kernel_rfl) | (rw [if_neg (by decide +kernel)]; exact ⟨rfl, rfl⟩))
    (fun os started H enc _ => lifted os started H enc)

/-- ████ THE STATEMENT ████ -/
theorem proved : Rows.LawS3921CFirstLatestSaid := over
#print axioms proved
end Go.Proofs.Ybulkccei.lawS3921CFirstLatest
