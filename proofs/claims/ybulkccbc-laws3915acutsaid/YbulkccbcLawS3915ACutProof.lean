/-
  THE PROOF OF 'Rows.LawS3915ACutSaid': the frame is the guide's shell for this function (proof-skeleton.mjs), its walk filled by YbulkccbcCutLaw, CutLawB, CutLawC, CutLawD.
-/
import Derived.Test.YbulkccbcRows
import Derived.WalkKit
import Derived.ProofKit
import Derived.OpenShut
import Derived.ShutString
import Derived.ChangeOld
import Derived.Below
import Derived.Test.YbulkccbcCutLawB
import Derived.Test.YbulkccbcCutLawC
import Derived.Test.YbulkccbcCutLawD
namespace Go.Proofs.Ybulkccbc.lawS3915ACut
open Go.ChangeShapes Go.WideShapes Go.ChangeAt Go.RowKit
open Go.ChangeMaps (open_string shut_string)
set_option linter.unusedVariables false

theorem own : ownKnob Yba.prog.godebug = none := by kernel_rfl
theorem laidOut : laidOutB Yba.prog = true := by kernel_rfl

/-- WHAT THE WALK IS TOLD OF A SLICE OF INTEGERS THAT CAME IN: it is nil; or it leads to a row of 'cap' cells, the numbers 'zs' (the first 'len' are its elements, the rest its spare room), each fitting its kind. -/
def IsRow (k : IntKind) (w : World) (a : Option Addr) (len cap : Nat) (zs : List Int) : Prop :=
  (a = none ∧ len = 0 ∧ cap = 0 ∧ zs = []) ∨
  ∃ x, a = some x ∧ len ≤ cap ∧ cap ≤ maxLen ∧ zs.length = cap ∧ (∀ i, i < zs.length → w.cell? (x.add i) = some (.int k (zs.getD i 0))) ∧ ∀ n ∈ zs, (Lit.int k n).wf = true

/-! ### STEP 1: THE WALK: the Go text returns true and writes nothing that was there. -/
set_option maxRecDepth 100000 in
theorem walk_long (a0 : Option Addr) (len cap : Nat) (a1 : Int) (a2 : Bool) (a3 : Int) (h : 1024 < len) (w : World) :
    Calls Yba.prog 3 #[.slice a0 len cap, .int .u8 a1, .bool a2, .int .u64 a3] w fun e w' => e = .returned (.bool true) ∧ Below w.heap.size w w' := by
  go_enter Yba.func3, Yba.ntmps3
  go_wp2
  go_ret
  exact ⟨rfl, Below.refl _ _⟩

theorem mod_le (x m : Int) (hm : 0 < m) : 0 ≤ x % m ∧ x % m < m := ⟨Int.emod_nonneg x (by omega), Int.emod_lt_of_pos x hm⟩

theorem walk (a0 : Option Addr) (len0 cap0 : Nat) (z0 : List Int) (a1 : Int) (a2 : Bool) (a3 : Int) (w : World) (w0 : IsRow .u64 w a0 len0 cap0 z0) (w1 : (Lit.int .u8 a1).wf = true) (w3 : (Lit.int .u64 a3).wf = true) :
    Calls Yba.prog 3 #[.slice a0 len0 cap0, .int .u8 a1, .bool a2, .int .u64 a3] w fun e w' => e = .returned (.bool true) ∧ Below w.heap.size w w' := by
  by_cases hlong : 1024 < len0
  · exact walk_long a0 len0 cap0 a1 a2 a3 hlong w
  obtain ⟨b0, b1⟩ := bounds_u8 w1
  obtain ⟨c0, c1⟩ := bounds_u64 w3
  obtain ⟨p, rfl⟩ : ∃ p : Nat, a1 = p := ⟨a1.toNat, by omega⟩
  obtain ⟨m0, m1⟩ := mod_le a3 ((len0 : Int) + p + 1) (by omega)
  by_cases hz : len0 = 0
  · cases a2 with
    | false => exact acut_narrow_empty a0 len0 cap0 p (a3 % ((len0 : Int) + p + 1)).toNat (fun _ => 0) a3 (by omega) (by omega) (by omega) (by omega) (by omega) c0 c1 w
    | true => exact acut_wide_empty a0 len0 cap0 p (a3 % ((len0 : Int) + p + 1)).toNat (fun _ => 0) a3 (by omega) (by omega) (by omega) (by omega) (by omega) c0 c1 w
  · rcases w0 with ⟨_, h, _, _⟩ | ⟨x, rfl, hl, hm, hzl, hcell, hwf⟩
    · exact absurd h hz
    · obtain ⟨b, off, rfl, hc⟩ := ints_at hcell (by omega)
      have hb : b < w.heap.size := World.block_lt_of_cell? w ⟨b, off + 0, none⟩ (hc 0 (by omega))
      have hD : ∀ i, i < len0 → w.cell? ⟨b, off + i, none⟩ = some (.int .u64 (z0.getD i 0)) := fun i hi => hc i (by omega)
      have hD0 : ∀ i, i < len0 → 0 ≤ z0.getD i 0 ∧ z0.getD i 0 ≤ 18446744073709551615 := fun i hi => by
        refine bounds_u64 (hwf _ ?_)
        have hi' : i < z0.length := by omega
        have e : z0.getD i 0 = z0[i] := by simp [List.getD, hi']
        rw [e]
        exact List.getElem_mem _
      cases a2 with
      | false => exact acut_narrow b off len0 cap0 p (a3 % ((len0 : Int) + p + 1)).toNat (fun i => z0.getD i 0) a3 (by omega) (by omega) (by omega) (by omega) (by omega) c0 c1 w hb hD hD0
      | true => exact acut_wide b off len0 cap0 p (a3 % ((len0 : Int) + p + 1)).toNat (fun i => z0.getD i 0) a3 (by omega) (by omega) (by omega) (by omega) (by omega) c0 c1 w hb hD hD0

/-! ### THE ROW's STEP: WRITTEN OUT: LEAVE IT -/
set_option maxRecDepth 100000 in
theorem lifted (os : Os) (started : os.Started) (H : Type) (enc : TypeId × Value → H) :
    ReturnsInHanded {} Yba.checked os 3 .any (Rows.lawS3915ACutSpec.pre6 enc Yba.prog Yba.f3 Rows.lawS3915ACutRow.domain false) (Rows.lawS3915ACutSpec.post enc Yba.prog Yba.f3 false true false false) := by
  refine returnsInHanded_of_change (C := Yba.checked) own started (by kernel_rfl) Yba.func3
    (ChangeSpec.witness6 (enc := enc) (C := Yba.checked) false ⟨#[], #[.slice none 0 0, .int .u8 0, .bool false, .int .u64 0], []⟩ 8 (by kernel_rfl) (by kernel_rfl) (by kernel_rfl) (by kernel_rfl)) ?_
  intro W base args ds gs before hval0 hW hcnd _
  have hval : ∀ (j : Nat) t v, Yba.f3.params[j]? = some t → args[j]? = some v → Value.okWide Yba.prog W .any base t v := hval0
  have hW' := hW
  obtain ⟨p, q, hA0, hV, rfl, hfz, hnd⟩ := hW
  have hA : DataW.TrodAll enc Yba.prog W 0 (fun _ => true) true Yba.f3.params.toList args.toList ds p := hA0
  rw [Yba.params3] at hA hval
  obtain ⟨v0, vs0, d0, ds0, p0, q0, hargs, rfl, rfl, h0, r0⟩ := trodAll_cons hA
  obtain ⟨v1, vs1, d1, ds1, p1, q1, rfl, rfl, rfl, h1, r1⟩ := trodAll_cons r0
  obtain ⟨v2, vs2, d2, ds2, p2, q2, rfl, rfl, rfl, h2, r2⟩ := trodAll_cons r1
  obtain ⟨v3, vs3, d3, ds3, p3, q3, rfl, rfl, rfl, h3, r3⟩ := trodAll_cons r2
  obtain ⟨rfl, rfl, rfl⟩ := trodAll_nil r3
  obtain rfl : args = #[v0, v1, v2, v3] := by cases args; simp_all
  obtain ⟨rfl, rfl⟩ := trodVars_none hV
  obtain ⟨a0, len0, cap0, rfl⟩ := okWide_slice Yba.underlying22 (hval 0 22 v0 rfl rfl)
  have k0 := h0
  have lt0 : ∀ x ∈ p0, x.block < W.heap.size := by obtain ⟨m, hm⟩ := k0; exact DataW.trod_lt m _ _ _ hm
  obtain ⟨z0, w0⟩ : ∃ zs, IsRow .u64 W a0 len0 cap0 zs := by
    obtain ⟨fuel, hf⟩ := h0
    rcases open_ints Yba.underlying22 Yba.underlying25 (by kernel_rfl) hf with ⟨hcs, _⟩ | ⟨x, l, c, zs, hcs, _, hl, hm, hz, _, hcell, hwz⟩
    · simp [Value.cells] at hcs
      obtain ⟨rfl, rfl, rfl⟩ := hcs
      exact ⟨[], .inl ⟨rfl, rfl, rfl, rfl⟩⟩
    · simp [Value.cells] at hcs
      obtain ⟨rfl, rfl, rfl⟩ := hcs
      exact ⟨zs, .inr ⟨_, rfl, hl, hm, by simpa using hz, hcell, hwz⟩⟩
  obtain ⟨a1, rfl, rfl, rfl, w1⟩ := open_int Yba.underlying5 (hval 1 5 v1 rfl rfl) h1
  obtain ⟨a2, rfl, rfl, rfl⟩ := open_bool Yba.underlying4 (hval 2 4 v2 rfl rfl) h2
  obtain ⟨a3, rfl, rfl, rfl, w3⟩ := open_int Yba.underlying23 (hval 3 23 v3 rfl rfl) h3
  clear hA0 hval0
  refine (walk a0 len0 cap0 z0 a1 a2 a3 W w0 w1 w3).mono fun e W' ⟨he, bel⟩ => ?_
  subst he
  exact ⟨_, rfl, _, _, _, [], _, [], hW', trodAll_mk1 (shut_bool Yba.underlying4 _), (trodAll_cons_mk (Below.trod laidOut (by kernel_rfl) (of_decide_eq_true (by kernel_rfl)) k0 bel lt0) (trodAll_cons_mk (shut_int Yba.underlying5 w1) (trodAll_cons_mk (shut_bool Yba.underlying4 _) (trodAll_cons_mk (shut_int Yba.underlying23 w3) trodAll_mk0)))), rfl, bel.frame _, fun h => by cases h⟩

theorem over : Rows.lawS3915ACutRow.holds Yba.pinned (OpenSpec.ofChange Rows.lawS3915ACutSpec) :=
  OpenClaim.holds_of_wide 3 Yba.f3 rfl rfl rfl rfl rfl rfl rfl ⟨rfl, rfl, rfl, rfl, rfl⟩ rfl rfl rfl rfl rfl (by kernel_rfl) Yba.func3 (by kernel_rfl)
    (of_decide_eq_true (by kernel_rfl)) (by unfold Func.isWrapper; first | (rw [if_pos (by decide +kernel)]; kernel_rfl) | (rw [if_neg (by decide +kernel)]; exact ⟨rfl, rfl⟩))
    (fun os started H enc _ => lifted os started H enc)

/-- ████ THE STATEMENT ████ -/
theorem proved : Rows.LawS3915ACutSaid := over
#print axioms proved
end Go.Proofs.Ybulkccbc.lawS3915ACut
