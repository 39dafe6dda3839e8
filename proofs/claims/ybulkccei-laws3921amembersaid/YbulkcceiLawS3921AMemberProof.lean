/-
  THE PROOF OF 'Rows.LawS3921AMemberSaid': the frame is the guide's way for a law over slices (as in its shells), turned to a slice of pairs of strings; the walk: YbulkcceiMemberLaw.
-/
import Derived.Test.YbulkcceiRows
import Derived.WalkKit
import Derived.ProofKit
import Derived.OpenShut
import Derived.ShutString
import Derived.ChangeOld
import Derived.Below
import Derived.Test.YbulkcceiStmts
import Derived.Test.YbulkcceiMemberLaw
namespace Go.Proofs.Ybulkccei.lawS3921AMember
open Go.ChangeShapes Go.WideShapes Go.ChangeAt Go.RowKit
open Go.ChangeMaps (open_string shut_string)
set_option linter.unusedVariables false

theorem laidOut : laidOutB Yba.prog = true := by kernel_rfl
theorem own : ownKnob Yba.prog.godebug = none := by kernel_rfl

/-! ### STEP 1: THE WALK: the Go text returns true and writes nothing that was there. -/
set_option maxRecDepth 100000 in
theorem walk_long (a0 : Option Addr) (len cap : Nat) (a1 : Int) (kw nm : ByteArray) (h : 1024 < len) (w : World) :
    Calls Yba.prog 4 #[.slice a0 len cap, .int .u64 a1, .string kw, .string nm] w fun e w' => e = .returned (.bool true) ∧ Below w.heap.size w w' := by
  go_enter Yba.func4, Yba.ntmps4
  go_wp2_with fail
  go_ret
  exact ⟨rfl, Below.refl _ _⟩

theorem mod_le (x m : Int) (hm : 0 < m) : 0 ≤ x % m ∧ x % m < m := ⟨Int.emod_nonneg x (by omega), Int.emod_lt_of_pos x hm⟩

theorem walk (a0 : Option Addr) (len cap : Nat) (a1 : Int) (kw nm : ByteArray) (w : World) (w1 : (Lit.int .u64 a1).wf = true) (hd : IsStmts w a0 len) :
    Calls Yba.prog 4 #[.slice a0 len cap, .int .u64 a1, .string kw, .string nm] w fun e w' => e = .returned (.bool true) ∧ Below w.heap.size w w' := by
  by_cases hlong : 1024 < len
  · exact walk_long a0 len cap a1 kw nm hlong w
  obtain ⟨b0, b1⟩ := bounds_u64 w1
  rcases hd with rfl | ⟨b, off, K, A, rfl, hl, hb, hc⟩
  · exact member_empty a0 cap a1 kw nm w
  · obtain ⟨m0, m1⟩ := mod_le a1 (len : Int) (by omega)
    exact member_any b off len cap K A a1 kw nm hl (by omega) b0 b1 m0 m1 w hb hc

/-! ### THE ROW's STEP: WRITTEN OUT: LEAVE IT -/
set_option maxRecDepth 100000 in
theorem lifted (os : Os) (started : os.Started) (H : Type) (enc : TypeId × Value → H) :
    ReturnsInHanded {} Yba.checked os 4 .any (Rows.lawS3921AMemberSpec.pre6 enc Yba.prog Yba.f4 Rows.lawS3921AMemberRow.domain false) (Rows.lawS3921AMemberSpec.post enc Yba.prog Yba.f4 false true false false) := by
  refine returnsInHanded_of_change (C := Yba.checked) own started (by kernel_rfl) Yba.func4
    (ChangeSpec.witness6 (enc := enc) (C := Yba.checked) false ⟨#[], #[.slice none 0 0, .int .u64 0, .string ByteArray.empty, .string ByteArray.empty], []⟩ 8 (by kernel_rfl) (by kernel_rfl) (by kernel_rfl) (by kernel_rfl)) ?_
  intro W base args ds gs before hval0 hW hcnd _
  have hval : ∀ (j : Nat) t v, Yba.f4.params[j]? = some t → args[j]? = some v → Value.okWide Yba.prog W .any base t v := hval0
  have hW' := hW
  obtain ⟨p, q, hA0, hV, rfl, hfz, hnd⟩ := hW
  have hA : DataW.TrodAll enc Yba.prog W 0 (fun _ => true) true Yba.f4.params.toList args.toList ds p := hA0
  rw [Yba.params4] at hA hval
  obtain ⟨v0, vs0, d0, ds0, p0, q0, hargs, rfl, rfl, h0, r0⟩ := trodAll_cons hA
  obtain ⟨v1, vs1, d1, ds1, p1, q1, rfl, rfl, rfl, h1, r1⟩ := trodAll_cons r0
  obtain ⟨v2, vs2, d2, ds2, p2, q2, rfl, rfl, rfl, h2, r2⟩ := trodAll_cons r1
  obtain ⟨v3, vs3, d3, ds3, p3, q3, rfl, rfl, rfl, h3, r3⟩ := trodAll_cons r2
  obtain ⟨rfl, rfl, rfl⟩ := trodAll_nil r3
  obtain rfl : args = #[v0, v1, v2, v3] := by cases args; simp_all
  obtain ⟨rfl, rfl⟩ := trodVars_none hV
  obtain ⟨a0, len0, cap0, rfl⟩ := okWide_slice Yba.underlying22 (hval 0 22 v0 rfl rfl)
  obtain ⟨a1, rfl, rfl, rfl, w1⟩ := open_int Yba.underlying46 (hval 1 46 v1 rfl rfl) h1
  obtain ⟨s2, rfl, rfl, rfl, w2⟩ := open_string Yba.underlying9 (hval 2 9 v2 rfl rfl) h2
  obtain ⟨s3, rfl, rfl, rfl, w3⟩ := open_string Yba.underlying9 (hval 3 9 v3 rfl rfl) h3
  have k0 := h0
  have lt0 : ∀ x ∈ p0, x.block < W.heap.size := by obtain ⟨m, hm⟩ := k0; exact DataW.trod_lt m _ _ _ hm
  have hd := open_stmts h0
  clear hA0 hval0
  refine (walk a0 len0 cap0 a1 s2 s3 W w1 hd).mono fun e W' ⟨he, bel⟩ => ?_
  subst he
  try simp only [List.append_nil] at hW'
  exact ⟨_, rfl, _, _, _, [], _, [], hW', trodAll_mk1 (shut_bool Yba.underlying4 _), (trodAll_cons_mk (Below.trod laidOut (by kernel_rfl) (of_decide_eq_true (by kernel_rfl)) k0 bel lt0) (trodAll_cons_mk (shut_int Yba.underlying46 w1) (trodAll_cons_mk (shut_string Yba.underlying9 w2) (trodAll_cons_mk (shut_string Yba.underlying9 w3) trodAll_mk0)))), rfl, bel.frame _, fun h => by cases h⟩

theorem over : Rows.lawS3921AMemberRow.holds Yba.pinned (OpenSpec.ofChange Rows.lawS3921AMemberSpec) :=
  OpenClaim.holds_of_wide 4 Yba.f4 rfl rfl rfl rfl rfl rfl rfl ⟨rfl, rfl, rfl, rfl, rfl⟩ rfl rfl rfl rfl rfl (by kernel_rfl) Yba.func4 (by kernel_rfl)
    (of_decide_eq_true (by kernel_rfl)) (by unfold Func.isWrapper; first | (rw [if_pos (by decide +kernel)]; kernel_rfl) | (rw [if_neg (by decide +kernel)]; exact ⟨rfl, rfl⟩))
    (fun os started H enc _ => lifted os started H enc)

/-- ████ THE STATEMENT ████ -/
theorem proved : Rows.LawS3921AMemberSaid := over
#print axioms proved
end Go.Proofs.Ybulkccei.lawS3921AMember
