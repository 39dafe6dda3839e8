/- The order of byte strings, and the first of the latest. No Go here but the model's own comparison. -/
import Derived.Test.YbulkcceiRows
namespace Go.Proofs.Ybulkccei

theorem bl_irrefl : ∀ x : List UInt8, Op.bytesLess x x = false
  | [] => rfl
  | a :: x => by
    have := bl_irrefl x
    simp [Op.bytesLess, this]

theorem bl_trans : ∀ x y z : List UInt8, Op.bytesLess x y = true → Op.bytesLess y z = true → Op.bytesLess x z = true
  | _, [], _, h, _ => by simp [Op.bytesLess] at h
  | _, _ :: _, [], _, h => by simp [Op.bytesLess] at h
  | [], _ :: _, _ :: _, _, _ => rfl
  | a :: x, b :: y, c :: z, h1, h2 => by
    simp only [Op.bytesLess, Bool.or_eq_true, Bool.and_eq_true, decide_eq_true_eq, beq_iff_eq, UInt8.lt_iff_toNat_lt] at h1 h2 ⊢
    rcases h1 with h1 | ⟨rfl, h1⟩
    · rcases h2 with h2 | ⟨rfl, h2⟩
      · exact .inl (by omega)
      · exact .inl h1
    · rcases h2 with h2 | ⟨rfl, h2⟩
      · exact .inl h2
      · exact .inr ⟨rfl, bl_trans x y z h1 h2⟩

theorem bl_tri : ∀ x y : List UInt8, Op.bytesLess x y = false → x ≠ y → Op.bytesLess y x = true
  | [], [], _, h => absurd rfl h
  | _ :: _, [], _, _ => rfl
  | [], _ :: _, h, _ => by simp [Op.bytesLess] at h
  | a :: x, b :: y, h1, h2 => by
    simp only [Op.bytesLess, Bool.or_eq_false_iff, decide_eq_false_iff_not, UInt8.lt_iff_toNat_lt] at h1
    simp only [Op.bytesLess, Bool.or_eq_true, Bool.and_eq_true, decide_eq_true_eq, beq_iff_eq, UInt8.lt_iff_toNat_lt]
    by_cases e : a = b
    · subst e
      refine .inr ⟨rfl, bl_tri x y ?_ (fun e => h2 (by rw [e]))⟩
      simpa using h1.2
    · have : a.toNat ≠ b.toNat := fun h => e (UInt8.toNat_inj.1 h)
      exact .inl (by omega)

/-- 'a < b' on two strings. -/
def ltS (a b : ByteArray) : Bool := Op.bytesLess a.toList b.toList
/-- 'a > b' on two strings, as the model has it. -/
def gtS (a b : ByteArray) : Bool := !(Op.bytesLess a.toList b.toList || a.toList == b.toList)

theorem gt_lt {a b : ByteArray} (h : gtS a b = true) : ltS b a = true := by
  simp only [gtS, Bool.not_eq_true', Bool.or_eq_false_iff, beq_eq_false_iff_ne] at h
  exact bl_tri _ _ h.1 h.2
theorem lt_trans' {a b c : ByteArray} (h : ltS a b = true) (k : ltS b c = true) : ltS a c = true := bl_trans _ _ _ h k
theorem le_lt {a b c : ByteArray} (h : gtS a b = false) (k : ltS b c = true) : ltS a c = true := by
  simp only [gtS, Bool.not_eq_false', Bool.or_eq_true, beq_iff_eq] at h
  rcases h with h | h
  · exact bl_trans _ _ _ h k
  · unfold ltS; rw [h]; exact k

/-- Among the first k dates, B is the first of the latest. -/
def Best (S : Nat → ByteArray) (k B : Nat) : Prop := B < k ∧ (∀ j, j < B → ltS (S j) (S B) = true) ∧ ∀ j, B < j → j < k → gtS (S j) (S B) = false

theorem best_one (S : Nat → ByteArray) : Best S 1 0 := ⟨by omega, fun j h => absurd h (Nat.not_lt_zero _), fun j h1 h2 => by omega⟩
theorem best_stay {S : Nat → ByteArray} {k B : Nat} (h : Best S k B) (g : gtS (S k) (S B) = false) : Best S (k + 1) B := by
  obtain ⟨h1, h2, h3⟩ := h
  refine ⟨by omega, h2, fun j a b => ?_⟩
  by_cases e : j = k
  · subst e; exact g
  · exact h3 j a (by omega)
theorem best_move {S : Nat → ByteArray} {k B : Nat} (h : Best S k B) (g : gtS (S k) (S B) = true) : Best S (k + 1) k := by
  obtain ⟨h1, h2, h3⟩ := h
  have l := gt_lt g
  refine ⟨by omega, fun j hj => ?_, fun j a b => by omega⟩
  rcases Nat.lt_trichotomy j B with a | a | a
  · exact lt_trans' (h2 j a) l
  · subst a; exact l
  · exact le_lt (h3 j a hj) l

end Go.Proofs.Ybulkccei
