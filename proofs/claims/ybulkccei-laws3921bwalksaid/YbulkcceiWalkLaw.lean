import Derived.Test.YbulkcceiAt
namespace Go.Proofs.Ybulkccei
open Go.RowKit

/-- append where there is room, in a plain region. -/
theorem wpList_append_room {P : Program} {w : World} {ops : Array Oper} {rest : List Oper} {o : Oper} {a : Act} {Q : Exit → Act → World → Prop}
    (hg : o.guard = none) (s x : Operand) (t : TypeId) (hop : o.op = Op.call { callee := Callee.builtin Builtin.append, args := #[s, x], argTypes := #[t, t] })
    (e : TypeId) (i : TypeInfo) (size : Nat) (h1 : P.underlying t = some (.slice e)) (h2 : P.info? e = some i) (h4 : i.size = size)
    (b off n cap : Nat) (hs : a.eval s = .slice (some ⟨b, off, none⟩) n cap)
    (ad : Addr) (m c : Nat) (news : List Value) (hx : a.eval x = .slice (some ad) m c) (hn : news.length = m * size) (hc : ∀ j u, news[j]? = some u → w.cell? (ad.add j) = some u) (h1c : ∀ u ∈ news, u.oneCell' = true)
    (hroom : n + m ≤ cap) (hspare : ∀ j, j < news.length → (w.cell? ⟨b, off + n * size + j, none⟩).isSome = true ∧ w.frozen? ⟨b, off + n * size + j, none⟩ = false)
    (hK : wpList P ops Q rest (a.put o.dst (.slice (some ⟨b, off, none⟩) (n + m) cap)) (w.setCells b (off + n * size) news)) : wpList P ops Q (o :: rest) a w := by
  refine wpList_plain hg fun K hK' => ?_
  subst h4
  have hrun := run_append_room_cells (P := P) w t o.type e i h1 h2 b off n cap ad m c news hn hc h1c hroom (fun j hj => (hspare j hj).1) (fun j hj => (hspare j hj).2)
  unfold Oper.wp
  simp [execOp, hop, resolve, invoke, builtin, hs, hx, hrun, Result.andThen]
  exact hK' _ _ hK

/-- How many elements a slice value has: for the loop's measure. -/
def lenIn : Value → Nat
  | .slice _ n _ => n
  | _ => 0

/-- What the law holds while it reads: the lexer lies in block N + 1, its offset is k; the source's copy in block N; o of the bytes read are in block N + 2. -/
structure Lx (w wr : World) (N len : Nat) (D : Nat → Int) (k o : Nat) : Prop where
  src : wr.cell? ⟨N + 1, 1, none⟩ = some (.slice (some ⟨N, 0, none⟩) len len)
  off : wr.cell? ⟨N + 1, 2, none⟩ = some (.int .i64 k)
  free : wr.frozen? ⟨N + 1, 2, none⟩ = false
  below : Below N w wr
  size : N + 3 ≤ wr.heap.size
  buf : RowFn wr N 5 len (fun j => .int .u8 (D j))
  out : ∃ f, RowFn wr (N + 2) 5 len f ∧ ∀ i, i < o → f i = .int .u8 (D i)

theorem Lx.drewN {w wr : World} {N len k o : Nat} {D : Nat → Int} (h : Lx w wr N len D k o) (m : Nat) : Lx w (wr.drewN m) N len D k o := by
  obtain ⟨f, h1, h2⟩ := h.out
  exact ⟨h.src, h.off, h.free, below_drewN h.below m, h.size, h.buf.of_block rfl, f, h1.of_block rfl, h2⟩

theorem Lx.alloc {w wr : World} {N len k o : Nat} {D : Nat → Int} (h : Lx w wr N len D k o) (x : Obj) : Lx w (wr.alloc x) N len D k o := by
  have hs := h.size
  obtain ⟨f, h1, h2⟩ := h.out
  exact ⟨by rw [World.cell?_alloc_past _ _ _ (by omega)]; exact h.src, by rw [World.cell?_alloc_past _ _ _ (by omega)]; exact h.off, by rw [World.frozen?_alloc_past _ _ _ (by omega)]; exact h.free,
    h.below.alloc (by omega) x, by simp; omega, h.buf.alloc x, f, h1.alloc x, h2⟩

theorem Lx.push {w wr : World} {N len k : Nat} {D : Nat → Int} (h : Lx w wr N len D k k) : Lx w (wr.setCell ⟨N + 2, k, none⟩ (.int .u8 (D k))) N len D k (k + 1) := by
  obtain ⟨f, h1, h2⟩ := h.out
  have ne : ∀ i : Nat, (⟨N + 2, k, none⟩ : Addr) ≠ ⟨N + 1, i, none⟩ := fun i e => by have := congrArg Addr.block e; simp at this
  refine ⟨by rw [World.cell?_setCell_other _ _ _ _ (ne _)]; exact h.src, by rw [World.cell?_setCell_other _ _ _ _ (ne _)]; exact h.off, by rw [World.frozen?_setCell]; exact h.free,
    h.below.setCell (p := ⟨N + 2, k, none⟩) (Nat.le_add_right _ _) _, by simpa using h.size, h.buf.other _ _ (show N ≠ N + 2 by omega), _, h1.set k _, fun i hi => ?_⟩
  by_cases e : i = k
  · subst e; exact upd_same _ _ _
  · rw [upd_other _ _ _ _ e]; exact h2 i (by omega)

theorem Lx.step {w wr : World} {N len k o : Nat} {D : Nat → Int} (h : Lx w wr N len D k o) : Lx w (wr.setCell ⟨N + 1, 2, none⟩ (.int .i64 ((k : Int) + 1))) N len D (k + 1) o := by
  obtain ⟨f, h1, h2⟩ := h.out
  have ne : (⟨N + 1, 2, none⟩ : Addr) ≠ ⟨N + 1, 1, none⟩ := fun e => by have := congrArg Addr.off e; simp at this
  exact ⟨by rw [World.cell?_setCell_other _ _ _ _ ne]; exact h.src, World.cell?_setCell_same _ _ _ h.off, by rw [World.frozen?_setCell]; exact h.free,
    h.below.setCell (p := ⟨N + 1, 2, none⟩) (Nat.le_add_right _ _) _, by simpa using h.size, h.buf.other _ _ (show N ≠ N + 1 by omega), f, h1.other _ _ (show N + 2 ≠ N + 1 by omega), h2⟩

set_option maxRecDepth 100000 in
set_option maxHeartbeats 2000000 in
theorem walk_any (b off len cap : Nat) (D : Nat → Int) (hlen : len ≤ 1024) (w : World) (hb : b < w.heap.size)
    (hD : ∀ i, i < len → w.cell? ⟨b, off + i, none⟩ = some (.int .u8 (D i))) :
    Calls Yba.prog 6 #[.slice (some ⟨b, off, none⟩) len cap] w fun e w' => e = .returned (.bool true) ∧ Below w.heap.size w w' := by
  obtain ⟨i0, hi, hz0, hz1, hz2⟩ := info_parts Yba.info5
  have hmk : ∀ w, (Instr.makeSlice 48 (.int .i64 ↑len) (.int .i64 ↑len)).run Yba.prog w = .ok (.slice (some ⟨w.heap.size, 0, none⟩) len len) (w.alloc (.cells (madeCells z5 len) 5)) := by
    intro w
    have := run_make (P := Yba.prog) w 48 5 i0 _ Yba.underlying48 hi hz0 .i64 .i64 (len : Int) (len : Int) (by omega) (by omega) (by rw [hz2]; omega) (by omega)
    rw [hz1, Int.toNat_natCast, Nat.mul_one] at this
    exact this
  have hmk0 : ∀ w, (Instr.makeSlice 48 (.int .i64 0) (.int .i64 ↑len)).run Yba.prog w = .ok (.slice (some ⟨w.heap.size, 0, none⟩) 0 len) (w.alloc (.cells (madeCells z5 len) 5)) := by
    intro w
    have := run_make (P := Yba.prog) w 48 5 i0 _ Yba.underlying48 hi hz0 .i64 .i64 0 (len : Int) (by omega) (by omega) (by rw [hz2]; omega) (by omega)
    rw [hz1, Int.toNat_natCast, Nat.mul_one] at this
    exact this
  obtain ⟨W2, hcp, hs2, hb2, hrow⟩ := copy_buf w (some ⟨b, off, none⟩) len cap D (.inr ⟨b, off, rfl, hb, hD⟩)
  have HB : Hid (Below w.heap.size w W2) := hb2
  have HR : Hid (RowFn W2 w.heap.size 5 len (fun j => .int .u8 (D j))) := hrow
  clear hb2 hrow
  go_enter Yba.func6, Yba.ntmps6
  go_wp2_with fail
  have hstart : Lx w ((W2.alloc (Obj.cells #[Value.string { data := #[] }, Value.slice (some { block := w.heap.size, off := 0 }) len len, Value.int IntKind.i64 0, Value.int IntKind.i64 0, Value.int IntKind.i64 0, Value.int IntKind.i64 0, Value.int IntKind.i64 0, Value.slice none 0 0, Value.slice none 0 0, Value.bool false] 54)).alloc (Obj.cells (madeCells z5 len) 5)) w.heap.size len D 0 0 := by
    refine ⟨by simp [go_sem, hs2], by simp [go_sem, hs2], by simp [go_sem, hs2], (HB.out.alloc (by omega) _).alloc (by simp [hs2]; omega) _, by simp [hs2], (HR.out.alloc _).alloc _, _, RowFn.new _ _ 5 _ (by simp [hs2]) _ (size_madeCells _ _), fun i h => absurd h (Nat.not_lt_zero _)⟩
  clear hmk hmk0 hcp HB HR hs2
  go_loopw [5] (fun v wr => ∃ k : Nat, k ≤ len ∧ v = .slice (some ⟨w.heap.size + 1 + 1, 0, none⟩) k len ∧ Lx w wr w.heap.size len D k k) (fun v _ => len - lenIn v)
  case atStart => exact ⟨0, Nat.zero_le _, rfl, hstart⟩
  case round =>
    clear hstart
    obtain ⟨k, hk, rfl, hx⟩ := hrel
    have c1 := hx.src
    have c2 := hx.off
    have hsz := hx.size
    by_cases hlt : k < len
    · have d3 : wr.cell? ⟨w.heap.size, ((k : Int) + 0).toNat, none⟩ = some (.int .u8 (D k)) := by rw [show ((k : Int) + 0).toNat = k by omega, hx.buf.cell _ hlt]
      go_wp2_with fail
      refine (at_in (w.heap.size + 1) w.heap.size len len k 0 _ (by omega) (by omega) (by omega) (by omega) _ c1 c2 d3).mono ?_
      rintro e w' ⟨rfl, m, rfl⟩
      clear c1 c2 d3
      have hx1 := (hx.drewN m).alloc (.cells #[.int .u8 (D k)] 5)
      obtain ⟨f, hf, _⟩ := hx1.out
      have s3 : Hid (∀ j u, ([.int .u8 (D k)] : List Value)[j]? = some u → ((wr.drewN m).alloc (.cells #[.int .u8 (D k)] 5)).cell? ((⟨wr.heap.size, 0, none⟩ : Addr).add j) = some u) := fun j u hj => by
        match j, hj with
        | 0, hj => simp at hj; subst hj; rw [Addr.add_lit, World.cell?_alloc_at _ _ _ _ (by rfl)]; rfl
      have s4 : Hid (∀ j, j < ([.int .u8 (D k)] : List Value).length → (((wr.drewN m).alloc (.cells #[.int .u8 (D k)] 5)).cell? ⟨w.heap.size + 1 + 1, 0 + k * 1 + j, none⟩).isSome = true ∧ ((wr.drewN m).alloc (.cells #[.int .u8 (D k)] 5)).frozen? ⟨w.heap.size + 1 + 1, 0 + k * 1 + j, none⟩ = false) := fun j hj => by
        simp at hj; subst hj
        exact ⟨by rw [show 0 + k * 1 + 0 = k by omega, show w.heap.size + 1 + 1 = w.heap.size + 2 from rfl, hf.cell _ hlt]; rfl, hf.frozen _⟩
      have HX : Hid (Lx w (((wr.drewN m).alloc (.cells #[.int .u8 (D k)] 5)).setCells (w.heap.size + 1 + 1) (0 + k * 1) [.int .u8 (D k)]) w.heap.size len D k (k + 1)) := by
        rw [show 0 + k * 1 = k by omega]; exact hx1.push
      clear hx1 hf hx
      by_cases hnx : k + 1 < len
      · go_wp2_with (at_builtin; refine wpList_append_room rfl (.tmp 30) (.tmp 33) 48 rfl 5 i0 1 Yba.underlying48 hi hz1 (w.heap.size + 1 + 1) 0 k len rfl ⟨wr.heap.size, 0, none⟩ 1 1 [.int .u8 (D k)] rfl rfl s3.out (by intro u hu; simp at hu; subst hu; rfl) (by omega) s4.out ?_; clear s3 s4; generalize ((World.alloc (World.drewN wr m) (.cells #[.int .u8 (D k)] 5)).setCells (w.heap.size + 1 + 1) (0 + k * 1) [.int .u8 (D k)]) = W5 at HX ⊢; have c1 := HX.out.src; have c2 := HX.out.off; have c4 := HX.out.free; have c3 : W5.cell? ⟨w.heap.size, k + 1, none⟩ = some (.int .u8 (D (k + 1))) := HX.out.buf.cell _ hnx)
        have d3 : W5.cell? ⟨w.heap.size, ((k : Int) + 1).toNat, none⟩ = some (.int .u8 (D (k + 1))) := by rw [show ((k : Int) + 1).toNat = k + 1 by omega]; exact c3
        refine (at_in (w.heap.size + 1) w.heap.size len len k 1 _ (by omega) (by omega) (by omega) (by omega) _ c1 c2 d3).mono ?_
        rintro e w' ⟨rfl, m2, rfl⟩
        clear c3 d3
        have HX2 : Hid (Lx w ((W5.setCell ⟨w.heap.size + 1, 2, none⟩ (.int .i64 ((k : Int) + 1))).drewN m2) w.heap.size len D (k + 1) (k + 1)) := HX.out.step.drewN m2
        clear HX
        go_wp2_with fail
        go_roundw
        case rel => exact ⟨k + 1, by omega, rfl, HX2.out⟩
        case measure => simp [lenIn]; omega
      · go_wp2_with (at_builtin; refine wpList_append_room rfl (.tmp 30) (.tmp 33) 48 rfl 5 i0 1 Yba.underlying48 hi hz1 (w.heap.size + 1 + 1) 0 k len rfl ⟨wr.heap.size, 0, none⟩ 1 1 [.int .u8 (D k)] rfl rfl s3.out (by intro u hu; simp at hu; subst hu; rfl) (by omega) s4.out ?_; clear s3 s4; generalize ((World.alloc (World.drewN wr m) (.cells #[.int .u8 (D k)] 5)).setCells (w.heap.size + 1 + 1) (0 + k * 1) [.int .u8 (D k)]) = W5 at HX ⊢; have c1 := HX.out.src; have c2 := HX.out.off; have c4 := HX.out.free)
        refine (at_out (w.heap.size + 1) len len (some ⟨w.heap.size, 0, none⟩) k 1 (by omega) (by omega) (by omega) (by omega) (by omega) _ c1 c2).mono ?_
        rintro e w' ⟨rfl, m2, rfl⟩
        have HX2 : Hid (Lx w ((W5.setCell ⟨w.heap.size + 1, 2, none⟩ (.int .i64 ((k : Int) + 1))).drewN m2) w.heap.size len D (k + 1) (k + 1)) := HX.out.step.drewN m2
        clear HX
        go_wp2_with fail
        go_roundw
        case rel => exact ⟨k + 1, by omega, rfl, HX2.out⟩
        case measure => simp [lenIn]; omega
    · obtain rfl : k = len := by omega
      go_wp2_with fail
      refine (at_out (w.heap.size + 1) k k (some ⟨w.heap.size, 0, none⟩) k 0 (by omega) (by omega) (by omega) (by omega) (by omega) _ c1 c2).mono ?_
      rintro e w' ⟨rfl, m, rfl⟩
      go_wp2_with fail
      refine (at_out (w.heap.size + 1) k k (some ⟨w.heap.size, 0, none⟩) k 1 (by omega) (by omega) (by omega) (by omega) (by omega) (wr.drewN m) c1 c2).mono ?_
      rintro e w' ⟨rfl, m2, rfl⟩
      go_wp2_with fail
      have hx0 := (hx.drewN m).drewN m2
      rw [World.drewN_drewN] at hx0
      clear hx c1 c2 hsz
      go_loopw [7] (fun i wr => ∃ j : Nat, j ≤ k ∧ i = .int .i64 j ∧ Lx w wr w.heap.size k D k k) (fun i _ => k - (intOf i).toNat)
      case atStart => exact ⟨0, Nat.zero_le _, rfl, hx0⟩
      case round =>
        clear hx0
        obtain ⟨j, hj, rfl, hx⟩ := hrel
        by_cases hlt2 : j < k
        · obtain ⟨f, hf, hsame⟩ := hx.out
          have e0 : wr.cell? ⟨w.heap.size + 1 + 1, j, none⟩ = some (.int .u8 (D j)) := by rw [show w.heap.size + 1 + 1 = w.heap.size + 2 from rfl, hf.cell _ hlt2, hsame j hlt2]
          have e1 : wr.cell? ⟨b, off + j, none⟩ = some (.int .u8 (D j)) := (hx.below.cell (by exact hb)).trans (hD j hlt2)
          have hji : (j : Int) < k := by omega
          have HX : Hid (∀ n, Lx w (wr.drewN n) w.heap.size k D k k) := fun n => hx.drewN n
          clear hx hf hsame
          go_wp2_with fail
          go_quiet (fail)
          go_wp2_with fail
          go_roundw
          case rel => exact ⟨j + 1, by omega, by go_num, HX.out _⟩
          case measure => simp [intOf]; omega
        · go_wp2_with fail
          go_ret
          exact ⟨rfl, hx.below⟩
set_option maxRecDepth 100000 in
set_option maxHeartbeats 2000000 in
theorem walk_empty (a0 : Option Addr) (len cap : Nat) (D : Nat → Int) (hlen : len ≤ 0) (w : World) :
    Calls Yba.prog 6 #[.slice a0 len cap] w fun e w' => e = .returned (.bool true) ∧ Below w.heap.size w w' := by
  obtain ⟨i0, hi, hz0, hz1, hz2⟩ := info_parts Yba.info5
  have hmk : ∀ w, (Instr.makeSlice 48 (.int .i64 ↑len) (.int .i64 ↑len)).run Yba.prog w = .ok (.slice (some ⟨w.heap.size, 0, none⟩) len len) (w.alloc (.cells (madeCells z5 len) 5)) := by
    intro w
    have := run_make (P := Yba.prog) w 48 5 i0 _ Yba.underlying48 hi hz0 .i64 .i64 (len : Int) (len : Int) (by omega) (by omega) (by rw [hz2]; omega) (by omega)
    rw [hz1, Int.toNat_natCast, Nat.mul_one] at this
    exact this
  have hmk0 : ∀ w, (Instr.makeSlice 48 (.int .i64 0) (.int .i64 ↑len)).run Yba.prog w = .ok (.slice (some ⟨w.heap.size, 0, none⟩) 0 len) (w.alloc (.cells (madeCells z5 len) 5)) := by
    intro w
    have := run_make (P := Yba.prog) w 48 5 i0 _ Yba.underlying48 hi hz0 .i64 .i64 0 (len : Int) (by omega) (by omega) (by rw [hz2]; omega) (by omega)
    rw [hz1, Int.toNat_natCast, Nat.mul_one] at this
    exact this
  obtain ⟨W2, hcp, hs2, hb2, hrow⟩ := copy_buf w a0 len cap D (.inl (by omega))
  have HB : Hid (Below w.heap.size w W2) := hb2
  have HR : Hid (RowFn W2 w.heap.size 5 len (fun j => .int .u8 (D j))) := hrow
  clear hb2 hrow
  go_enter Yba.func6, Yba.ntmps6
  go_wp2_with fail
  have hstart : Lx w ((W2.alloc (Obj.cells #[Value.string { data := #[] }, Value.slice (some { block := w.heap.size, off := 0 }) len len, Value.int IntKind.i64 0, Value.int IntKind.i64 0, Value.int IntKind.i64 0, Value.int IntKind.i64 0, Value.int IntKind.i64 0, Value.slice none 0 0, Value.slice none 0 0, Value.bool false] 54)).alloc (Obj.cells (madeCells z5 len) 5)) w.heap.size len D 0 0 := by
    refine ⟨by simp [go_sem, hs2], by simp [go_sem, hs2], by simp [go_sem, hs2], (HB.out.alloc (by omega) _).alloc (by simp [hs2]; omega) _, by simp [hs2], (HR.out.alloc _).alloc _, _, RowFn.new _ _ 5 _ (by simp [hs2]) _ (size_madeCells _ _), fun i h => absurd h (Nat.not_lt_zero _)⟩
  clear hmk hmk0 hcp HB HR hs2
  go_loopw [5] (fun v wr => ∃ k : Nat, k ≤ len ∧ v = .slice (some ⟨w.heap.size + 1 + 1, 0, none⟩) k len ∧ Lx w wr w.heap.size len D k k) (fun v _ => len - lenIn v)
  case atStart => exact ⟨0, Nat.zero_le _, rfl, hstart⟩
  case round =>
    clear hstart
    obtain ⟨k, hk, rfl, hx⟩ := hrel
    have c1 := hx.src
    have c2 := hx.off
    have hsz := hx.size
    by_cases hlt : k < len
    · exfalso; omega
    · obtain rfl : k = len := by omega
      go_wp2_with fail
      refine (at_out (w.heap.size + 1) k k (some ⟨w.heap.size, 0, none⟩) k 0 (by omega) (by omega) (by omega) (by omega) (by omega) _ c1 c2).mono ?_
      rintro e w' ⟨rfl, m, rfl⟩
      go_wp2_with fail
      refine (at_out (w.heap.size + 1) k k (some ⟨w.heap.size, 0, none⟩) k 1 (by omega) (by omega) (by omega) (by omega) (by omega) (wr.drewN m) c1 c2).mono ?_
      rintro e w' ⟨rfl, m2, rfl⟩
      go_wp2_with fail
      have hx0 := (hx.drewN m).drewN m2
      rw [World.drewN_drewN] at hx0
      clear hx c1 c2 hsz
      go_loopw [7] (fun i wr => ∃ j : Nat, j ≤ k ∧ i = .int .i64 j ∧ Lx w wr w.heap.size k D k k) (fun i _ => k - (intOf i).toNat)
      case atStart => exact ⟨0, Nat.zero_le _, rfl, hx0⟩
      case round =>
        clear hx0
        obtain ⟨j, hj, rfl, hx⟩ := hrel
        by_cases hlt2 : j < k
        · exfalso; omega
        · go_wp2_with fail
          go_ret
          exact ⟨rfl, hx.below⟩
end Go.Proofs.Ybulkccei
