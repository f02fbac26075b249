/- zzBytes (14), g1CopyBytes (15), g1HasPair (24), g1PairLess (29). -/
import Derived.Test.Qxb6002388aStrs
namespace Go.Proofs.Qxb6002388a
open Go.RowKit
set_option linter.unusedVariables false

/-- the first n bytes lie at a -/
def Ia (w : World) (a : Option Addr) (n : Nat) (zs : List Int) : Prop :=
  ∀ i, i < n → ∃ b off, a = some ⟨b, off, none⟩ ∧ b < w.heap.size ∧ w.cell? ⟨b, off + i, none⟩ = some (.int .u8 (zs.getD i 0)) ∧ 0 ≤ zs.getD i 0 ∧ zs.getD i 0 ≤ 255
theorem Ia.below {w w' : World} {a : Option Addr} {n : Nat} {ss : List Int} (h : Ia w a n ss) (hb : Below w.heap.size w w') : Ia w' a n ss := by
  intro i hi
  obtain ⟨b, off, e, hlt, hc, hm⟩ := h i hi
  exact ⟨b, off, e, by have := hb.size; omega, (hb.cell (p := ⟨b, off + i, none⟩) hlt).trans hc, hm⟩

set_option maxHeartbeats 1000000 in
theorem zz_bytes3 (a1 : Option Addr) (n1 c1 : Nat) (ss1 : List ByteArray) (a2 : Option Addr) (n2 c2 : Nat) (a3 : Option Addr) (n3 c3 : Nat) (ss3 : List ByteArray) (w : World) (m1 : n1 ≤ maxLen) (m2 : n2 ≤ maxLen) (m3 : n3 ≤ maxLen) (h1 : Sa w a1 n1 ss1) (h3 : Sa w a3 n3 ss3) :
    Calls Try.prog 14 #[.slice a1 n1 c1, .slice a2 n2 c2, .slice a3 n3 c3] w fun e w' => SomeBool e ∧ w' = w := by
  unfold maxLen at m1 m2 m3
  by_cases l1 : 1048576 < n1
  · go_enter Try.func14, Try.ntmps14
    go_wp2
    go_ret
    exact ⟨⟨_, rfl⟩, rfl⟩
  have H3 := hidden h3
  clear h3
  go_enter Try.func14, Try.ntmps14
  go_wp2
  go_loop [7, 8] (fun t i => ∃ (k : Nat) (u : Int), k ≤ n1 ∧ i = .int .i64 k ∧ t = .int .i64 u ∧ 0 ≤ u ∧ u ≤ 1048576) (fun _ i => n1 - (intOf i).toNat)
  case atStart => exact ⟨0, _, Nat.zero_le _, rfl, rfl, by omega, by omega⟩
  case round =>
    obtain ⟨k, u, hk, rfl, rfl, hu0, hu1⟩ := hrel
    by_cases hlt : k < n1
    · obtain ⟨b, off, e, _, hc, hm⟩ := h1 k hlt
      subst e
      clear h1
      generalize ss1.getD k ByteArray.empty = s at hc hm
      unfold maxLen at hm
      go_wp2
      · go_ret
        exact ⟨⟨_, rfl⟩, rfl⟩
      · go_ret
        exact ⟨⟨_, rfl⟩, rfl⟩
      · exact ⟨⟨k + 1, _, by omega, by go_num, rfl, by omega, by omega⟩, by simp [intOf]; omega⟩
    · clear h1
      by_cases l2 : 1048576 < n2
      · go_wp2
        go_ret
        exact ⟨⟨_, rfl⟩, rfl⟩
      by_cases l3 : 1048576 < u + n2
      · go_wp2
        go_ret
        exact ⟨⟨_, rfl⟩, rfl⟩
      by_cases l4 : 1048576 < n3
      · go_wp2
        go_ret
        exact ⟨⟨_, rfl⟩, rfl⟩
      by_cases l5 : 1048576 < u + n2 + n3
      · go_wp2
        go_ret
        exact ⟨⟨_, rfl⟩, rfl⟩
      go_wp2
      go_loop [7, 9] (fun t i => ∃ (k : Nat) (u : Int), k ≤ n3 ∧ i = .int .i64 k ∧ t = .int .i64 u ∧ 0 ≤ u ∧ u ≤ 1048576) (fun _ i => n3 - (intOf i).toNat)
      case atStart => exact ⟨0, _, Nat.zero_le _, rfl, rfl, by omega, by omega⟩
      case round =>
        obtain ⟨k, u, hk, rfl, rfl, hu0, hu1⟩ := hrel
        by_cases hlt : k < n3
        · obtain ⟨b, off, e, _, hc, hm⟩ := H3.out k hlt
          subst e
          clear H3
          generalize ss3.getD k ByteArray.empty = s at hc hm
          unfold maxLen at hm
          go_wp2
          · go_ret
            exact ⟨⟨_, rfl⟩, rfl⟩
          · go_ret
            exact ⟨⟨_, rfl⟩, rfl⟩
          · exact ⟨⟨k + 1, _, by omega, by go_num, rfl, by omega, by omega⟩, by simp [intOf]; omega⟩
        · clear H3
          go_wp2
          go_ret
          exact ⟨⟨_, rfl⟩, rfl⟩

theorem info5 : (Try.prog.info? 5).map (fun i => (i.zero, i.size, i.bytes)) = some (some (.int .u8 0), 1, 1) := by kernel_rfl

theorem clone8_nil (w : World) :
    Calls Try.prog 15 #[.slice none 0 0] w fun e w' => e = .returned (.slice none 0 0) ∧ w' = w := by
  have hnil := fun (a : Option Addr) (n c : Nat) (w : World) => Lib.run_eql_slice_nil (P := Try.prog) w 43 5 a n c 0 0 Try.underlying43
  go_enter Try.func15, Try.ntmps15
  go_wp2
  go_ret
  exact ⟨rfl, rfl⟩

theorem clone8_zero (p : Addr) (c : Nat) (w : World) :
    Calls Try.prog 15 #[.slice (some p) 0 c] w fun e w' => e = .returned (.slice (some ⟨w.heap.size, 0, none⟩) 0 0) ∧ Below w.heap.size w w' := by
  have hnil := fun (a : Option Addr) (n c : Nat) (w : World) => Lib.run_eql_slice_nil (P := Try.prog) w 43 5 a n c 0 0 Try.underlying43
  have hmk : ∀ w : World, (Instr.makeSlice 43 (.int .i64 0) (.int .i64 0)).run Try.prog w = .ok (.slice (some ⟨w.heap.size, 0, none⟩) 0 0) (w.alloc (.cells (madeCells #[.int .u8 0] 0) 5)) := fun w => run_make_row' (P := Try.prog) 43 5 (.int .u8 0) 1 Try.underlying43 info5 rfl .i64 .i64 0 (by omega) (by omega) w
  go_enter Try.func15, Try.ntmps15
  go_wp2
  refine wp_loop_rounds 1 ?_
  rw [rounds_succ]
  go_wp2
  go_ret
  exact ⟨rfl, (Below.refl _ _).alloc (Nat.le_refl _) _⟩

theorem clone8_full (b off n c : Nat) (zs : List Int) (w : World) (hn : n ≤ 64) (ha : Ia w (some ⟨b, off, none⟩) n zs) :
    Calls Try.prog 15 #[.slice (some ⟨b, off, none⟩) n c] w fun e w' => e = .returned (.slice (some ⟨w.heap.size, 0, none⟩) n n) ∧ w'.rowIs w.heap.size 5 n (fun i => .int .u8 (if i < n then zs.getD i 0 else 0)) ∧ Below w.heap.size w w' := by
  have hnil := fun (a : Option Addr) (n c : Nat) (w : World) => Lib.run_eql_slice_nil (P := Try.prog) w 43 5 a n c 0 0 Try.underlying43
  have hmk := fun (w : World) => run_make_row' (P := Try.prog) 43 5 (.int .u8 0) 1 Try.underlying43 info5 rfl .i64 .i64 n (by omega) (by omega) w
  have HA := hidden ha
  clear ha
  go_enter Try.func15, Try.ntmps15
  go_wp2
  go_loopw [4] (fun i wr => ∃ j : Nat, j ≤ n ∧ i = .int .i64 j ∧ wr.rowIs w.heap.size 5 n (fun i => .int .u8 (if i < j then zs.getD i 0 else 0)) ∧ Below w.heap.size w wr) (fun i _ => n - (intOf i).toNat)
  case atStart => exact ⟨0, Nat.zero_le _, rfl, (World.rowIs_made _ _ _ _).congr (fun i hi => by simp), (Below.refl _ _).alloc (Nat.le_refl _) _⟩
  case round =>
    obtain ⟨j, hj, rfl, hrow, hbel⟩ := hrel
    by_cases hlt : j < n
    · obtain ⟨b', off', e, hb, hx0, _⟩ := HA.out j hlt
      cases e
      have hx : wr.cell? ⟨b, off + j, none⟩ = some (.int .u8 (zs.getD j 0)) := (hbel.cell (p := ⟨b, off + j, none⟩) hb).trans hx0
      have hy := hrow.cell hlt
      have hf := hrow.frozen j
      have HR := hidden hrow
      have HB := hidden hbel
      clear hrow hbel hx0
      generalize hz : zs.getD j 0 = z at hx
      have HZ := hidden hz
      clear hz
      go_wp2
      refine ⟨⟨j + 1, by omega, by go_num, (HR.out.set j (.int .u8 z)).congr (fun i hi => ?_), HB.out.setCell (Nat.le_refl _) _⟩, by simp [intOf]; omega⟩
      show (if i = j then Value.int .u8 z else .int .u8 (if i < j then zs.getD i 0 else 0)) = .int .u8 (if i < j + 1 then zs.getD i 0 else 0)
      by_cases e : i = j
      · subst e; rw [if_pos rfl, if_pos (by omega), HZ.out]
      · rw [if_neg e]; by_cases e2 : i < j
        · rw [if_pos e2, if_pos (by omega)]
        · rw [if_neg e2, if_neg (by omega)]
    · obtain rfl : j = n := by omega
      go_wp2
      go_ret
      exact ⟨rfl, hrow, hbel⟩

theorem clone_bytes (a : Option Addr) (n c : Nat) (zs : List Int) (w : World) (hn : n ≤ 64) (ha : Ia w a n zs) (hc : NilOk a n c) :
    Calls Try.prog 15 #[.slice a n c] w fun e w' => (∃ a' c', e = .returned (.slice a' n c') ∧ Ia w' a' n zs) ∧ Below w.heap.size w w' := by
  rcases a with _ | p
  · obtain ⟨rfl, rfl⟩ := hc rfl
    refine (clone8_nil w).mono ?_
    rintro e w ⟨rfl, rfl⟩
    exact ⟨⟨none, 0, rfl, fun i hi => by omega⟩, Below.refl _ _⟩
  · by_cases h0 : n = 0
    · subst h0
      refine (clone8_zero p c w).mono ?_
      rintro e w' ⟨rfl, hb⟩
      exact ⟨⟨_, _, rfl, fun i hi => absurd hi (Nat.not_lt_zero i)⟩, hb⟩
    · obtain ⟨b, off, e, _⟩ := ha 0 (by omega)
      cases e
      refine (clone8_full b off n c zs w hn ha).mono ?_
      rintro e w' ⟨rfl, hrow, hb⟩
      refine ⟨⟨_, _, rfl, fun i hi => ⟨w.heap.size, 0, rfl, hrow.lt, ?_, ?_⟩⟩, hb⟩
      · rw [Nat.zero_add, hrow.cell hi]
        simp only [if_pos hi]
      · obtain ⟨_, _, _, _, _, h⟩ := ha i hi
        exact h

/-- the pair is among the first n -/
def inP (ts us : List ByteArray) (n : Nat) (t a : ByteArray) : Bool := (List.range n).any (fun i => decide (st ts i = t) && decide (st us i = a))
theorem inP_iff (ts us : List ByteArray) (n : Nat) (t a : ByteArray) : inP ts us n t a = true ↔ ∃ i, i < n ∧ st ts i = t ∧ st us i = a := by
  unfold inP; simp
theorem inP_no (ts us : List ByteArray) (n : Nat) (t a : ByteArray) (h : ∀ i, i < n → ¬ (st ts i = t ∧ st us i = a)) : inP ts us n t a = false := by
  cases hh : inP ts us n t a with
  | false => rfl
  | true => obtain ⟨i, hi, e⟩ := (inP_iff ts us n t a).1 hh; exact absurd e (h i hi)

set_option maxHeartbeats 400000 in
theorem g1_has_pair (b1 b2 n c1 c2 : Nat) (ts us : List ByteArray) (t a : ByteArray) (w : World) (hn : n ≤ 4096) (h1 : ∀ i, i < n → w.cell? ⟨b1, i, none⟩ = some (.string (st ts i))) (h2 : ∀ i, i < n → w.cell? ⟨b2, i, none⟩ = some (.string (st us i))) :
    Calls Try.prog 24 #[.slice (some ⟨b1, 0, none⟩) n c1, .slice (some ⟨b2, 0, none⟩) n c2, .string t, .string a] w fun e w' => e = .returned (.bool (inP ts us n t a)) ∧ w' = w := by
  have H1 := hidden h1
  have H2 := hidden h2
  clear h1 h2
  go_enter Try.func24, Try.ntmps24
  go_wp2
  go_loop [9] (fun i => ∃ k : Nat, k ≤ n ∧ i = .int .i64 k ∧ Hid (∀ i, i < k → ¬ (st ts i = t ∧ st us i = a))) (fun i => n - (intOf i).toNat)
  case atStart => exact ⟨0, Nat.zero_le _, rfl, fun i hi => absurd hi (Nat.not_lt_zero i)⟩
  case round =>
    obtain ⟨k, hk, rfl, HN⟩ := hrel
    by_cases hlt : k < n
    · have hc1 := H1.out k hlt
      have hc2 := H2.out k hlt
      obtain ⟨x, hx⟩ : ∃ x, x = st ts k := ⟨_, rfl⟩
      obtain ⟨y, hy⟩ : ∃ y, y = st us k := ⟨_, rfl⟩
      rw [← hx] at hc1
      rw [← hy] at hc2
      have HX := hidden hx
      have HY := hidden hy
      clear hx hy
      cases e1 : (x.toList == t.toList) with
      | false =>
        have HNN : Hid (∀ i, i < k + 1 → ¬ (st ts i = t ∧ st us i = a)) := fun i hi => by
          by_cases e : i = k
          · subst e; rw [← HX.out]; exact fun h => (Lib.bytes_beq_false_iff _ _).1 e1 h.1
          · exact HN.out i (by omega)
        go_wp2
        exact ⟨⟨k + 1, by omega, by go_num, HNN⟩, by simp [intOf]; omega⟩
      | true =>
        cases e2 : (y.toList == a.toList) with
        | false =>
          have HNN : Hid (∀ i, i < k + 1 → ¬ (st ts i = t ∧ st us i = a)) := fun i hi => by
            by_cases e : i = k
            · subst e; rw [← HY.out]; exact fun h => (Lib.bytes_beq_false_iff _ _).1 e2 h.2
            · exact HN.out i (by omega)
          go_wp2
          exact ⟨⟨k + 1, by omega, by go_num, HNN⟩, by simp [intOf]; omega⟩
        | true =>
          have HIN := hidden ((inP_iff ts us n t a).2 ⟨k, hlt, by rw [← HX.out]; exact (Lib.bytes_beq_iff _ _).1 e1, by rw [← HY.out]; exact (Lib.bytes_beq_iff _ _).1 e2⟩)
          go_wp2
          go_ret
          exact ⟨by rw [HIN.out]; rfl, rfl⟩
    · have HI := hidden (inP_no ts us n t a (fun i hi => HN.out i (by omega)))
      go_wp2
      go_ret
      exact ⟨by rw [HI.out]; rfl, rfl⟩

/-- g1PairLess -/
def plB (t1 a1 t2 a2 : ByteArray) : Bool :=
  if (t1.toList == []) != (t2.toList == []) then t1.toList == []
  else if a1.toList == a2.toList then Op.bytesLess t1.toList t2.toList else Op.bytesLess a1.toList a2.toList

theorem pair_less (t1 a1 t2 a2 : ByteArray) (w : World) :
    Calls Try.prog 29 #[.string t1, .string a1, .string t2, .string a2] w fun e w' => e = .returned (.bool (plB t1 a1 t2 a2)) ∧ w' = w := by
  unfold plB
  have he : (ByteArray.mk #[]).toList = [] := by rw [ByteArray.toList_eq]
  cases e1 : (t1.toList == []) <;> cases e2 : (t2.toList == [])
  case false.true | true.false =>
    go_enter Try.func29, Try.ntmps29
    go_wp2
    go_ret
    exact ⟨rfl, rfl⟩
  all_goals
    cases e3 : (a1.toList == a2.toList)
    all_goals
      go_enter Try.func29, Try.ntmps29
      go_wp2
      go_ret
      exact ⟨rfl, rfl⟩
end Go.Proofs.Qxb6002388a
