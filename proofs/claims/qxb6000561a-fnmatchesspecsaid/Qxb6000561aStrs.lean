/- strBytes (14), cloneStrs (15), the two zzBytes (13, 21): the contracts. -/
import Derived.Test.Qxb6000561aProg
import Derived.WalkKit
import Derived.WalkLawsBesides
import Derived.WalkSpells
import Derived.Deep.OwnRows
namespace Go.Proofs.Qxb6000561a
open Go.RowKit
set_option linter.unusedVariables false

/-- the first n strings lie at a -/
def Sa (w : World) (a : Option Addr) (n : Nat) (ss : List ByteArray) : Prop :=
  ∀ i, i < n → ∃ b off, a = some ⟨b, off, none⟩ ∧ b < w.heap.size ∧ w.cell? ⟨b, off + i, none⟩ = some (.string (ss.getD i ByteArray.empty)) ∧ (ss.getD i ByteArray.empty).size ≤ maxLen
theorem Sa.below {w w' : World} {a : Option Addr} {n : Nat} {ss : List ByteArray} (h : Sa w a n ss) (hb : Below w.heap.size w w') : Sa w' a n ss := by
  intro i hi
  obtain ⟨b, off, e, hlt, hc, hm⟩ := h i hi
  exact ⟨b, off, e, by have := hb.size; omega, (hb.cell (p := ⟨b, off + i, none⟩) hlt).trans hc, hm⟩
theorem Sa.at {w : World} {b off n : Nat} {ss : List ByteArray} (h : Sa w (some ⟨b, off, none⟩) n ss) (i : Nat) (hi : i < n) : b < w.heap.size ∧ w.cell? ⟨b, off + i, none⟩ = some (.string (ss.getD i ByteArray.empty)) ∧ (ss.getD i ByteArray.empty).size ≤ maxLen := by
  obtain ⟨b', off', e, hlt, hc, hm⟩ := h i hi
  cases e
  exact ⟨hlt, hc, hm⟩

/-- the first n strings are short -/
def Short (ss : List ByteArray) (n : Nat) (u : Int) : Prop := ∀ i, i < n → ((ss.getD i ByteArray.empty).size : Int) ≤ u
theorem Short.succ {ss : List ByteArray} {k : Nat} {u : Int} (h : Short ss k u) (s : ByteArray) (hs : ss.getD k ByteArray.empty = s) (h0 : 0 ≤ u) : Short ss (k + 1) (u + s.size) := by
  intro i hi
  by_cases e : i = k
  · subst e; rw [hs]; omega
  · have := h i (by omega); omega

set_option maxHeartbeats 400000 in
theorem str_bytes (a : Option Addr) (n c : Nat) (ss : List ByteArray) (w : World) (hn : n ≤ 4096) (ha : Sa w a n ss) :
    Calls Try.prog 14 #[.slice a n c] w fun e w' => (∃ t : Int, e = .returned (.int .i64 t) ∧ 0 ≤ t ∧ t ≤ 2097152 ∧ (Short ss n t ∨ 1048576 < t)) ∧ w' = w := by
  go_enter Try.func14, Try.ntmps14
  go_wp2
  go_loop [3, 4] (fun t i => ∃ (k : Nat) (u : Int), k ≤ n ∧ i = .int .i64 k ∧ t = .int .i64 u ∧ 0 ≤ u ∧ u ≤ 2097152 ∧ Short ss k u) (fun _ i => n - (intOf i).toNat)
  case atStart => exact ⟨0, _, Nat.zero_le _, rfl, rfl, by omega, by omega, fun i hi => by omega⟩
  case round =>
    obtain ⟨k, u, hk, rfl, rfl, hu0, hu1, hmax⟩ := hrel
    by_cases hlt : k < n
    · obtain ⟨b, off, e, _, hc, hm⟩ := ha k hlt
      subst e
      clear ha
      generalize hs : ss.getD k ByteArray.empty = s at hc hm
      have HS : Hid (ss.getD k ByteArray.empty = s) := hs
      clear hs
      unfold maxLen at hm
      go_wp2
      · go_ret
        exact ⟨⟨_, rfl, by omega, by omega, .inr (by omega)⟩, rfl⟩
      · go_ret
        exact ⟨⟨_, rfl, by omega, by omega, .inr (by omega)⟩, rfl⟩
      · exact ⟨⟨k + 1, _, by omega, by go_num, rfl, by omega, by omega, hmax.succ s HS.out hu0⟩, by simp [intOf]; omega⟩
    · go_wp2
      go_ret
      exact ⟨⟨u, rfl, hu0, hu1, .inl (by rwa [show k = n from by omega] at hmax)⟩, rfl⟩
theorem info9 : (Try.prog.info? 9).map (fun i => (i.zero, i.size, i.bytes)) = some (some (.string ByteArray.empty), 1, 16) := by kernel_rfl

theorem clone_nil (w : World) :
    Calls Try.prog 15 #[.slice none 0 0] w fun e w' => e = .returned (.slice none 0 0) ∧ w' = w := by
  have hnil := fun (a : Option Addr) (n c : Nat) (w : World) => Lib.run_eql_slice_nil (P := Try.prog) w 30 9 a n c 0 0 Try.underlying30
  go_enter Try.func15, Try.ntmps15
  go_wp2
  go_ret
  exact ⟨rfl, rfl⟩

theorem clone_zero (p : Addr) (c : Nat) (w : World) :
    Calls Try.prog 15 #[.slice (some p) 0 c] w fun e w' => e = .returned (.slice (some ⟨w.heap.size, 0, none⟩) 0 0) ∧ Below w.heap.size w w' := by
  have hnil := fun (a : Option Addr) (n c : Nat) (w : World) => Lib.run_eql_slice_nil (P := Try.prog) w 30 9 a n c 0 0 Try.underlying30
  have hmk : ∀ w : World, (Instr.makeSlice 30 (.int .i64 0) (.int .i64 0)).run Try.prog w = .ok (.slice (some ⟨w.heap.size, 0, none⟩) 0 0) (w.alloc (.cells (madeCells #[.string ByteArray.empty] 0) 9)) := fun w => run_make_row' (P := Try.prog) 30 9 (.string ByteArray.empty) 16 Try.underlying30 info9 rfl .i64 .i64 0 (by omega) (by omega) w
  go_enter Try.func15, Try.ntmps15
  go_wp2
  refine wp_loop_rounds 1 ?_
  rw [rounds_succ]
  go_wp2
  go_ret
  exact ⟨rfl, (Below.refl _ _).alloc (Nat.le_refl _) _⟩

/-- it returns true or false -/
def SomeBool (e : Ending) : Prop := ∃ r : Bool, e = .returned (.bool r)

def mix (ss : List ByteArray) (j i : Nat) : ByteArray := if i < j then ss.getD i ByteArray.empty else ByteArray.empty

theorem clone_full (b off n c : Nat) (ss : List ByteArray) (w : World) (hn : n ≤ 4096) (ha : Sa w (some ⟨b, off, none⟩) n ss) :
    Calls Try.prog 15 #[.slice (some ⟨b, off, none⟩) n c] w fun e w' => e = .returned (.slice (some ⟨w.heap.size, 0, none⟩) n n) ∧ w'.rowIs w.heap.size 9 n (fun i => .string (mix ss n i)) ∧ Below w.heap.size w w' := by
  have hnil := fun (a : Option Addr) (n c : Nat) (w : World) => Lib.run_eql_slice_nil (P := Try.prog) w 30 9 a n c 0 0 Try.underlying30
  have hmk := fun (w : World) => run_make_row' (P := Try.prog) 30 9 (.string ByteArray.empty) 16 Try.underlying30 info9 rfl .i64 .i64 n (by omega) (by omega) w
  have HA : Hid (Sa w (some ⟨b, off, none⟩) n ss) := ha
  clear ha
  go_enter Try.func15, Try.ntmps15
  go_wp2
  go_loopw [4] (fun i wr => ∃ j : Nat, j ≤ n ∧ i = .int .i64 j ∧ wr.rowIs w.heap.size 9 n (fun i => .string (mix ss j i)) ∧ Below w.heap.size w wr) (fun i _ => n - (intOf i).toNat)
  case atStart => exact ⟨0, Nat.zero_le _, rfl, (World.rowIs_made _ _ _ _).congr (fun i hi => by simp [mix]), (Below.refl _ _).alloc (Nat.le_refl _) _⟩
  case round =>
    obtain ⟨j, hj, rfl, hrow, hbel⟩ := hrel
    by_cases hlt : j < n
    · have hx : wr.cell? ⟨b, off + j, none⟩ = some (.string (ss.getD j ByteArray.empty)) := (hbel.cell (p := ⟨b, off + j, none⟩) (HA.out.at j hlt).1).trans (HA.out.at j hlt).2.1
      have hy := hrow.cell hlt
      have hf := hrow.frozen j
      have HR : Hid (wr.rowIs w.heap.size 9 n (fun i => .string (mix ss j i))) := hrow
      have HB : Hid (Below w.heap.size w wr) := hbel
      clear hrow hbel
      generalize hz : ss.getD j ByteArray.empty = z at hx
      have HZ : Hid (ss.getD j ByteArray.empty = z) := hz
      clear hz
      go_wp2
      refine ⟨⟨j + 1, by omega, by go_num, (HR.out.set j (.string z)).congr (fun i hi => ?_), HB.out.setCell (Nat.le_refl _) _⟩, by simp [intOf]; omega⟩
      show (if i = j then Value.string z else .string (mix ss j i)) = .string (mix ss (j + 1) i)
      unfold mix
      by_cases e : i = j
      · subst e; rw [if_pos rfl, if_pos (by omega), HZ.out]
      · rw [if_neg e]; by_cases e2 : i < j
        · rw [if_pos e2, if_pos (by omega)]
        · rw [if_neg e2, if_neg (by omega)]
    · obtain rfl : j = n := by omega
      go_wp2
      go_ret
      exact ⟨rfl, hrow, hbel⟩

/-- a slice that is nil has length 0 and capacity 0 -/
def NilOk (a : Option Addr) (n c : Nat) : Prop := a = none → n = 0 ∧ c = 0

theorem clone_strs (a : Option Addr) (n c : Nat) (ss : List ByteArray) (w : World) (hn : n ≤ 4096) (ha : Sa w a n ss) (hc : NilOk a n c) :
    Calls Try.prog 15 #[.slice a n c] w fun e w' => (∃ a' c', e = .returned (.slice a' n c') ∧ NilOk a' n c' ∧ Sa w' a' n ss) ∧ Below w.heap.size w w' := by
  rcases a with _ | p
  · obtain ⟨rfl, rfl⟩ := hc rfl
    refine (clone_nil w).mono ?_
    rintro e w ⟨rfl, rfl⟩
    exact ⟨⟨none, 0, rfl, fun _ => ⟨rfl, rfl⟩, fun i hi => by omega⟩, Below.refl _ _⟩
  · by_cases h0 : n = 0
    · subst h0
      refine (clone_zero p c w).mono ?_
      rintro e w' ⟨rfl, hb⟩
      exact ⟨⟨_, _, rfl, (fun h => by cases h), fun i hi => absurd hi (Nat.not_lt_zero i)⟩, hb⟩
    · obtain ⟨b, off, e, _⟩ := ha 0 (by omega)
      cases e
      refine (clone_full b off n c ss w hn ha).mono ?_
      rintro e w' ⟨rfl, hrow, hb⟩
      refine ⟨⟨_, _, rfl, fun h => (by cases h), fun i hi => ⟨w.heap.size, 0, rfl, hrow.lt, ?_, (ha.at i hi).2.2⟩⟩, hb⟩
      rw [Nat.zero_add, hrow.cell hi]
      simp only [mix, if_pos hi]

set_option maxHeartbeats 1000000 in
theorem bytes_own (a1 a2 : Option Addr) (n1 c1 n2 c2 : Nat) (ss1 ss2 : List ByteArray) (i j : Int) (key : ByteArray) (w : World) (m1 : n1 ≤ maxLen) (m2 : n2 ≤ maxLen) (mk : key.size ≤ maxLen) (h1 : Sa w a1 n1 ss1) (h2 : Sa w a2 n2 ss2) :
    Calls Try.prog 21 #[.slice a1 n1 c1, .slice a2 n2 c2, .int .i64 i, .int .i64 j, .string key] w fun e w' => SomeBool e ∧ w' = w := by
  unfold maxLen at m1 m2 mk
  by_cases l1 : 1048576 < n1
  · go_enter Try.func21, Try.ntmps21
    go_wp2
    go_ret
    exact ⟨⟨_, rfl⟩, rfl⟩
  go_enter Try.func21, Try.ntmps21
  go_wp2
  go_loop [11, 12] (fun t i => ∃ (k : Nat) (u : Int), k ≤ n1 ∧ i = .int .i64 k ∧ t = .int .i64 u ∧ 0 ≤ u ∧ u ≤ 1048576) (fun _ i => n1 - (intOf i).toNat)
  case atStart => exact ⟨0, _, Nat.zero_le _, rfl, rfl, by omega, by omega⟩
  case round =>
    obtain ⟨k, u, hk, rfl, rfl, hu0, hu1⟩ := hrel
    by_cases hlt : k < n1
    · obtain ⟨b, off, e, _, hc, hm⟩ := h1 k hlt
      subst e
      clear h1 h2
      generalize ss1.getD k ByteArray.empty = s at hc hm
      unfold maxLen at hm
      go_wp2
      · go_ret
        exact ⟨⟨_, rfl⟩, rfl⟩
      · go_ret
        exact ⟨⟨_, rfl⟩, rfl⟩
      · exact ⟨⟨k + 1, _, by omega, by go_num, rfl, by omega, by omega⟩, by simp [intOf]; omega⟩
    · clear h1
      by_cases l2 : 1048576 < n2
      · go_wp2
        go_ret
        exact ⟨⟨_, rfl⟩, rfl⟩
      by_cases l3 : 1048576 < u + n2
      · go_wp2
        go_ret
        exact ⟨⟨_, rfl⟩, rfl⟩
      go_wp2
      go_loop [11, 13] (fun t i => ∃ (k : Nat) (u : Int), k ≤ n2 ∧ i = .int .i64 k ∧ t = .int .i64 u ∧ 0 ≤ u ∧ u ≤ 1048576) (fun _ i => n2 - (intOf i).toNat)
      case atStart => exact ⟨0, _, Nat.zero_le _, rfl, rfl, by omega, by omega⟩
      case round =>
        obtain ⟨k2, u2, hk2, rfl, rfl, hu20, hu21⟩ := hrel
        by_cases hlt2 : k2 < n2
        · obtain ⟨b, off, e, _, hc, hm⟩ := h2 k2 hlt2
          subst e
          clear h2
          generalize ss2.getD k2 ByteArray.empty = s at hc hm
          unfold maxLen at hm
          go_wp2
          · go_ret
            exact ⟨⟨_, rfl⟩, rfl⟩
          · go_ret
            exact ⟨⟨_, rfl⟩, rfl⟩
          · exact ⟨⟨k2 + 1, _, by omega, by go_num, rfl, by omega, by omega⟩, by simp [intOf]; omega⟩
        · clear h2
          go_wp2
          all_goals go_ret
          all_goals exact ⟨⟨_, rfl⟩, rfl⟩

set_option maxHeartbeats 1000000 in
theorem bytes_spec (a1 a2 : Option Addr) (n1 c1 n2 c2 : Nat) (ss1 ss2 : List ByteArray) (key : ByteArray) (w : World) (m1 : n1 ≤ maxLen) (m2 : n2 ≤ maxLen) (mk : key.size ≤ maxLen) (h1 : Sa w a1 n1 ss1) (h2 : Sa w a2 n2 ss2) :
    Calls Try.prog 13 #[.slice a1 n1 c1, .slice a2 n2 c2, .string key] w fun e w' => SomeBool e ∧ w' = w := by
  unfold maxLen at m1 m2 mk
  by_cases l1 : 1048576 < n1
  · go_enter Try.func13, Try.ntmps13
    go_wp2
    go_ret
    exact ⟨⟨_, rfl⟩, rfl⟩
  go_enter Try.func13, Try.ntmps13
  go_wp2
  go_loop [7, 8] (fun t i => ∃ (k : Nat) (u : Int), k ≤ n1 ∧ i = .int .i64 k ∧ t = .int .i64 u ∧ 0 ≤ u ∧ u ≤ 1048576) (fun _ i => n1 - (intOf i).toNat)
  case atStart => exact ⟨0, _, Nat.zero_le _, rfl, rfl, by omega, by omega⟩
  case round =>
    obtain ⟨k, u, hk, rfl, rfl, hu0, hu1⟩ := hrel
    by_cases hlt : k < n1
    · obtain ⟨b, off, e, _, hc, hm⟩ := h1 k hlt
      subst e
      clear h1 h2
      generalize ss1.getD k ByteArray.empty = s at hc hm
      unfold maxLen at hm
      go_wp2
      · go_ret
        exact ⟨⟨_, rfl⟩, rfl⟩
      · go_ret
        exact ⟨⟨_, rfl⟩, rfl⟩
      · exact ⟨⟨k + 1, _, by omega, by go_num, rfl, by omega, by omega⟩, by simp [intOf]; omega⟩
    · clear h1
      by_cases l2 : 1048576 < n2
      · go_wp2
        go_ret
        exact ⟨⟨_, rfl⟩, rfl⟩
      by_cases l3 : 1048576 < u + n2
      · go_wp2
        go_ret
        exact ⟨⟨_, rfl⟩, rfl⟩
      go_wp2
      go_loop [7, 9] (fun t i => ∃ (k : Nat) (u : Int), k ≤ n2 ∧ i = .int .i64 k ∧ t = .int .i64 u ∧ 0 ≤ u ∧ u ≤ 1048576) (fun _ i => n2 - (intOf i).toNat)
      case atStart => exact ⟨0, _, Nat.zero_le _, rfl, rfl, by omega, by omega⟩
      case round =>
        obtain ⟨k2, u2, hk2, rfl, rfl, hu20, hu21⟩ := hrel
        by_cases hlt2 : k2 < n2
        · obtain ⟨b, off, e, _, hc, hm⟩ := h2 k2 hlt2
          subst e
          clear h2
          generalize ss2.getD k2 ByteArray.empty = s at hc hm
          unfold maxLen at hm
          go_wp2
          · go_ret
            exact ⟨⟨_, rfl⟩, rfl⟩
          · go_ret
            exact ⟨⟨_, rfl⟩, rfl⟩
          · exact ⟨⟨k2 + 1, _, by omega, by go_num, rfl, by omega, by omega⟩, by simp [intOf]; omega⟩
        · clear h2
          go_wp2
          all_goals go_ret
          all_goals exact ⟨⟨_, rfl⟩, rfl⟩

end Go.Proofs.Qxb6000561a
