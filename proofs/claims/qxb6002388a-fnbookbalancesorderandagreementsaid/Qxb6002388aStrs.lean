/- zzBytes (5), g1Bytes (6), g1CopyStrings (7), g1Has (12), g1Distinct (11): the contracts. -/
import Derived.Test.Qxb6002388aProg
import Derived.WalkKit
import Derived.WalkLawsBesides
import Derived.WalkSpells
import Derived.Deep.OwnRows
import Derived.BigQuiet
import Derived.Deep.QuietTactic
import Derived.Lib.SlicesS
namespace Go.Proofs.Qxb6002388a
open Go.RowKit
set_option linter.unusedVariables false

/-- the string at place i -/
def st (ss : List ByteArray) (i : Nat) : ByteArray := ss.getD i ByteArray.empty
theorem hidden {p : Prop} (h : p) : Hid p := h

/-- the first n strings lie at a -/
def Sa (w : World) (a : Option Addr) (n : Nat) (ss : List ByteArray) : Prop :=
  ∀ i, i < n → ∃ b off, a = some ⟨b, off, none⟩ ∧ b < w.heap.size ∧ w.cell? ⟨b, off + i, none⟩ = some (.string (ss.getD i ByteArray.empty)) ∧ (ss.getD i ByteArray.empty).size ≤ maxLen
theorem Sa.below {w w' : World} {a : Option Addr} {n : Nat} {ss : List ByteArray} (h : Sa w a n ss) (hb : Below w.heap.size w w') : Sa w' a n ss := by
  intro i hi
  obtain ⟨b, off, e, hlt, hc, hm⟩ := h i hi
  exact ⟨b, off, e, by have := hb.size; omega, (hb.cell (p := ⟨b, off + i, none⟩) hlt).trans hc, hm⟩
theorem Sa.at {w : World} {b off n : Nat} {ss : List ByteArray} (h : Sa w (some ⟨b, off, none⟩) n ss) (i : Nat) (hi : i < n) : b < w.heap.size ∧ w.cell? ⟨b, off + i, none⟩ = some (.string (ss.getD i ByteArray.empty)) ∧ (ss.getD i ByteArray.empty).size ≤ maxLen := by
  obtain ⟨b', off', e, hlt, hc, hm⟩ := h i hi
  cases e
  exact ⟨hlt, hc, hm⟩

theorem info9 : (Try.prog.info? 9).map (fun i => (i.zero, i.size, i.bytes)) = some (some (.string ByteArray.empty), 1, 16) := by kernel_rfl

theorem clone_nil (w : World) :
    Calls Try.prog 7 #[.slice none 0 0] w fun e w' => e = .returned (.slice none 0 0) ∧ w' = w := by
  have hnil := fun (a : Option Addr) (n c : Nat) (w : World) => Lib.run_eql_slice_nil (P := Try.prog) w 22 9 a n c 0 0 Try.underlying22
  go_enter Try.func7, Try.ntmps7
  go_wp2
  go_ret
  exact ⟨rfl, rfl⟩

theorem clone_zero (p : Addr) (c : Nat) (w : World) :
    Calls Try.prog 7 #[.slice (some p) 0 c] w fun e w' => e = .returned (.slice (some ⟨w.heap.size, 0, none⟩) 0 0) ∧ Below w.heap.size w w' := by
  have hnil := fun (a : Option Addr) (n c : Nat) (w : World) => Lib.run_eql_slice_nil (P := Try.prog) w 22 9 a n c 0 0 Try.underlying22
  have hmk : ∀ w : World, (Instr.makeSlice 22 (.int .i64 0) (.int .i64 0)).run Try.prog w = .ok (.slice (some ⟨w.heap.size, 0, none⟩) 0 0) (w.alloc (.cells (madeCells #[.string ByteArray.empty] 0) 9)) := fun w => run_make_row' (P := Try.prog) 22 9 (.string ByteArray.empty) 16 Try.underlying22 info9 rfl .i64 .i64 0 (by omega) (by omega) w
  go_enter Try.func7, Try.ntmps7
  go_wp2
  refine wp_loop_rounds 1 ?_
  rw [rounds_succ]
  go_wp2
  go_ret
  exact ⟨rfl, (Below.refl _ _).alloc (Nat.le_refl _) _⟩

/-- it returns true or false -/
def SomeBool (e : Ending) : Prop := ∃ r : Bool, e = .returned (.bool r)

def mix (ss : List ByteArray) (j i : Nat) : ByteArray := if i < j then ss.getD i ByteArray.empty else ByteArray.empty

theorem clone_full (b off n c : Nat) (ss : List ByteArray) (w : World) (hn : n ≤ 64) (ha : Sa w (some ⟨b, off, none⟩) n ss) :
    Calls Try.prog 7 #[.slice (some ⟨b, off, none⟩) n c] w fun e w' => e = .returned (.slice (some ⟨w.heap.size, 0, none⟩) n n) ∧ w'.rowIs w.heap.size 9 n (fun i => .string (mix ss n i)) ∧ Below w.heap.size w w' := by
  have hnil := fun (a : Option Addr) (n c : Nat) (w : World) => Lib.run_eql_slice_nil (P := Try.prog) w 22 9 a n c 0 0 Try.underlying22
  have hmk := fun (w : World) => run_make_row' (P := Try.prog) 22 9 (.string ByteArray.empty) 16 Try.underlying22 info9 rfl .i64 .i64 n (by omega) (by omega) w
  have HA : Hid (Sa w (some ⟨b, off, none⟩) n ss) := ha
  clear ha
  go_enter Try.func7, Try.ntmps7
  go_wp2
  go_loopw [4] (fun i wr => ∃ j : Nat, j ≤ n ∧ i = .int .i64 j ∧ wr.rowIs w.heap.size 9 n (fun i => .string (mix ss j i)) ∧ Below w.heap.size w wr) (fun i _ => n - (intOf i).toNat)
  case atStart => exact ⟨0, Nat.zero_le _, rfl, (World.rowIs_made _ _ _ _).congr (fun i hi => by simp [mix]), (Below.refl _ _).alloc (Nat.le_refl _) _⟩
  case round =>
    obtain ⟨j, hj, rfl, hrow, hbel⟩ := hrel
    by_cases hlt : j < n
    · have hx : wr.cell? ⟨b, off + j, none⟩ = some (.string (ss.getD j ByteArray.empty)) := (hbel.cell (p := ⟨b, off + j, none⟩) (HA.out.at j hlt).1).trans (HA.out.at j hlt).2.1
      have hy := hrow.cell hlt
      have hf := hrow.frozen j
      have HR : Hid (wr.rowIs w.heap.size 9 n (fun i => .string (mix ss j i))) := hrow
      have HB : Hid (Below w.heap.size w wr) := hbel
      clear hrow hbel
      generalize hz : ss.getD j ByteArray.empty = z at hx
      have HZ : Hid (ss.getD j ByteArray.empty = z) := hz
      clear hz
      go_wp2
      refine ⟨⟨j + 1, by omega, by go_num, (HR.out.set j (.string z)).congr (fun i hi => ?_), HB.out.setCell (Nat.le_refl _) _⟩, by simp [intOf]; omega⟩
      show (if i = j then Value.string z else .string (mix ss j i)) = .string (mix ss (j + 1) i)
      unfold mix
      by_cases e : i = j
      · subst e; rw [if_pos rfl, if_pos (by omega), HZ.out]
      · rw [if_neg e]; by_cases e2 : i < j
        · rw [if_pos e2, if_pos (by omega)]
        · rw [if_neg e2, if_neg (by omega)]
    · obtain rfl : j = n := by omega
      go_wp2
      go_ret
      exact ⟨rfl, hrow, hbel⟩

/-- a slice that is nil has length 0 and capacity 0 -/
def NilOk (a : Option Addr) (n c : Nat) : Prop := a = none → n = 0 ∧ c = 0

theorem clone_strs (a : Option Addr) (n c : Nat) (ss : List ByteArray) (w : World) (hn : n ≤ 64) (ha : Sa w a n ss) (hc : NilOk a n c) :
    Calls Try.prog 7 #[.slice a n c] w fun e w' => (∃ a' c', e = .returned (.slice a' n c') ∧ NilOk a' n c' ∧ n ≤ c' ∧ Sa w' a' n ss) ∧ Below w.heap.size w w' := by
  rcases a with _ | p
  · obtain ⟨rfl, rfl⟩ := hc rfl
    refine (clone_nil w).mono ?_
    rintro e w ⟨rfl, rfl⟩
    exact ⟨⟨none, 0, rfl, fun _ => ⟨rfl, rfl⟩, Nat.le_refl _, fun i hi => by omega⟩, Below.refl _ _⟩
  · by_cases h0 : n = 0
    · subst h0
      refine (clone_zero p c w).mono ?_
      rintro e w' ⟨rfl, hb⟩
      exact ⟨⟨_, _, rfl, (fun h => by cases h), Nat.le_refl _, fun i hi => absurd hi (Nat.not_lt_zero i)⟩, hb⟩
    · obtain ⟨b, off, e, _⟩ := ha 0 (by omega)
      cases e
      refine (clone_full b off n c ss w hn ha).mono ?_
      rintro e w' ⟨rfl, hrow, hb⟩
      refine ⟨⟨_, _, rfl, fun h => (by cases h), Nat.le_refl _, fun i hi => ⟨w.heap.size, 0, rfl, hrow.lt, ?_, (ha.at i hi).2.2⟩⟩, hb⟩
      rw [Nat.zero_add, hrow.cell hi]
      simp only [mix, if_pos hi]

set_option maxHeartbeats 1000000 in
theorem zz_bytes (tok : ByteArray) (a1 : Option Addr) (n1 c1 : Nat) (ss1 : List ByteArray) (w : World) (m0 : tok.size ≤ maxLen) (m1 : n1 ≤ maxLen) (h1 : Sa w a1 n1 ss1) :
    Calls Try.prog 5 #[.string tok, .slice a1 n1 c1] w fun e w' => SomeBool e ∧ w' = w := by
  unfold maxLen at m0 m1
  by_cases l0 : 1048576 < tok.size
  · go_enter Try.func5, Try.ntmps5
    go_wp2
    go_ret
    exact ⟨⟨_, rfl⟩, rfl⟩
  by_cases l1 : 1048576 < n1
  · go_enter Try.func5, Try.ntmps5
    go_wp2
    go_ret
    exact ⟨⟨_, rfl⟩, rfl⟩
  by_cases l2 : 1048576 < tok.size + n1
  · go_enter Try.func5, Try.ntmps5
    go_wp2
    go_ret
    exact ⟨⟨_, rfl⟩, rfl⟩
  go_enter Try.func5, Try.ntmps5
  go_wp2
  go_loop [5, 6] (fun t i => ∃ (k : Nat) (u : Int), k ≤ n1 ∧ i = .int .i64 k ∧ t = .int .i64 u ∧ 0 ≤ u ∧ u ≤ 1048576) (fun _ i => n1 - (intOf i).toNat)
  case atStart => exact ⟨0, _, Nat.zero_le _, rfl, rfl, by omega, by omega⟩
  case round =>
    obtain ⟨k, u, hk, rfl, rfl, hu0, hu1⟩ := hrel
    by_cases hlt : k < n1
    · obtain ⟨b, off, e, _, hc, hm⟩ := h1 k hlt
      subst e
      clear h1
      generalize ss1.getD k ByteArray.empty = s at hc hm
      unfold maxLen at hm
      go_wp2
      · go_ret
        exact ⟨⟨_, rfl⟩, rfl⟩
      · go_ret
        exact ⟨⟨_, rfl⟩, rfl⟩
      · exact ⟨⟨k + 1, _, by omega, by go_num, rfl, by omega, by omega⟩, by simp [intOf]; omega⟩
    · clear h1
      go_wp2
      go_ret
      exact ⟨⟨_, rfl⟩, rfl⟩

/-- it returns an int -/
def SomeInt (e : Ending) : Prop := ∃ t : Int, e = .returned (.int .i64 t)

set_option maxHeartbeats 400000 in
theorem g1_bytes (a : Option Addr) (n c : Nat) (ss : List ByteArray) (w : World) (hn : n ≤ maxLen) (ha : Sa w a n ss) :
    Calls Try.prog 6 #[.slice a n c] w fun e w' => SomeInt e ∧ w' = w := by
  unfold maxLen at hn
  go_enter Try.func6, Try.ntmps6
  go_wp2
  go_loop [3, 4] (fun t i => ∃ (k : Nat) (u : Int), k ≤ n ∧ i = .int .i64 k ∧ t = .int .i64 u) (fun _ i => n - (intOf i).toNat)
  case atStart => exact ⟨0, _, Nat.zero_le _, rfl, rfl⟩
  case round =>
    obtain ⟨k, u, hk, rfl, rfl⟩ := hrel
    by_cases hlt : k < n
    · obtain ⟨b, off, e, _, hc, hm⟩ := ha k hlt
      subst e
      clear ha
      generalize ss.getD k ByteArray.empty = s at hc hm
      clear hm
      go_wp2
      exact ⟨⟨k + 1, _, by omega, by go_num, rfl⟩, by simp [intOf]; omega⟩
    · go_wp2
      go_ret
      exact ⟨⟨u, rfl⟩, rfl⟩

/-- s is among the first n -/
def inB (ss : List ByteArray) (n : Nat) (s : ByteArray) : Bool := (List.range n).any (fun i => decide (st ss i = s))
theorem inB_iff (ss : List ByteArray) (n : Nat) (s : ByteArray) : inB ss n s = true ↔ ∃ i, i < n ∧ st ss i = s := by
  unfold inB; simp
theorem inB_no (ss : List ByteArray) (n : Nat) (s : ByteArray) (h : ∀ i, i < n → st ss i ≠ s) : inB ss n s = false := by
  cases hh : inB ss n s with
  | false => rfl
  | true => obtain ⟨i, hi, e⟩ := (inB_iff ss n s).1 hh; exact absurd e (h i hi)

set_option maxHeartbeats 400000 in
theorem g1_has (a : Option Addr) (n c : Nat) (ss : List ByteArray) (s : ByteArray) (w : World) (hn : n ≤ 4096) (ha : Sa w a n ss) :
    Calls Try.prog 12 #[.slice a n c, .string s] w fun e w' => e = .returned (.bool (inB ss n s)) ∧ w' = w := by
  go_enter Try.func12, Try.ntmps12
  go_wp2
  go_loop [5] (fun i => ∃ k : Nat, k ≤ n ∧ i = .int .i64 k ∧ Hid (∀ i, i < k → st ss i ≠ s)) (fun i => n - (intOf i).toNat)
  case atStart => exact ⟨0, Nat.zero_le _, rfl, fun i hi => absurd hi (Nat.not_lt_zero i)⟩
  case round =>
    obtain ⟨k, hk, rfl, HN⟩ := hrel
    by_cases hlt : k < n
    · obtain ⟨b, off, e, _, hc, hm⟩ := ha k hlt
      subst e
      clear ha
      have hc' : w.cell? ⟨b, off + k, none⟩ = some (.string (st ss k)) := hc
      clear hc hm
      obtain ⟨x, hx⟩ : ∃ x, x = st ss k := ⟨_, rfl⟩
      rw [← hx] at hc'
      have HS := hidden hx
      clear hx
      go_wp2
      · have he : (x.toList == s.toList) = true := by assumption
        have hin : inB ss n s = true := (inB_iff _ _ _).2 ⟨k, hlt, by rw [← HS.out]; exact (Lib.bytes_beq_iff _ _).1 he⟩
        go_ret
        exact ⟨by rw [hin]; rfl, rfl⟩
      · have he : (x.toList == s.toList) = false := by assumption
        refine ⟨⟨k + 1, by omega, by go_num, fun i hi => ?_⟩, by simp [intOf]; omega⟩
        by_cases e : i = k
        · subst e; rw [← HS.out]; exact (Lib.bytes_beq_false_iff _ _).1 he
        · exact HN.out i (by omega)
    · clear ha
      have HI := hidden (inB_no ss n s (fun i hi => HN.out i (by omega)))
      go_wp2
      go_ret
      exact ⟨by rw [HI.out]; rfl, rfl⟩

/-- how many different strings there are among the first k -/
def dist (ss : List ByteArray) : Nat → Nat
  | 0 => 0
  | k + 1 => dist ss k + if inB ss k (st ss k) then 0 else 1
theorem dist_le (ss : List ByteArray) (k : Nat) : dist ss k ≤ k := by
  induction k with
  | zero => exact Nat.le_refl _
  | succ k ih => simp only [dist]; split <;> omega
theorem Sa.drewN {w : World} {a : Option Addr} {n : Nat} {ss : List ByteArray} (h : Sa w a n ss) (q : Nat) : Sa (w.drewN q) a n ss := h
theorem Sa.mono {w : World} {a : Option Addr} {n k : Nat} {ss : List ByteArray} (h : Sa w a n ss) (hk : k ≤ n) : Sa w a k ss := fun i hi => h i (by omega)

set_option maxHeartbeats 400000 in
theorem g1_distinct (a : Option Addr) (n c : Nat) (ss : List ByteArray) (w : World) (hn : n ≤ 4096) (hnc : n ≤ c) (ha : Sa w a n ss) :
    Calls Try.prog 11 #[.slice a n c] w fun e w' => e = .returned (.int .i64 (dist ss n)) ∧ ∃ q, w' = w.drewN q := by
  go_enter Try.func11, Try.ntmps11
  go_wp2
  go_loopw [3, 4] (fun t i wr => ∃ k q : Nat, k ≤ n ∧ i = .int .i64 k ∧ t = .int .i64 (dist ss k) ∧ wr = w.drewN q) (fun _ i _ => n - (intOf i).toNat)
  case atStart => exact ⟨0, 0, Nat.zero_le _, rfl, rfl, rfl⟩
  case round =>
    obtain ⟨k, q, hk, rfl, rfl, rfl⟩ := hrel
    have hdl := dist_le ss k
    by_cases hlt : k < n
    · obtain ⟨b, off, e, hb, hc, hm⟩ := ha k hlt
      subst e
      have HA := hidden ha
      clear ha
      have hc' : w.cell? ⟨b, off + k, none⟩ = some (.string (st ss k)) := hc
      clear hc hm
      cases hin : inB ss k (st ss k) with
      | true =>
        have HD := hidden (show dist ss (k + 1) = dist ss k by simp only [dist]; rw [hin]; rfl)
        obtain ⟨x, hx⟩ : ∃ x, x = st ss k := ⟨_, rfl⟩
        rw [← hx] at hc' hin
        clear hx
        have hsk : k ≤ c := by omega
        obtain ⟨wq, hwq⟩ : ∃ wq, w.drewN q = wq := ⟨_, rfl⟩
        have hcq : wq.cell? ⟨b, off + k, none⟩ = some (.string x) := by rw [← hwq]; exact hc'
        have hsq : Sa wq (some ⟨b, off, none⟩) n ss := by rw [← hwq]; exact HA.out.drewN q
        rw [hwq]
        have HWQ := hidden hwq
        have HSQ := hidden hsq
        clear hwq hsq hc'
        have HHAS : Hid (∀ q', Calls Try.prog 12 #[.slice (some ⟨b, off, none⟩) k c, .string x] (wq.drewN q') fun e w' => e = .returned (.bool true) ∧ w' = wq.drewN q') := fun q' => by
          have h := g1_has (some ⟨b, off, none⟩) k c ss x (wq.drewN q') (by omega) ((HSQ.out.mono (by omega)).drewN q')
          rw [hin] at h
          exact h
        generalize hd : dist ss k = d at *
        clear hin hd
        go_wp2
        go_quiet ((go_at_call 12; exact Calls.quiet_of_same (HHAS.out _)))
        go_wp2
        exact ⟨⟨k + 1, q + nq, by omega, by go_num, by rw [HD.out], by rw [← HWQ.out, World.drewN_drewN]⟩, by simp [intOf]; omega⟩
      | false =>
        have HD := hidden (show dist ss (k + 1) = dist ss k + 1 by simp only [dist]; rw [hin]; rfl)
        obtain ⟨x, hx⟩ : ∃ x, x = st ss k := ⟨_, rfl⟩
        rw [← hx] at hc' hin
        clear hx
        have hsk : k ≤ c := by omega
        obtain ⟨wq, hwq⟩ : ∃ wq, w.drewN q = wq := ⟨_, rfl⟩
        have hcq : wq.cell? ⟨b, off + k, none⟩ = some (.string x) := by rw [← hwq]; exact hc'
        have hsq : Sa wq (some ⟨b, off, none⟩) n ss := by rw [← hwq]; exact HA.out.drewN q
        rw [hwq]
        have HWQ := hidden hwq
        have HSQ := hidden hsq
        clear hwq hsq hc'
        have HHAS : Hid (∀ q', Calls Try.prog 12 #[.slice (some ⟨b, off, none⟩) k c, .string x] (wq.drewN q') fun e w' => e = .returned (.bool false) ∧ w' = wq.drewN q') := fun q' => by
          have h := g1_has (some ⟨b, off, none⟩) k c ss x (wq.drewN q') (by omega) ((HSQ.out.mono (by omega)).drewN q')
          rw [hin] at h
          exact h
        generalize hd : dist ss k = d at *
        clear hin hd
        go_wp2
        go_quiet ((go_at_call 12; exact Calls.quiet_of_same (HHAS.out _)))
        go_wp2
        exact ⟨⟨k + 1, q + nq, by omega, by go_num, by rw [HD.out]; go_num, by rw [← HWQ.out, World.drewN_drewN]⟩, by simp [intOf]; omega⟩
    · obtain rfl : k = n := by omega
      go_wp2
      go_ret
      exact ⟨rfl, q, rfl⟩
end Go.Proofs.Qxb6002388a
