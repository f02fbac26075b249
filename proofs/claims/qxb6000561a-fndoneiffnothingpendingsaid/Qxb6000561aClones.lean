/- zzBytes (8), cloneU8 (9), cloneU64 (10): the contracts. -/
import Derived.Test.Qxb6000561aProg
import Derived.WalkKit
import Derived.WalkLawsBesides
import Derived.WalkSpells
import Derived.Deep.OwnRows
namespace Go.Proofs.Qxb6000561a
open Go.RowKit
set_option linter.unusedVariables false

theorem bytes_yes (r : Int) (a1 a2 : Option Addr) (n1 c1 n2 c2 : Nat) (w : World) (h : n1 + n2 ≤ 1048576) :
    Calls Try.prog 8 #[.int .i64 r, .slice a1 n1 c1, .slice a2 n2 c2] w fun e w' => e = .returned (.bool true) ∧ w' = w := by
  go_enter Try.func8, Try.ntmps8
  go_wp2
  go_ret
  exact ⟨rfl, rfl⟩

theorem bytes_no (r : Int) (a1 a2 : Option Addr) (n1 c1 n2 c2 : Nat) (w : World) (h : 1048576 < n1 + n2) (m1 : n1 ≤ maxLen) (m2 : n2 ≤ maxLen) :
    Calls Try.prog 8 #[.int .i64 r, .slice a1 n1 c1, .slice a2 n2 c2] w fun e w' => e = .returned (.bool false) ∧ w' = w := by
  unfold maxLen at m1 m2
  by_cases h1 : 1048576 < n1
  · go_enter Try.func8, Try.ntmps8
    go_wp2
    go_ret
    exact ⟨rfl, rfl⟩
  by_cases h2 : 1048576 < n2
  · go_enter Try.func8, Try.ntmps8
    go_wp2
    go_ret
    exact ⟨rfl, rfl⟩
  go_enter Try.func8, Try.ntmps8
  go_wp2
  go_ret
  exact ⟨rfl, rfl⟩

/-- the first n numbers lie at p -/
def Arr (k : IntKind) (w : World) (p : Addr) (n : Nat) (zs : List Int) : Prop :=
  ∀ i, i < n → ∃ b off, p = ⟨b, off, none⟩ ∧ b < w.heap.size ∧ w.cell? ⟨b, off + i, none⟩ = some (.int k (zs.getD i 0))
theorem Arr.below {k : IntKind} {w w' : World} {p : Addr} {n : Nat} {zs : List Int} (h : Arr k w p n zs) (hb : Below w.heap.size w w') : Arr k w' p n zs := by
  intro i hi
  obtain ⟨b, off, e, hlt, hc⟩ := h i hi
  exact ⟨b, off, e, by have := hb.size; omega, (hb.cell (p := ⟨b, off + i, none⟩) hlt).trans hc⟩
theorem Arr.cells {k : IntKind} {w : World} {b off n : Nat} {zs : List Int} (h : Arr k w ⟨b, off, none⟩ n zs) (i : Nat) (hi : i < n) : b < w.heap.size ∧ w.cell? ⟨b, off + i, none⟩ = some (.int k (zs.getD i 0)) := by
  obtain ⟨b', off', e, hlt, hc⟩ := h i hi
  cases e
  exact ⟨hlt, hc⟩

theorem info5 : (Try.prog.info? 5).map (fun i => (i.zero, i.size, i.bytes)) = some (some (.int .u8 0), 1, 1) := by kernel_rfl
theorem info27 : (Try.prog.info? 27).map (fun i => (i.zero, i.size, i.bytes)) = some (some (.int .u64 0), 1, 8) := by kernel_rfl

theorem clone8_nil (w : World) :
    Calls Try.prog 9 #[.slice none 0 0] w fun e w' => e = .returned (.slice none 0 0) ∧ w' = w := by
  have hnil := fun (a : Option Addr) (n c : Nat) (w : World) => Lib.run_eql_slice_nil (P := Try.prog) w 22 5 a n c 0 0 Try.underlying22
  go_enter Try.func9, Try.ntmps9
  go_wp2
  go_ret
  exact ⟨rfl, rfl⟩

/-- the copy lies in one new block -/
theorem clone8_full (b off n c : Nat) (zs : List Int) (w : World) (hn : n ≤ 1048576) (hb : b < w.heap.size) (hc : ∀ i, i < n → w.cell? ⟨b, off + i, none⟩ = some (.int .u8 (zs.getD i 0))) :
    Calls Try.prog 9 #[.slice (some ⟨b, off, none⟩) n c] w fun e w' => e = .returned (.slice (some ⟨w.heap.size, 0, none⟩) n n) ∧ w'.rowIs w.heap.size 5 n (fun i => .int .u8 (zs.getD i 0)) ∧ Below w.heap.size w w' ∧ w'.heap.size = w.heap.size + 1 := by
  have hnil := fun (a : Option Addr) (n c : Nat) (w : World) => Lib.run_eql_slice_nil (P := Try.prog) w 22 5 a n c 0 0 Try.underlying22
  have hmk := fun (w : World) => run_make_row' (P := Try.prog) 22 5 (.int .u8 0) 1 Try.underlying22 info5 rfl .i64 .i64 n (by omega) (by omega) w
  go_enter Try.func9, Try.ntmps9
  go_wp2
  go_loopw [4] (fun i wr => ∃ j : Nat, j ≤ n ∧ i = .int .i64 j ∧ wr.rowIs w.heap.size 5 n (fun i => .int .u8 (if i < j then zs.getD i 0 else 0)) ∧ Below w.heap.size w wr ∧ wr.heap.size = w.heap.size + 1) (fun i _ => n - (intOf i).toNat)
  case atStart => exact ⟨0, Nat.zero_le _, rfl, (World.rowIs_made _ _ _ _).congr (fun i hi => by simp), (Below.refl _ _).alloc (Nat.le_refl _) _, by simp⟩
  case round =>
    obtain ⟨j, hj, rfl, hrow, hbel, hsz⟩ := hrel
    by_cases hlt : j < n
    · have hx : wr.cell? ⟨b, off + j, none⟩ = some (.int .u8 (zs.getD j 0)) := (hbel.cell (p := ⟨b, off + j, none⟩) hb).trans (hc j hlt)
      have hy := hrow.cell hlt
      have hf := hrow.frozen j
      have HR : Hid (wr.rowIs w.heap.size 5 n (fun i => .int .u8 (if i < j then zs.getD i 0 else 0))) := hrow
      have HB : Hid (Below w.heap.size w wr) := hbel
      have HS : Hid (wr.heap.size = w.heap.size + 1) := hsz
      clear hrow hbel hsz
      generalize hz : zs.getD j 0 = z at hx
      have HZ : Hid (zs.getD j 0 = z) := hz
      clear hz
      go_wp2
      refine ⟨⟨j + 1, by omega, by go_num, (HR.out.set j (.int .u8 z)).congr (fun i hi => ?_), HB.out.setCell (Nat.le_refl _) _, HS.out ▸ World.size_setCell _ _ _⟩, by simp [intOf]; omega⟩
      show (if i = j then Value.int .u8 z else .int .u8 (if i < j then zs.getD i 0 else 0)) = _
      by_cases e : i = j
      · subst e; rw [if_pos rfl, if_pos (by omega), HZ.out]
      · rw [if_neg e]; by_cases e2 : i < j
        · rw [if_pos e2, if_pos (by omega)]
        · rw [if_neg e2, if_neg (by omega)]
    · go_wp2
      go_ret
      exact ⟨rfl, hrow.congr (fun i hi => by rw [if_pos (by omega)]), hbel, hsz⟩

theorem clone8_zero (p : Addr) (c : Nat) (zs : List Int) (w : World) :
    Calls Try.prog 9 #[.slice (some p) 0 c] w fun e w' => e = .returned (.slice (some ⟨w.heap.size, 0, none⟩) 0 0) ∧ w'.rowIs w.heap.size 5 0 (fun i => .int .u8 (zs.getD i 0)) ∧ Below w.heap.size w w' ∧ w'.heap.size = w.heap.size + 1 := by
  have hnil := fun (a : Option Addr) (n c : Nat) (w : World) => Lib.run_eql_slice_nil (P := Try.prog) w 22 5 a n c 0 0 Try.underlying22
  have hmk : ∀ w : World, (Instr.makeSlice 22 (.int .i64 0) (.int .i64 0)).run Try.prog w = .ok (.slice (some ⟨w.heap.size, 0, none⟩) 0 0) (w.alloc (.cells (madeCells #[.int .u8 0] 0) 5)) := fun w => run_make_row' (P := Try.prog) 22 5 (.int .u8 0) 1 Try.underlying22 info5 rfl .i64 .i64 0 (by omega) (by omega) w
  go_enter Try.func9, Try.ntmps9
  go_wp2
  refine wp_loop_rounds 1 ?_
  rw [rounds_succ]
  go_wp2
  go_ret
  exact ⟨rfl, (World.rowIs_made _ _ _ _).congr (fun i hi => by omega), (Below.refl _ _).alloc (Nat.le_refl _) _, by simp⟩

theorem clone8_some (p : Addr) (n c : Nat) (zs : List Int) (w : World) (hn : n ≤ 1048576) (ha : Arr .u8 w p n zs) :
    Calls Try.prog 9 #[.slice (some p) n c] w fun e w' => e = .returned (.slice (some ⟨w.heap.size, 0, none⟩) n n) ∧ w'.rowIs w.heap.size 5 n (fun i => .int .u8 (zs.getD i 0)) ∧ Below w.heap.size w w' ∧ w'.heap.size = w.heap.size + 1 := by
  by_cases h0 : n = 0
  · subst h0; exact clone8_zero p c zs w
  · obtain ⟨b, off, rfl, hlt, _⟩ := ha 0 (by omega)
    exact clone8_full b off n c zs w hn hlt (fun i hi => (ha.cells i hi).2)

theorem clone64_nil (w : World) :
    Calls Try.prog 10 #[.slice none 0 0] w fun e w' => e = .returned (.slice none 0 0) ∧ w' = w := by
  have hnil := fun (a : Option Addr) (n c : Nat) (w : World) => Lib.run_eql_slice_nil (P := Try.prog) w 23 27 a n c 0 0 Try.underlying23
  go_enter Try.func10, Try.ntmps10
  go_wp2
  go_ret
  exact ⟨rfl, rfl⟩

/-- the copy lies in one new block -/
theorem clone64_full (b off n c : Nat) (zs : List Int) (w : World) (hn : n ≤ 1048576) (hb : b < w.heap.size) (hc : ∀ i, i < n → w.cell? ⟨b, off + i, none⟩ = some (.int .u64 (zs.getD i 0))) :
    Calls Try.prog 10 #[.slice (some ⟨b, off, none⟩) n c] w fun e w' => e = .returned (.slice (some ⟨w.heap.size, 0, none⟩) n n) ∧ w'.rowIs w.heap.size 27 n (fun i => .int .u64 (zs.getD i 0)) ∧ Below w.heap.size w w' ∧ w'.heap.size = w.heap.size + 1 := by
  have hnil := fun (a : Option Addr) (n c : Nat) (w : World) => Lib.run_eql_slice_nil (P := Try.prog) w 23 27 a n c 0 0 Try.underlying23
  have hmk := fun (w : World) => run_make_row' (P := Try.prog) 23 27 (.int .u64 0) 8 Try.underlying23 info27 rfl .i64 .i64 n (by omega) (by omega) w
  go_enter Try.func10, Try.ntmps10
  go_wp2
  go_loopw [4] (fun i wr => ∃ j : Nat, j ≤ n ∧ i = .int .i64 j ∧ wr.rowIs w.heap.size 27 n (fun i => .int .u64 (if i < j then zs.getD i 0 else 0)) ∧ Below w.heap.size w wr ∧ wr.heap.size = w.heap.size + 1) (fun i _ => n - (intOf i).toNat)
  case atStart => exact ⟨0, Nat.zero_le _, rfl, (World.rowIs_made _ _ _ _).congr (fun i hi => by simp), (Below.refl _ _).alloc (Nat.le_refl _) _, by simp⟩
  case round =>
    obtain ⟨j, hj, rfl, hrow, hbel, hsz⟩ := hrel
    by_cases hlt : j < n
    · have hx : wr.cell? ⟨b, off + j, none⟩ = some (.int .u64 (zs.getD j 0)) := (hbel.cell (p := ⟨b, off + j, none⟩) hb).trans (hc j hlt)
      have hy := hrow.cell hlt
      have hf := hrow.frozen j
      have HR : Hid (wr.rowIs w.heap.size 27 n (fun i => .int .u64 (if i < j then zs.getD i 0 else 0))) := hrow
      have HB : Hid (Below w.heap.size w wr) := hbel
      have HS : Hid (wr.heap.size = w.heap.size + 1) := hsz
      clear hrow hbel hsz
      generalize hz : zs.getD j 0 = z at hx
      have HZ : Hid (zs.getD j 0 = z) := hz
      clear hz
      go_wp2
      refine ⟨⟨j + 1, by omega, by go_num, (HR.out.set j (.int .u64 z)).congr (fun i hi => ?_), HB.out.setCell (Nat.le_refl _) _, HS.out ▸ World.size_setCell _ _ _⟩, by simp [intOf]; omega⟩
      show (if i = j then Value.int .u64 z else .int .u64 (if i < j then zs.getD i 0 else 0)) = _
      by_cases e : i = j
      · subst e; rw [if_pos rfl, if_pos (by omega), HZ.out]
      · rw [if_neg e]; by_cases e2 : i < j
        · rw [if_pos e2, if_pos (by omega)]
        · rw [if_neg e2, if_neg (by omega)]
    · go_wp2
      go_ret
      exact ⟨rfl, hrow.congr (fun i hi => by rw [if_pos (by omega)]), hbel, hsz⟩

theorem clone64_zero (p : Addr) (c : Nat) (zs : List Int) (w : World) :
    Calls Try.prog 10 #[.slice (some p) 0 c] w fun e w' => e = .returned (.slice (some ⟨w.heap.size, 0, none⟩) 0 0) ∧ w'.rowIs w.heap.size 27 0 (fun i => .int .u64 (zs.getD i 0)) ∧ Below w.heap.size w w' ∧ w'.heap.size = w.heap.size + 1 := by
  have hnil := fun (a : Option Addr) (n c : Nat) (w : World) => Lib.run_eql_slice_nil (P := Try.prog) w 23 27 a n c 0 0 Try.underlying23
  have hmk : ∀ w : World, (Instr.makeSlice 23 (.int .i64 0) (.int .i64 0)).run Try.prog w = .ok (.slice (some ⟨w.heap.size, 0, none⟩) 0 0) (w.alloc (.cells (madeCells #[.int .u64 0] 0) 27)) := fun w => run_make_row' (P := Try.prog) 23 27 (.int .u64 0) 8 Try.underlying23 info27 rfl .i64 .i64 0 (by omega) (by omega) w
  go_enter Try.func10, Try.ntmps10
  go_wp2
  refine wp_loop_rounds 1 ?_
  rw [rounds_succ]
  go_wp2
  go_ret
  exact ⟨rfl, (World.rowIs_made _ _ _ _).congr (fun i hi => by omega), (Below.refl _ _).alloc (Nat.le_refl _) _, by simp⟩

theorem clone64_some (p : Addr) (n c : Nat) (zs : List Int) (w : World) (hn : n ≤ 1048576) (ha : Arr .u64 w p n zs) :
    Calls Try.prog 10 #[.slice (some p) n c] w fun e w' => e = .returned (.slice (some ⟨w.heap.size, 0, none⟩) n n) ∧ w'.rowIs w.heap.size 27 n (fun i => .int .u64 (zs.getD i 0)) ∧ Below w.heap.size w w' ∧ w'.heap.size = w.heap.size + 1 := by
  by_cases h0 : n = 0
  · subst h0; exact clone64_zero p c zs w
  · obtain ⟨b, off, rfl, hlt, _⟩ := ha 0 (by omega)
    exact clone64_full b off n c zs w hn hlt (fun i hi => (ha.cells i hi).2)

end Go.Proofs.Qxb6000561a
