/- strings.Compare (28), cmp.Or (27), the closure of Book.Balances (26). -/
import Derived.Test.Qxb6002388aLed
import Derived.Lib.Bytealg
import Derived.Deep.RegionHeld
import Derived.Sort.Walk0
import Derived.Sort.Grow
namespace Go.Proofs.Qxb6002388a
open Go.RowKit Go.Maps Go.Sort
set_option linter.unusedVariables false

theorem cmp55 (a b : ByteArray) (w : World) : (callFunc 55 #[.string a, .string b]).run Try.prog w = .ok (.value (.int .i64 (Lib.compareBytes a.data.toList b.data.toList))) w := by
  rw [run_callFunc_extern Try.func55 (by kernel_rfl) (by kernel_rfl) (by kernel_rfl) (e := Extern.BytealgCompare.compare) (by kernel_rfl), Lib.run_compareString]
  rfl

theorem compare_any (a b : ByteArray) (w : World) : Calls Try.prog 28 #[.string a, .string b] w fun e w' => e = .returned (.int .i64 (Lib.compareBytes a.data.toList b.data.toList)) ∧ w' = w := by
  have h55 := cmp55
  go_enter Try.func28, Try.ntmps28
  go_wp2
  go_ret
  exact ⟨rfl, rfl⟩

/-- cmp.Or of two -/
def orI (c d : Int) : Int := if c = 0 then d else c

set_option maxHeartbeats 400000 in
theorem or_any (b : Nat) (c d : Int) (w : World) (h0 : w.cell? ⟨b, 0, none⟩ = some (.int .i64 c)) (h1 : w.cell? ⟨b, 1, none⟩ = some (.int .i64 d)) :
    Calls Try.prog 27 #[.slice (some ⟨b, 0, none⟩) 2 2] w fun e w' => e = .returned (.int .i64 (orI c d)) ∧ w' = w := by
  by_cases hc : c = 0
  · have e1 : (c != 0) = false := by simp [hc]
    have HO := hidden (show orI c d = d by unfold orI; rw [if_pos hc])
    clear hc
    by_cases hd : d = 0
    · have e2 : (d != 0) = false := by simp [hd]
      have HD := hidden hd
      clear hd
      go_enter Try.func27, Try.ntmps27
      go_wp2
      refine wp_loop_rounds 3 ?_
      rw [rounds_succ]
      go_wp2
      rw [rounds_succ]
      go_wp2
      rw [rounds_succ]
      go_wp2
      go_ret
      exact ⟨by rw [HO.out, HD.out]; rfl, rfl⟩
    · have e2 : (d != 0) = true := by simp [hd]
      clear hd
      go_enter Try.func27, Try.ntmps27
      go_wp2
      refine wp_loop_rounds 2 ?_
      rw [rounds_succ]
      go_wp2
      rw [rounds_succ]
      go_wp2
      go_ret
      exact ⟨by rw [HO.out]; rfl, rfl⟩
  · have e1 : (c != 0) = true := by simp [hc]
    have HO := hidden (show orI c d = c by unfold orI; rw [if_neg hc])
    clear hc
    go_enter Try.func27, Try.ntmps27
    go_wp2
    refine wp_loop_rounds 1 ?_
    rw [rounds_succ]
    go_wp2
    go_ret
    exact ⟨by rw [HO.out]; rfl, rfl⟩

/-- what the closure says of two balances (account, token) -/
def cf (x y : ByteArray × ByteArray) : Int := orI (Lib.compareBytes x.1.data.toList y.1.data.toList) (Lib.compareBytes x.2.data.toList y.2.data.toList)

set_option maxHeartbeats 1000000 in
theorem closure_any (x y : ByteArray × ByteArray) (W : World) : Calls Try.prog 26 #[.agg (bal x.1 x.2), .agg (bal y.1 y.2)] W fun e w' => e = .returned (.int .i64 (cf x y)) ∧ ∃ q os', w' = grow (W.drewN q) os' := by
  obtain ⟨a1, t1⟩ := x
  obtain ⟨a2, t2⟩ := y
  unfold cf bal
  have hc := fun (W' : World) => compare_any a1 a2 W'
  have ht := fun (W' : World) => compare_any t1 t2 W'
  generalize Lib.compareBytes a1.data.toList a2.data.toList = c at hc ⊢
  generalize Lib.compareBytes t1.data.toList t2.data.toList = d at ht ⊢
  have HC := hidden hc
  have HT := hidden ht
  clear hc ht
  go_enter Try.func26, Try.ntmps26
  go_wp2
  obtain ⟨Wb, hWb⟩ : ∃ Wb, Wb = (W.alloc (Obj.cells #[Value.string a1, Value.string t1, Value.pointer none, Value.int IntKind.i64 0, Value.int IntKind.i64 0, Value.pointer none, Value.int IntKind.i64 0, Value.int IntKind.i64 0] 40)).alloc (Obj.cells #[Value.string a2, Value.string t2, Value.pointer none, Value.int IntKind.i64 0, Value.int IntKind.i64 0, Value.pointer none, Value.int IntKind.i64 0, Value.int IntKind.i64 0] 40) := ⟨_, rfl⟩
  rw [← hWb]
  have x1 : Wb.cell? ⟨W.heap.size, 0, none⟩ = some (.string a1) := by rw [hWb]; simp
  have x2 : Wb.cell? ⟨W.heap.size, 1, none⟩ = some (.string t1) := by rw [hWb]; simp
  have x3 : Wb.cell? ⟨W.heap.size + 1, 0, none⟩ = some (.string a2) := by rw [hWb]; simp
  have x4 : Wb.cell? ⟨W.heap.size + 1, 1, none⟩ = some (.string t2) := by rw [hWb]; simp
  have HWB := hidden hWb
  clear hWb
  go_region_held (fun w' => w'.cell? ⟨W.heap.size, 0, none⟩ = some (.string a1) ∧ w'.cell? ⟨W.heap.size, 1, none⟩ = some (.string t1) ∧ w'.cell? ⟨W.heap.size + 1, 0, none⟩ = some (.string a2) ∧ w'.cell? ⟨W.heap.size + 1, 1, none⟩ = some (.string t2)) (go_keep)
    (first
      | (go_at_call_of 28 (Value.string a1); refine (HC.out _).mono ?_; rintro e w' ⟨rfl, rfl⟩)
      | (go_at_call_of 28 (Value.string t1); refine (HT.out _).mono ?_; rintro e w' ⟨rfl, rfl⟩)
      | (go_at_call 27; refine (or_any Wb.heap.size c d _ (by simp) (by simp)).mono ?_; rintro e w' ⟨rfl, rfl⟩))
  all_goals go_wp2
  all_goals go_ret
  all_goals exact ⟨rfl, 1, _, by rw [HWB.out, alloc_eq_grow, alloc_eq_grow, alloc_eq_grow, grow_grow, grow_grow]; rfl⟩
end Go.Proofs.Qxb6002388a
