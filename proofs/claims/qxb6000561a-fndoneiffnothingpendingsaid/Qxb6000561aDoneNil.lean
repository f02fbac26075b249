/- FnDoneIffNothingPending (3): the walk where a slice is nil; the tests ahead; all together. -/
import Derived.Test.Qxb6000561aDoneWalk
namespace Go.Proofs.Qxb6000561a
open Go.RowKit Go.Maps
set_option linter.unusedVariables false

set_option maxHeartbeats 1000000 in
set_option maxRecDepth 100000 in
theorem done_nn (r : Int) (w : World) :
    Calls Try.prog 3 #[.int .i64 r, .slice none 0 0, .slice none 0 0] w fun e w' => e = .returned (.bool true) ∧ Below w.heap.size w w' := by
  go_enter Try.func3, Try.ntmps3
  go_wp2_with fail
  refine (bytes_yes _ _ _ _ _ _ _ _ (by omega)).mono ?_
  rintro e w ⟨rfl, rfl⟩
  go_wp2_with fail
  refine (clone8_nil _).mono ?_
  rintro e w ⟨rfl, rfl⟩
  go_wp2_with fail
  refine (clone64_nil _).mono ?_
  rintro e w ⟨rfl, rfl⟩
  go_wp2_with (refine wpList_alloc_row _ rfl 28 rfl 256 (.int .u64 0) zero28 ?_; intro w3 hr3 hbe3 hz3)
  have HB3 : Hid (Below w.heap.size w w3) := hbe3
  have HR3 : Hid (w3.rowIs w.heap.size 28 256 (fun _ => .int .u64 0)) := hr3
  clear hr3 hbe3 hz3
  refine wp_loop_rounds 1 ?_
  rw [rounds_succ]
  go_wp2
  go_loop [10, 11] (fun t i => ∃ j : Nat, j ≤ 256 ∧ i = .int .i64 j ∧ t = .bool true) (fun _ i => 256 - (intOf i).toNat)
  case atStart => exact ⟨0, Nat.zero_le _, rfl, rfl⟩
  case round =>
    obtain ⟨j, hj, rfl, rfl⟩ := hrel
    by_cases hjl : j < 256
    · have hy := HR3.out.cell (i := j) hjl
      go_wp2
      exact ⟨⟨j + 1, by omega, by go_num, rfl⟩, by simp [intOf]; omega⟩
    · obtain rfl : j = 256 := by omega
      go_wp2_with fail
      refine (zzdone_nil _ _ _ _ _).mono ?_
      rintro e w4 ⟨rfl, hb4⟩
      go_wp2
      go_ret
      exact ⟨rfl, HB3.out.trans (hb4.mono HB3.out.size)⟩

set_option maxHeartbeats 1000000 in
set_option maxRecDepth 100000 in
theorem done_ns (r : Int) (q2 : Addr) (n2 c2 : Nat) (cs : List Int) (w : World) (hn2 : n2 ≤ 65536) (hs : 8 * n2 ≤ 1048576) (A2 : Arr .u64 w q2 n2 cs) :
    Calls Try.prog 3 #[.int .i64 r, .slice none 0 0, .slice (some q2) n2 c2] w fun e w' => e = .returned (.bool true) ∧ Below w.heap.size w w' := by
  go_enter Try.func3, Try.ntmps3
  go_wp2_with fail
  refine (bytes_yes _ _ _ _ _ _ _ _ (by omega)).mono ?_
  rintro e w ⟨rfl, rfl⟩
  go_wp2_with fail
  refine (clone8_nil _).mono ?_
  rintro e w ⟨rfl, rfl⟩
  go_wp2_with fail
  refine (clone64_some q2 n2 c2 cs _ (by omega) A2).mono ?_
  rintro e w2 ⟨rfl, hr2, hbe2, hz2⟩
  have HB2 : Hid (Below w.heap.size w w2) := hbe2
  clear hr2 hbe2 hz2 A2
  go_wp2_with (refine wpList_alloc_row _ rfl 28 rfl 256 (.int .u64 0) zero28 ?_; intro w3 hr3 hbe3 hz3)
  have HB3 : Hid (Below w2.heap.size w2 w3) := hbe3
  have HR3 : Hid (w3.rowIs w2.heap.size 28 256 (fun _ => .int .u64 0)) := hr3
  clear hr3 hbe3 hz3
  refine wp_loop_rounds 1 ?_
  rw [rounds_succ]
  go_wp2
  go_loop [10, 11] (fun t i => ∃ j : Nat, j ≤ 256 ∧ i = .int .i64 j ∧ t = .bool true) (fun _ i => 256 - (intOf i).toNat)
  case atStart => exact ⟨0, Nat.zero_le _, rfl, rfl⟩
  case round =>
    obtain ⟨j, hj, rfl, rfl⟩ := hrel
    by_cases hjl : j < 256
    · have hy := HR3.out.cell (i := j) hjl
      go_wp2
      exact ⟨⟨j + 1, by omega, by go_num, rfl⟩, by simp [intOf]; omega⟩
    · obtain rfl : j = 256 := by omega
      go_wp2_with fail
      refine (zzdone_nil _ _ _ _ _).mono ?_
      rintro e w4 ⟨rfl, hb4⟩
      go_wp2
      go_ret
      exact ⟨rfl, HB2.out.trans ((HB3.out.mono HB2.out.size).trans (hb4.mono (by have := HB2.out.size; have := HB3.out.size; omega)))⟩

set_option maxHeartbeats 1000000 in
set_option maxRecDepth 100000 in
theorem done_sn (r : Int) (q1 : Addr) (n1 c1 : Nat) (ks : List Int) (w : World) (hn1 : n1 ≤ 65536) (A1 : Arr .u8 w q1 n1 ks) :
    Calls Try.prog 3 #[.int .i64 r, .slice (some q1) n1 c1, .slice none 0 0] w fun e w' => e = .returned (.bool true) ∧ Below w.heap.size w w' := by
  go_enter Try.func3, Try.ntmps3
  go_wp2_with fail
  refine (bytes_yes _ _ _ _ _ _ _ _ (by omega)).mono ?_
  rintro e w ⟨rfl, rfl⟩
  go_wp2_with fail
  refine (clone8_some q1 n1 c1 ks _ (by omega) A1).mono ?_
  rintro e w2 ⟨rfl, hr2, hbe2, hz2⟩
  have HB2 : Hid (Below w.heap.size w w2) := hbe2
  clear hr2 hbe2 hz2 A1
  go_wp2_with fail
  refine (clone64_nil _).mono ?_
  rintro e w2 ⟨rfl, rfl⟩
  by_cases hpos : 0 < n1
  case' neg => obtain rfl : n1 = 0 := by omega
  all_goals
    go_wp2_with (refine wpList_alloc_row _ rfl 28 rfl 256 (.int .u64 0) zero28 ?_; intro w3 hr3 hbe3 hz3)
    have HB3 : Hid (Below w2.heap.size w2 w3) := hbe3
    have HR3 : Hid (w3.rowIs w2.heap.size 28 256 (fun _ => .int .u64 0)) := hr3
    clear hr3 hbe3 hz3
    refine wp_loop_rounds 1 ?_
    rw [rounds_succ]
    go_wp2
    go_loop [10, 11] (fun t i => ∃ j : Nat, j ≤ 256 ∧ i = .int .i64 j ∧ t = .bool true) (fun _ i => 256 - (intOf i).toNat)
    case atStart => exact ⟨0, Nat.zero_le _, rfl, rfl⟩
    case round =>
      obtain ⟨j, hj, rfl, rfl⟩ := hrel
      by_cases hjl : j < 256
      · have hy := HR3.out.cell (i := j) hjl
        go_wp2
        exact ⟨⟨j + 1, by omega, by go_num, rfl⟩, by simp [intOf]; omega⟩
      · obtain rfl : j = 256 := by omega
        go_wp2_with fail
        refine (zzdone_none _ _ _ _ _).mono ?_
        rintro e w4 ⟨rfl, hb4⟩
        go_wp2
        go_ret
        exact ⟨rfl, HB2.out.trans ((HB3.out.mono HB2.out.size).trans (hb4.mono (by have := HB2.out.size; have := HB3.out.size; omega)))⟩

end Go.Proofs.Qxb6000561a
