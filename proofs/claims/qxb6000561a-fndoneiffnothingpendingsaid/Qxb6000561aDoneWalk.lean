/- FnDoneIffNothingPending (3): the walk. -/
import Derived.Test.Qxb6000561aClones
import Derived.Test.Qxb6000561aZZDone
import Derived.Test.Qxb6000561aBig
import Derived.BigQuiet
namespace Go.Proofs.Qxb6000561a
open Go.RowKit Go.Maps
set_option linter.unusedVariables false

theorem zero28 : (Try.prog.info? 28).map (·.zero) = some (some (.agg (Array.replicate 256 (.int .u64 0)))) := by kernel_rfl

/-- the first j kinds have nothing pending -/
def allTo (ks cs : List Int) (n j : Nat) : Bool := (List.range j).all (fun j => lastTo ks cs n (j : Int) == 0)
theorem allTo_yes (ks cs : List Int) (n j : Nat) (h : (lastTo ks cs n (j : Int) != 0) = false) : allTo ks cs n (j + 1) = allTo ks cs n j := by
  unfold allTo; rw [List.range_succ]; simp at h; simp [h]
theorem allTo_no (ks cs : List Int) (n j : Nat) (h : (lastTo ks cs n (j : Int) != 0) = true) : allTo ks cs n (j + 1) = false := by
  unfold allTo; rw [List.range_succ]; simp at h; simp [h]
theorem allTo_all (ks cs : List Int) (n : Nat) : allTo ks cs n 256 = nought ks cs n := rfl

theorem step_row (ks cs : List Int) (k : Nat) (z1 z2 : Int) (h1 : ks.getD k 0 = z1) (h2 : cs.getD k 0 = z2) (h0 : 0 ≤ z1) (j : Nat) :
    (if j = z1.toNat then Value.int .u64 z2 else .int .u64 (lastTo ks cs k (j : Int))) = .int .u64 (lastTo ks cs (k + 1) (j : Int)) := by
  simp only [lastTo]
  rw [h1, h2]
  by_cases e : j = z1.toNat
  · rw [if_pos e, if_pos (by omega)]
  · rw [if_neg e, if_neg (by omega)]

set_option maxHeartbeats 2000000 in
set_option maxRecDepth 100000 in
theorem done_main (r : Int) (q1 q2 : Addr) (n1 c1 n2 c2 : Nat) (ks cs : List Int) (w : World) (hn1 : n1 ≤ 65536) (hn2 : n2 ≤ 65536) (hs : n1 + 8 * n2 ≤ 1048576) (A1 : Arr .u8 w q1 n1 ks) (A2 : Arr .u64 w q2 n2 cs)
    (hk : ∀ i, i < n1 → (Lit.int .u8 (ks.getD i 0)).wf = true) (hcw : ∀ i, i < n2 → (Lit.int .u64 (cs.getD i 0)).wf = true) :
    Calls Try.prog 3 #[.int .i64 r, .slice (some q1) n1 c1, .slice (some q2) n2 c2] w fun e w' => e = .returned (.bool true) ∧ Below w.heap.size w w' := by
  have HK : Hid (∀ i, i < n1 → (Lit.int .u8 (ks.getD i 0)).wf = true) := hk
  have HC : Hid (∀ i, i < n2 → (Lit.int .u64 (cs.getD i 0)).wf = true) := hcw
  clear hk hcw
  obtain ⟨n, hn⟩ : ∃ n, n = min n1 n2 := ⟨_, rfl⟩
  have HN : Hid (n = min n1 n2) := hn
  clear hn
  go_enter Try.func3, Try.ntmps3
  go_wp2_with fail
  refine (bytes_yes _ _ _ _ _ _ _ _ (by omega)).mono ?_
  rintro e w ⟨rfl, rfl⟩
  go_wp2_with fail
  refine (clone8_some q1 n1 c1 ks _ (by omega) A1).mono ?_
  rintro e w1 ⟨rfl, hr1, hbe1, hz1⟩
  have A2' := A2.below hbe1
  clear A1 A2
  have HZ1 : Hid (w1.heap.size = w.heap.size + 1) := hz1
  clear hz1
  go_wp2_with fail
  refine (clone64_some q2 n2 c2 cs _ (by omega) A2').mono ?_
  rintro e w2 ⟨rfl, hr2, hbe2, hz2⟩
  clear A2'
  have hr1' : w2.rowIs w.heap.size 5 n1 (fun i => .int .u8 (ks.getD i 0)) := hr1.of_block (hbe2.block _ (by have := HZ1.out; omega))
  have HZ2 : Hid (w2.heap.size = w1.heap.size + 1) := hz2
  have HB2 : Hid (Below w.heap.size w w2) := hbe1.trans (hbe2.mono (by have := HZ1.out; omega))
  have HR1 : Hid (w2.rowIs w.heap.size 5 n1 (fun i => .int .u8 (ks.getD i 0))) := hr1'
  have HR2 : Hid (w2.rowIs w1.heap.size 27 n2 (fun i => .int .u64 (cs.getD i 0))) := hr2
  clear hz2 hbe1 hbe2 hr1 hr1' hr2
  rcases Nat.lt_or_ge n2 n1 with hlt | hlt
  case' inl => obtain rfl : n = n2 := by have := HN.out; omega
  case' inr => obtain rfl : n = n1 := by have := HN.out; omega
  all_goals
    go_wp2_with (refine wpList_alloc_row _ rfl 28 rfl 256 (.int .u64 0) zero28 ?_; intro w3 hr3 hbe3 hz3)
    have HR3 : Hid (w3.rowIs w2.heap.size 28 256 (fun _ => .int .u64 0)) := hr3
    have HB3 : Hid (Below w2.heap.size w2 w3) := hbe3
    have HZ3 : Hid (w3.heap.size = w2.heap.size + 1) := hz3
    clear hr3 hbe3 hz3
    go_loopw [9] (fun i wr => ∃ k : Nat, k ≤ n ∧ i = .int .i64 k ∧ Hid (wr.rowIs w2.heap.size 28 256 (fun j => .int .u64 (lastTo ks cs k (j : Int)))) ∧ Hid (Below w2.heap.size w2 wr)) (fun i _ => n - (intOf i).toNat)
    case atStart => exact ⟨0, Nat.zero_le _, rfl, HR3, HB3⟩
    case round =>
      obtain ⟨k, hkn, rfl, hrow, hbel⟩ := hrel
      by_cases hkl : k < n
      · have x1 : wr.cell? ⟨w.heap.size, k, none⟩ = some (.int .u8 (ks.getD k 0)) := (hbel.out.cell (p := ⟨w.heap.size, k, none⟩) HR1.out.lt).trans (HR1.out.cell (by omega))
        have x2 : wr.cell? ⟨w1.heap.size, k, none⟩ = some (.int .u64 (cs.getD k 0)) := (hbel.out.cell (p := ⟨w1.heap.size, k, none⟩) HR2.out.lt).trans (HR2.out.cell (by omega))
        have hbd := bounds_u8' (HK.out k (by omega))
        generalize hz1 : ks.getD k 0 = z1 at x1 hbd
        generalize hz2 : cs.getD k 0 = z2 at x2
        have hy := hrow.out.cell (i := z1.toNat) (by omega)
        have hf := hrow.out.frozen z1.toNat
        have HE : Hid (ks.getD k 0 = z1 ∧ cs.getD k 0 = z2) := ⟨hz1, hz2⟩
        clear hz1 hz2
        go_wp2
        go_region
        all_goals go_wp2
        all_goals exact ⟨⟨k + 1, by omega, by go_num, ((hrow.out.set z1.toNat (.int .u64 z2)).congr (fun j hj => step_row ks cs k z1 z2 HE.out.1 HE.out.2 (by omega) j)).drew, (hbel.out.setCell (Nat.le_refl _) _).drew⟩, by simp [intOf]; omega⟩
      · obtain rfl : k = n := by omega
        obtain ⟨wo, hwo⟩ : ∃ wo : World, wo = wr := ⟨_, rfl⟩
        rw [← hwo]
        rw [← hwo] at hrow hbel
        clear hwo
        go_wp2
        go_loop [10, 11] (fun t i => ∃ j : Nat, j ≤ 256 ∧ i = .int .i64 j ∧ t = .bool (allTo ks cs k j)) (fun _ i => 256 - (intOf i).toNat)
        case atStart => exact ⟨0, Nat.zero_le _, rfl, rfl⟩
        case round =>
          obtain ⟨j, hj, rfl, rfl⟩ := hrel
          by_cases hjl : j < 256
          · have hy := hrow.out.cell (i := j) hjl
            generalize hq : lastTo ks cs k (j : Int) = q at hy
            have HQ : Hid (lastTo ks cs k (j : Int) = q) := hq
            clear hq
            cases hq0 : (q != 0)
            · go_wp2
              exact ⟨⟨j + 1, by omega, by go_num, by rw [allTo_yes ks cs k j (by rw [HQ.out]; exact hq0)]⟩, by simp [intOf]; omega⟩
            · go_wp2
              exact ⟨⟨j + 1, by omega, by go_num, by rw [allTo_no ks cs k j (by rw [HQ.out]; exact hq0)]⟩, by simp [intOf]; omega⟩
          · obtain rfl : j = 256 := by omega
            rw [allTo_all]
            go_wp2_with fail
            refine (zzdone_some r w.heap.size 0 _ _ w1.heap.size 0 _ _ k ks cs _ ?_ ?_ HN.out ?_ ?_ ?_ ?_ HK.out HC.out).mono ?_
            · omega
            · omega
            · have := hbel.out.size; have := HR1.out.lt; omega
            · have := hbel.out.size; have := HR2.out.lt; omega
            · intro i hi; rw [Nat.zero_add]; exact (hbel.out.cell (p := ⟨w.heap.size, i, none⟩) HR1.out.lt).trans (HR1.out.cell hi)
            · intro i hi; rw [Nat.zero_add]; exact (hbel.out.cell (p := ⟨w1.heap.size, i, none⟩) HR2.out.lt).trans (HR2.out.cell hi)
            rintro e w4 ⟨rfl, hb4⟩
            go_wp2
            go_ret
            exact ⟨by simp, (HB2.out.trans (hbel.out.mono HB2.out.size)).trans (hb4.mono (by have := hbel.out.size; have := HB2.out.size; omega))⟩

end Go.Proofs.Qxb6000561a
