/- Book.Ledger (8) at a book with no ledgers; Decimal.Sign (13) of nought. -/
import Derived.Test.Qxb6002388aLed
namespace Go.Proofs.Qxb6002388a
open Go.RowKit Go.Maps
set_option linter.unusedVariables false

theorem sign_zero (w : World) : Calls Try.prog 13 #[.agg #[.pointer none, .int .i64 0, .int .i64 0]] w fun e w' => e = .returned (.int .i64 0) ∧ w' = w.alloc (.cells #[.pointer none, .int .i64 0, .int .i64 0] 38) := by
  go_enter Try.func13, Try.ntmps13
  go_wp2
  go_ret
  exact ⟨rfl, rfl⟩

set_option maxHeartbeats 400000 in
theorem book_first (K : Nat) (tok : ByteArray) (w : World) (hs : tok.size ≤ maxLen) (hK : w.heap[K]? = some (.cells #[.map none] 28 (0, 0))) :
    Calls Try.prog 8 #[.pointer (some ⟨K, 0, none⟩), .string tok] w fun e w' => ∃ L, e = .returned (.pointer (some ⟨L, 0, none⟩)) ∧ Led tok L w' none 0 (.map []) ∧ Kept (fun k => k = K) w w' ∧ w.heap.size ≤ L := by
  have hnil := fun (r : Option Nat) (w : World) => run_eql_map_nil (P := Try.prog) w 26 9 29 r Try.underlying26
  have hmm := @run_makeMap Try.prog
  have hlt : K < w.heap.size := (Array.getElem?_eq_some_iff.1 hK).1
  have c0 : w.cell? ⟨K, 0, none⟩ = some (.map none) := by simp [World.cell?, hK]
  have f0 : w.frozen? ⟨K, 0, none⟩ = false := by simp [World.frozen?, hK]
  obtain ⟨W0, hW0⟩ : ∃ W0, W0 = (w.setCell ⟨K, 0, none⟩ (.map (some w.heap.size))).alloc (.map #[] 0) := ⟨_, rfl⟩
  have ho : W0.ownsMap Try.prog 9 pR w.heap.size 0 (.map []) := by
    have hm := World.ownsMap_made (H := Unit) (w.setCell ⟨K, 0, none⟩ (.map (some w.heap.size))) Try.prog 9 pR
    rw [World.size_setCell] at hm
    rw [hW0]; exact hm
  have esz : W0.heap.size = w.heap.size + 1 := by rw [hW0]; simp
  have hblk : ∀ k, k < w.heap.size → k ≠ K → W0.heap[k]? = w.heap[k]? := fun k hk hne => by
    rw [hW0, Deep.blk_alloc_lt _ _ _ (by simpa using hk), Deep.blk_setCell_other _ _ _ _ hne]
  obtain ⟨v, ps, hrun, hv⟩ := ho.lookup law9 Try.underlying26 (zero29 _) pR_nil (WideMaps.keyOf_string_mk Try.underlying9 hs)
  rw [atKey_of_not_has rfl] at hv
  rw [pR_inv_nil hv] at hrun
  obtain ⟨w1, hup, ho1, hg1⟩ := (ho.alloc (.cells #[.string tok, .map none] 53)).update law9 Try.underlying26 (by unfold maxLen; omega) (WideMaps.keyOf_string_mk Try.underlying9 hs) (pR_mk W0.heap.size)
  have HF : Hid (∃ L, (Ending.returned (.pointer (some ⟨w.heap.size + 1, 0, none⟩)) : Ending) = .returned (.pointer (some ⟨L, 0, none⟩)) ∧ Led tok L w1 none 0 (.map []) ∧ Kept (fun k => k = K) w w1 ∧ w.heap.size ≤ L) := by
    refine ⟨_, rfl, ⟨?_, .inl ⟨rfl, rfl, rfl⟩, fun s h => by simp [Maps.has] at h⟩, ⟨?_, ?_, ?_, ?_, fun k hk hne => ?_⟩, by omega⟩
    · rw [← esz, hg1.block W0.heap.size (by simp) (by simp; omega)]
      exact Deep.blk_alloc_new W0 _
    · rw [hg1.os]; show W0.os = _; rw [hW0]; rfl
    · rw [hg1.tape]; show W0.tape = _; rw [hW0]; rfl
    · rw [hg1.output]; show W0.output = _; rw [hW0]; rfl
    · have := hg1.size; simp at this; omega
    · rw [hg1.block k (by simp; omega) (by simp; omega), Deep.blk_alloc_lt _ _ _ (by omega)]
      exact hblk k hk hne
  rw [esz] at hup
  rw [hW0] at hrun hup
  clear ho hv ho1 hg1 hblk esz hW0 hK
  go_enter Try.func8, Try.ntmps8
  go_wp2
  go_ret
  exact HF.out
end Go.Proofs.Qxb6002388a
