/- Book.Ledger (8), whatever the book. -/
import Derived.Test.Qxb6002388aLed
namespace Go.Proofs.Qxb6002388a
open Go.RowKit Go.Maps
set_option linter.unusedVariables false

/-- what asking for a ledger does -/
structure Bopen (K : Nat) (w w' : World) (rB rB' : Option Nat) (nB nB' : Nat) (DB DB' : DataW Unit) (t : ByteArray) (L : Nat) : Prop where
  hd : w'.heap[K]? = some (.cells #[.map rB'] 28 (0, 0))
  mp : ∃ b, rB' = some b ∧ w'.ownsMap Try.prog 9 pR b nB' DB' ∧ (rB = some b ∨ w.heap.size ≤ b)
  n : nB' ≤ nB + 1
  has : ∀ s, Maps.has DB' (ky s) = (Maps.has DB (ky s) || decide (s = t))
  att : ∀ zd, DB'.atKey (ky t) zd = .lit (.int .i64 L)
  ato : ∀ s, s ≠ t → ∀ zd, DB'.atKey (ky s) zd = DB.atKey (ky s) zd
  new : Maps.has DB (ky t) = false → Led t L w' none 0 (.map []) ∧ w.heap.size ≤ L
  kept : Kept (fun k => k = K ∨ rB = some k) w w'

set_option maxHeartbeats 400000 in
theorem book_there (K : Nat) (t : ByteArray) (w : World) (b nB L : Nat) (DB : DataW Unit) (hs : t.size ≤ maxLen) (hK : w.heap[K]? = some (.cells #[.map (some b)] 28 (0, 0))) (ho : w.ownsMap Try.prog 9 pR b nB DB) (hh : Maps.has DB (ky t) = true) (hat : ∀ zd, DB.atKey (ky t) zd = .lit (.int .i64 L)) :
    Calls Try.prog 8 #[.pointer (some ⟨K, 0, none⟩), .string t] w fun e w' => e = .returned (.pointer (some ⟨L, 0, none⟩)) ∧ w' = w := by
  have hnil := fun (r : Option Nat) (w : World) => run_eql_map_nil (P := Try.prog) w 26 9 29 r Try.underlying26
  have c0 : w.cell? ⟨K, 0, none⟩ = some (.map (some b)) := by simp [World.cell?, hK]
  obtain ⟨v, ps, hrun, hv⟩ := ho.lookup law9 Try.underlying26 (zero29 w) pR_nil (WideMaps.keyOf_string_mk Try.underlying9 hs)
  rw [hat] at hv
  rw [pR_inv hv] at hrun
  clear ho hv hat hh hK
  go_enter Try.func8, Try.ntmps8
  go_wp2
  go_ret
  exact ⟨rfl, rfl⟩

theorem bopen_new {K : Nat} {t : ByteArray} {w w1 : World} {b nB : Nat} {DB : DataW Unit} (hK : w.heap[K]? = some (.cells #[.map (some b)] 28 (0, 0))) (ho : w.ownsMap Try.prog 9 pR b nB DB) (hno : Maps.has DB (ky t) = false)
    (ho1 : w1.ownsMap Try.prog 9 pR b (nB + 1) (DB.put (ky t) (.lit (.int .i64 (w.heap.size : Nat))))) (hg1 : (w.alloc (.cells #[.string t, .map none] 53)).grownBy w1 (some b)) :
    Bopen K w w1 (some b) (some b) nB (nB + 1) DB (DB.put (ky t) (.lit (.int .i64 (w.heap.size : Nat)))) t w.heap.size := by
  have hT := ho.tidy law9
  have hlt : K < w.heap.size := (Array.getElem?_eq_some_iff.1 hK).1
  have hblt := ho.lt
  have hKb : K ≠ b := fun e => by
    obtain ⟨es, cl, hb, _⟩ := ho
    rw [e, hb] at hK
    cases hK
  have hblk : ∀ g, g < w.heap.size → g ≠ b → w1.heap[g]? = w.heap[g]? := fun g hg hne => (hg1.block g (by simp; omega) (by simpa using hne)).trans (Deep.blk_alloc_lt w _ g hg)
  refine ⟨by rw [hblk K hlt hKb]; exact hK, ⟨b, rfl, ho1, .inl rfl⟩, Nat.le_refl _, fun s => ?_, fun zd => atKey_put_same (k := ky t) hT.isMap trivial _ _, fun s hne zd => atKey_put_other (fun h => hne (ky_inj h)) _ _, fun _ => ⟨⟨?_, .inl ⟨rfl, rfl, rfl⟩, fun s h => by simp [Maps.has] at h⟩, Nat.le_refl _⟩,
    ⟨hg1.os, hg1.tape, hg1.output, Nat.le_trans (by simp) hg1.size, fun k hk hS => hblk k hk (fun e => hS (.inr (by rw [e])))⟩⟩
  · by_cases e : s = t
    · subst e; rw [has_put_same (k := ky s) hT.isMap trivial]; simp
    · rw [has_put_other (fun h => e (ky_inj h))]; simp [e]
  · rw [hg1.block w.heap.size (by simp) (by simp; omega)]
    exact Deep.blk_alloc_new w _

set_option maxHeartbeats 400000 in
theorem book_new (K : Nat) (t : ByteArray) (w : World) (b nB : Nat) (DB : DataW Unit) (hs : t.size ≤ maxLen) (hn : nB < maxLen) (hK : w.heap[K]? = some (.cells #[.map (some b)] 28 (0, 0))) (ho : w.ownsMap Try.prog 9 pR b nB DB) (hh : Maps.has DB (ky t) = false) :
    Calls Try.prog 8 #[.pointer (some ⟨K, 0, none⟩), .string t] w fun e w' => ∃ L nB' DB', e = .returned (.pointer (some ⟨L, 0, none⟩)) ∧ Bopen K w w' (some b) (some b) nB nB' DB DB' t L := by
  have hnil := fun (r : Option Nat) (w : World) => run_eql_map_nil (P := Try.prog) w 26 9 29 r Try.underlying26
  have hlt : K < w.heap.size := (Array.getElem?_eq_some_iff.1 hK).1
  have c0 : w.cell? ⟨K, 0, none⟩ = some (.map (some b)) := by simp [World.cell?, hK]
  obtain ⟨v, ps, hrun, hv⟩ := ho.lookup law9 Try.underlying26 (zero29 w) pR_nil (WideMaps.keyOf_string_mk Try.underlying9 hs)
  rw [atKey_of_not_has hh] at hv
  rw [pR_inv_nil hv] at hrun
  obtain ⟨w1, hup, ho1, hg1⟩ := (ho.alloc (.cells #[.string t, .map none] 53)).update law9 Try.underlying26 hn (WideMaps.keyOf_string_mk Try.underlying9 hs) (pR_mk w.heap.size)
  have HF := hidden (bopen_new hK ho hh ho1 hg1)
  clear ho hv ho1 hg1 hh hK
  go_enter Try.func8, Try.ntmps8
  go_wp2
  go_ret
  exact ⟨_, _, _, rfl, HF.out⟩

set_option maxHeartbeats 400000 in
theorem book_made (K : Nat) (t : ByteArray) (w : World) (hs : t.size ≤ maxLen) (hK : w.heap[K]? = some (.cells #[.map none] 28 (0, 0))) :
    Calls Try.prog 8 #[.pointer (some ⟨K, 0, none⟩), .string t] w fun e w' => ∃ L rB' nB' DB', e = .returned (.pointer (some ⟨L, 0, none⟩)) ∧ Bopen K w w' none rB' 0 nB' (.map []) DB' t L := by
  have hnil := fun (r : Option Nat) (w : World) => run_eql_map_nil (P := Try.prog) w 26 9 29 r Try.underlying26
  have hmm := @run_makeMap Try.prog
  have hlt : K < w.heap.size := (Array.getElem?_eq_some_iff.1 hK).1
  have c0 : w.cell? ⟨K, 0, none⟩ = some (.map none) := by simp [World.cell?, hK]
  have f0 : w.frozen? ⟨K, 0, none⟩ = false := by simp [World.frozen?, hK]
  obtain ⟨W0, hW0⟩ : ∃ W0, W0 = (w.setCell ⟨K, 0, none⟩ (.map (some w.heap.size))).alloc (.map #[] 0) := ⟨_, rfl⟩
  have ho : W0.ownsMap Try.prog 9 pR w.heap.size 0 (.map []) := by
    have hm := World.ownsMap_made (H := Unit) (w.setCell ⟨K, 0, none⟩ (.map (some w.heap.size))) Try.prog 9 pR
    rw [World.size_setCell] at hm
    rw [hW0]; exact hm
  have esz : W0.heap.size = w.heap.size + 1 := by rw [hW0]; simp
  have hblk : ∀ k, k < w.heap.size → k ≠ K → W0.heap[k]? = w.heap[k]? := fun k hk hne => by
    rw [hW0, Deep.blk_alloc_lt _ _ _ (by simpa using hk), Deep.blk_setCell_other _ _ _ _ hne]
  have hK0 : W0.heap[K]? = some (.cells #[.map (some w.heap.size)] 28 (0, 0)) := by
    rw [hW0, Deep.blk_alloc_lt _ _ _ (by simpa using hlt)]
    show (w.heap.modify _ _)[K]? = _
    rw [Array.getElem?_modify, if_pos rfl, hK]
    rfl
  obtain ⟨v, ps, hrun, hv⟩ := ho.lookup law9 Try.underlying26 (zero29 _) pR_nil (WideMaps.keyOf_string_mk Try.underlying9 hs)
  rw [atKey_of_not_has rfl] at hv
  rw [pR_inv_nil hv] at hrun
  obtain ⟨w1, hup, ho1, hg1⟩ := (ho.alloc (.cells #[.string t, .map none] 53)).update law9 Try.underlying26 (by unfold maxLen; omega) (WideMaps.keyOf_string_mk Try.underlying9 hs) (pR_mk W0.heap.size)
  have hB := bopen_new hK0 ho rfl ho1 hg1
  have HF : Hid (Bopen K w w1 none (some w.heap.size) 0 (0 + 1) (.map []) ((DataW.map []).put (ky t) (.lit (.int .i64 (W0.heap.size : Nat)))) t W0.heap.size) := by
    obtain ⟨b, hb1, hb2, _⟩ := hB.mp
    cases hb1
    refine ⟨hB.hd, ⟨_, rfl, hb2, .inr (Nat.le_refl _)⟩, hB.n, hB.has, hB.att, hB.ato, fun h => ⟨(hB.new h).1, by omega⟩, ⟨hB.kept.os.trans (by rw [hW0]; rfl), hB.kept.tape.trans (by rw [hW0]; rfl), hB.kept.output.trans (by rw [hW0]; rfl), Nat.le_trans (by omega) hB.kept.size, fun k hk hS => ?_⟩⟩
    have hkK : k ≠ K := fun e => hS (.inl e)
    refine (hB.kept.block k (by omega) (fun e => ?_)).trans (hblk k hk hkK)
    rcases e with e | e
    · exact hkK e
    · have : w.heap.size = k := by simpa using e
      omega
  rw [esz] at hup HF
  rw [hW0] at hrun hup
  clear ho hv ho1 hg1 hblk esz hW0 hK hK0 hB
  go_enter Try.func8, Try.ntmps8
  go_wp2
  go_ret
  exact ⟨_, _, _, _, rfl, HF.out⟩
end Go.Proofs.Qxb6002388a
