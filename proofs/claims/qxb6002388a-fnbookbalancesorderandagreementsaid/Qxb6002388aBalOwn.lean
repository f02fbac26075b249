/- Ledger.Balances (10) once more: what it hands back is a row of its own. -/
import Derived.Test.Qxb6002388aBal
import Derived.Test.Qxb6002388aSortF
namespace Go.Proofs.Qxb6002388a
open Go.RowKit Go.Maps Go.Sort Go.Shelf Go.Proofs
set_option linter.unusedVariables false

/-- the cells of a row of balances -/
def rowsB : List Pr → List Value
  | [] => []
  | p :: r => encB p ++ rowsB r
theorem rowsB_len : ∀ Q : List Pr, (rowsB Q).length = Q.length * 8
  | [] => rfl
  | p :: r => by rw [rowsB, List.length_append, rowsB_len r, encB_len, List.length_cons]; omega
theorem rowsB_append : ∀ A B : List Pr, rowsB (A ++ B) = rowsB A ++ rowsB B
  | [], B => rfl
  | p :: r, B => by rw [List.cons_append, rowsB, rowsB_append r B, rowsB, List.append_assoc]
theorem rowsB_get : ∀ (Q : List Pr) (i c : Nat), i < Q.length → c < 8 → (rowsB Q)[i * 8 + c]? = (encB Q[i]!)[c]?
  | [], i, c, hi, _ => absurd hi (Nat.not_lt_zero i)
  | p :: r, 0, c, _, hc => by
    rw [rowsB, Nat.zero_mul, Nat.zero_add, List.getElem?_append_left (by rw [encB_len]; exact hc)]
    rfl
  | p :: r, i + 1, c, hi, hc => by
    rw [rowsB, List.getElem?_append_right (by rw [encB_len]; omega), encB_len, show (i + 1) * 8 + c - 8 = i * 8 + c by omega, rowsB_get r i c (by simpa using hi) hc]
    simp
theorem rowsB_one : ∀ (Q : List Pr), ∀ u ∈ rowsB Q, u.oneCell' = true
  | [], u, h => by cases h
  | p :: r, u, h => by
    rcases List.mem_append.1 h with h | h
    · exact encB_one p u h
    · exact rowsB_one r u h
/-- the pairs of one ledger -/
def prs (tok : ByteArray) (T : List (List UInt8)) : List Pr := T.map fun l => (tok, ⟨l.toArray⟩)
theorem prs_len (tok : ByteArray) (T : List (List UInt8)) : (prs tok T).length = T.length := by simp [prs]
theorem prs_at (tok : ByteArray) (T : List (List UInt8)) (i : Nat) (h : i < T.length) : (prs tok T)[i]! = (tok, st (nms T) i) := by
  rw [nms_at T i h, getElem!_pos _ i (by rw [prs_len]; exact h)]
  simp [prs, List.getElem?_eq_getElem h]

/-- block G is a row of n cells -/
def Blk40 (w : World) (G n : Nat) : Prop := ∃ c, w.heap[G]? = some (.cells c 40 (0, 0)) ∧ c.size = n
theorem blk40_made (w : World) (Z : Array Value) (N : Nat) : Blk40 (w.alloc (.cells (madeCells Z N) 40)) w.heap.size N :=
  ⟨_, Deep.blk_alloc_new w _, size_madeCells _ _⟩
theorem Blk40.setCell {w : World} {G n : Nat} (h : Blk40 w G n) (o : Nat) (v : Value) : Blk40 (w.setCell ⟨G, o, none⟩ v) G n := by
  obtain ⟨c, hb, hc⟩ := h
  refine ⟨c.setIfInBounds o v, ?_, by simpa using hc⟩
  simp [World.setCell, Array.getElem?_modify, hb]
theorem Blk40.setCells {G n : Nat} : ∀ {w : World} (h : Blk40 w G n) (o : Nat) (vs : List Value), Blk40 (w.setCells G o vs) G n
  | w, h, o, [] => h
  | w, h, o, v :: r => Blk40.setCells (h.setCell o v) (o + 1) r

theorem rows_ext {cur : List Value} {Q : List Pr} (hl : cur.length = Q.length * 8) (h : ∀ i c, i < Q.length → c < 8 → cur[i * 8 + c]? = (encB Q[i]!)[c]?) : cur = rowsB Q := by
  apply List.ext_getElem?
  intro j
  by_cases hj : j < Q.length * 8
  · have e : j = j / 8 * 8 + j % 8 := by omega
    have hi : j / 8 < Q.length := by omega
    rw [e, h (j / 8) (j % 8) hi (by omega), rowsB_get Q (j / 8) (j % 8) hi (by omega)]
  · rw [List.getElem?_eq_none (by omega), List.getElem?_eq_none (by rw [rowsB_len]; omega)]

theorem own_of_rows {w : World} {B G m : Nat} {T : List (List UInt8)} {tok : ByteArray} (hB : B ≤ G) (hm : m ≤ 4096) (hk : Blk40 w G (m * 8)) (hl : T.length = m) (hr : Rw w G (nms T) tok m) :
    w.ownsRow B 40 8 (.slice (some ⟨G, 0, none⟩) m m) m (rowsB (prs tok T)) := by
  obtain ⟨c, hb, hc⟩ := hk
  refine ⟨by rw [rowsB_len, prs_len, hl], .inr ⟨G, m, c, rfl, hB, hb, Nat.le_refl _, by unfold maxLen; omega, hc, ?_⟩⟩
  rw [List.take_of_length_le (by simp [hc])]
  refine rows_ext (by rw [prs_len, hl]; simpa using hc) (fun i k hi hk => ?_)
  rw [prs_len] at hi
  rw [prs_at tok T i hi]
  have hkk : k < (bal (st (nms T) i) tok).toList.length := by simp [bal]; omega
  have := hr i (by omega) k _ (List.getElem?_eq_getElem hkk)
  rw [cell_of_row _ _ _ _ _ _ hb] at this
  show c.toList[i * 8 + k]? = (bal (st (nms T) i) tok).toList[k]?
  rw [List.getElem?_eq_getElem hkk, ← this, Array.getElem?_toList]

set_option maxHeartbeats 400000 in
theorem balances_own (tok : ByteArray) (L : Nat) (w : World) (r : Option Nat) (n : Nat) (D : DataW Unit) (h : Led tok L w r n D) (hn : n ≤ 4096) :
    Calls Try.prog 10 #[.pointer (some ⟨L, 0, none⟩)] w fun e w' => ∃ G m T, e = .returned (.slice (some ⟨G, 0, none⟩) m m) ∧ w'.ownsRow w.heap.size 40 8 (.slice (some ⟨G, 0, none⟩) m m) m (rowsB (prs tok T)) ∧ T.length = m ∧ m ≤ 4096 ∧ SortedOf D T ∧ Below w.heap.size w w' := by
  have HL := hidden h
  have c1 := h.cell1
  clear h
  go_enter Try.func10, Try.ntmps10
  go_wp2_with fail
  refine (keys_any _ _).mono ?_
  rintro e w1 ⟨rfl, rfl⟩
  go_wp2_with fail
  refine (sorted_any tok L w r n D HL.out hn).mono ?_
  rintro e w1 ⟨a, m, c, T, rfl, hsa, hl, hSO, hb1⟩
  have hm : m ≤ 4096 := by
    have h1 := hSO.len
    rcases HL.out.mp with ⟨_, _, h2⟩ | ⟨b, _, ho⟩
    · rw [h2] at h1
      have h3 : T.length = 0 := h1
      omega
    · have := ho.size_le; omega
  have hmk := make40 m hm
  have HSA := hidden hsa
  have HSO := hidden hSO
  have HB1 := hidden hb1
  have HLN := hidden hl
  clear hsa hSO hb1 hl c1
  go_wp2
  go_loopw [18] (fun i wr => ∃ k : Nat, k ≤ m ∧ i = .int .i64 k ∧ Hid (Below w1.heap.size w1 wr) ∧ Hid (wr.there w1.heap.size 0 (m * 8)) ∧ Hid (Rw wr w1.heap.size (nms T) tok k) ∧ w1.heap.size < wr.heap.size ∧ Hid (Blk40 wr w1.heap.size (m * 8))) (fun i _ => m - (intOf i).toNat)
  case atStart => exact ⟨0, Nat.zero_le _, rfl, (Below.refl _ _).alloc (Nat.le_refl _) _, there_made _ _ _, fun i hi => absurd hi (Nat.not_lt_zero i), by simp, blk40_made _ _ _⟩
  case round =>
    obtain ⟨k, hk, rfl, HB, HT, HR, hgs, HK⟩ := hrel
    by_cases hlt : k < m
    · obtain ⟨gb, off, e, hgb, hc, hmx⟩ := HSA.out k hlt
      subst e
      have hc' : wr.cell? ⟨gb, off + k, none⟩ = some (.string (st (nms T) k)) := (HB.out.cell (p := ⟨gb, off + k, none⟩) hgb).trans hc
      have hled : Led tok L wr r n D := HL.out.below (HB1.out.trans (HB.out.mono HB1.out.size))
      have hhas : Maps.has D (ky (st (nms T) k)) = true := by
        rw [nms_at T k (by have := HLN.out; omega)]
        refine (HSO.out.mem _).1 ?_
        have hkl : k < T.length := by have := HLN.out; omega
        rw [List.getD_eq_getElem?_getD, List.getElem?_eq_getElem hkl]
        exact List.getElem_mem _
      obtain ⟨bm, rfl⟩ : ∃ bm, r = some bm := by
        rcases hled.mp with ⟨_, _, h3⟩ | ⟨bm, h3, _⟩
        · rw [h3] at hhas; simp [Maps.has] at hhas
        · exact ⟨bm, h3⟩
      obtain ⟨g, hrun, hrange⟩ := hled.find (st (nms T) k) hmx hhas
      have c1 := hled.cell1
      have HRG := hidden hrange
      obtain ⟨s, hs⟩ : ∃ s, s = st (nms T) k := ⟨_, rfl⟩
      rw [← hs] at hc' hrun HRG
      have HS := hidden hs
      have HTH : Hid (wr.there w1.heap.size (k * 8) (bal s tok).size) := fun j hj => by
        have := HT.out (k * 8 + j) (by simp [bal] at hj; omega)
        rw [Nat.zero_add] at this
        exact this
      clear hs hc hmx hled hhas hrange
      have hbt : (bal s tok).toList.toArray = bal s tok := by simp
      go_wp2_with (first
        | (have hrg := HRG.out; refine wpList_load_mid rfl 40 (.tmp 31) rfl g 0 rfl (bal s tok).toList _ hrg Try.underlying40 rfl (size40 s tok) ?_; clear hrg HRG; rw [hbt])
        | (have hth := HTH.out; refine wpList_store_mid rfl 40 (.tmp 33) (.tmp 32) rfl w1.heap.size (k * 8) (bal s tok) rfl rfl hth (size40' s tok) (one40 s tok) ?_; clear hth HTH))
      exact ⟨⟨k + 1, by omega, by go_num, Below.setCells' (Nat.le_refl _) _ _ _ HB.out, World.there_setCells HT.out _ _ _, HR.out.succ HT.out hlt s HS.out, by rw [size_setCells]; exact hgs, HK.out.setCells _ _⟩, by simp [intOf]; omega⟩
    · obtain rfl : k = m := by omega
      go_wp2
      go_ret
      exact ⟨_, _, T, rfl, own_of_rows HB1.out.size hm HK.out HLN.out HR.out, HLN.out, hm, HSO.out, HB1.out.trans (HB.out.mono HB1.out.size)⟩
end Go.Proofs.Qxb6002388a
