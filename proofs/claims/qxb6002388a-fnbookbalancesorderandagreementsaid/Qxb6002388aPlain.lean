/- The plain law: two lists in strict order that hold the same are the same. -/
import Derived.Test.Qxb6002388aBB
import Derived.Test.Qxb6002388aScript
namespace Go.Proofs.Qxb6002388a
open Go.RowKit Go.Maps Go.Sort Go.Shelf Go.Proofs
set_option linter.unusedVariables false

theorem sorted_unique : ∀ (A B : List Pr), A.Pairwise (fun p q => pl p q = true) → B.Pairwise (fun p q => pl p q = true) → (∀ p, p ∈ A ↔ p ∈ B) → A = B
  | [], [], _, _, _ => rfl
  | [], b :: B, _, _, h => absurd ((h b).2 (by simp)) (by simp)
  | a :: A, [], _, _, h => absurd ((h a).1 (by simp)) (by simp)
  | a :: A, b :: B, hA, hB, h => by
    obtain ⟨ha, hA'⟩ := List.pairwise_cons.1 hA
    obtain ⟨hb, hB'⟩ := List.pairwise_cons.1 hB
    have e : a = b := by
      rcases List.mem_cons.1 ((h a).1 (by simp)) with e | e
      · exact e
      · rcases List.mem_cons.1 ((h b).2 (by simp)) with e' | e'
        · exact e'.symm
        · have h1 := hb a e
          have h2 := ha b e'
          rw [pl_asymm h1] at h2
          cases h2
    subst e
    rw [sorted_unique A B hA' hB' (fun p => ?_)]
    constructor
    · intro hp
      rcases List.mem_cons.1 ((h p).1 (by simp [hp])) with e | e
      · subst e
        have := ha p hp
        rw [pl_irrefl] at this; cases this
      · exact e
    · intro hp
      rcases List.mem_cons.1 ((h p).2 (by simp [hp])) with e | e
      · subst e
        have := hb p hp
        rw [pl_irrefl] at this; cases this
      · exact e

/-- the sorted pairs are what the book lists -/
theorem got_rows {m : Nat} {f f' : Nat → Pr} {R : List Pr} (hinj : ∀ i j, i < m → j < m → f i = f j → i = j) (hs : Same m f f') (ho : OrdTo f' m) (hR : R.Pairwise (fun p q => pl p q = true)) (hm : ∀ p, p ∈ R ↔ PP m f p) :
    R.length = m ∧ ∀ i, i < m → R[i]! = f' i := by
  have e : R = (List.range m).map f' := by
    refine sorted_unique _ _ hR ?_ (fun p => ?_)
    · refine List.pairwise_map.2 ((List.pairwise_lt_range (n := m)).imp_of_mem (fun {x y} hx hy hxy => ?_))
      have hx' : x < m := List.mem_range.1 hx
      have hy' : y < m := List.mem_range.1 hy
      rcases pl_total (f' x) (f' y) with h | h | h
      · exact h
      · have := hs.inj hinj x y hx' hy' h; omega
      · rw [ho x y hxy hy'] at h; cases h
    · rw [hm, List.mem_map]
      constructor
      · rintro ⟨i, hi, rfl⟩
        obtain ⟨j, hj, e⟩ := hs.to i hi
        exact ⟨j, List.mem_range.2 hj, e⟩
      · rintro ⟨i, hi, rfl⟩
        obtain ⟨j, hj, e⟩ := hs.of i (List.mem_range.1 hi)
        exact ⟨j, hj, e⟩
  subst e
  refine ⟨by simp, fun i hi => ?_⟩
  rw [getElem!_pos _ i (by simpa using hi)]
  simp

/-- the entries of a token -/
def ofT (t : ByteArray) (R : List Pr) : List Pr := R.filter fun p => decide (p.1 = t)
theorem ofT_eq {m : Nat} {f : Nat → Pr} {R : List Pr} {t : ByteArray} {D : DataW Unit} {T : List (List UInt8)} (hR : R.Pairwise (fun p q => pl p q = true)) (hm : ∀ p, p ∈ R ↔ PP m f p) (hSO : SortedOf D T) (hP : ∀ s, Maps.has D (ky s) = true ↔ PP m f (t, s)) : ofT t R = prs t T := by
  refine sorted_unique _ _ (hR.sublist List.filter_sublist) (prs_sorted hSO.sorted) (fun p => ?_)
  unfold ofT
  rw [List.mem_filter, hm, mem_prs, hSO.mem]
  constructor
  · rintro ⟨h1, h2⟩
    have e : p.1 = t := by simpa using h2
    exact ⟨e, (hP p.2).2 (by rw [← e]; exact h1)⟩
  · rintro ⟨e, h⟩
    refine ⟨?_, by simpa using e⟩
    have := (hP p.2).1 h
    rw [← e] at this
    exact this
/-- how many of the token's come among the first i -/
def cnt (t : ByteArray) (R : List Pr) (i : Nat) : Nat := (ofT t (R.take i)).length
theorem cnt_zero (t : ByteArray) (R : List Pr) : cnt t R 0 = 0 := rfl
theorem cnt_all (t : ByteArray) (R : List Pr) : cnt t R R.length = (ofT t R).length := by unfold cnt; rw [List.take_length]
theorem split_at (R : List Pr) (i : Nat) (h : i < R.length) : R = R.take i ++ R[i]! :: R.drop (i + 1) := by
  rw [getElem!_pos R i h, ← List.drop_eq_getElem_cons h, List.take_append_drop]
theorem cnt_yes {t : ByteArray} {R : List Pr} {i : Nat} (h : i < R.length) (e : (R[i]!).1 = t) : cnt t R (i + 1) = cnt t R i + 1 ∧ cnt t R i < (ofT t R).length ∧ (ofT t R)[cnt t R i]! = R[i]! := by
  have h1 : ofT t R = ofT t (R.take i) ++ R[i]! :: ofT t (R.drop (i + 1)) := by
    conv => lhs; rw [split_at R i h]
    unfold ofT
    rw [List.filter_append, List.filter_cons_of_pos (by simpa using e)]
  have h2 : R.take (i + 1) = R.take i ++ [R[i]!] := by rw [List.take_succ_eq_append_getElem h, getElem!_pos R i h]
  refine ⟨?_, ?_, ?_⟩
  · unfold cnt
    rw [h2]
    unfold ofT
    rw [List.filter_append, List.filter_cons_of_pos (by simpa using e)]
    simp
  · rw [h1]; unfold cnt; simp
  · have hl : cnt t R i < (ofT t R).length := by rw [h1]; unfold cnt; simp
    rw [getElem!_pos (ofT t R) (cnt t R i) hl]
    have : (ofT t R)[cnt t R i]? = some R[i]! := by
      rw [h1]; unfold cnt
      rw [List.getElem?_append_right (Nat.le_refl _)]
      simp
    rw [List.getElem?_eq_getElem hl] at this
    exact Option.some.inj this
theorem cnt_no {t : ByteArray} {R : List Pr} {i : Nat} (h : i < R.length) (e : (R[i]!).1 ≠ t) : cnt t R (i + 1) = cnt t R i := by
  have h2 : R.take (i + 1) = R.take i ++ [R[i]!] := by rw [List.take_succ_eq_append_getElem h, getElem!_pos R i h]
  unfold cnt
  rw [h2]
  unfold ofT
  rw [List.filter_append, List.filter_cons_of_neg (by simpa using e)]
  simp
end Go.Proofs.Qxb6002388a
