/- The plain law of the selection. -/
import Derived.Test.Qxb6000561aZZW
namespace Go.Proofs.Qxb6000561a
open Go.RowKit Go.Maps
set_option linter.unusedVariables false

theorem Sm_isMap (ss : List ByteArray) (k : Nat) : IsMap (Sm ss k) := by
  induction k with
  | zero => exact isMap_empty
  | succ k ih => exact ih.put _ _

theorem lit_inj {s t : ByteArray} (h : Lit.string s.data.toList = .string t.data.toList) : s = t := by
  injection h with h
  cases s; cases t
  simp at h
  rw [h]

theorem inSet_iff (ss : List ByteArray) (n : Nat) (s : ByteArray) : inSet ss n s = true ↔ ∃ i, i < n ∧ st ss i = s := by
  unfold inSet
  induction n with
  | zero => simp [Sm, Maps.has]
  | succ k ih =>
    by_cases e : s = st ss k
    · subst e
      refine ⟨fun _ => ⟨k, by omega, rfl⟩, fun _ => ?_⟩
      exact has_put_same (k := .string (st ss k).data.toList) (Sm_isMap ss k) trivial _
    · have hne : Lit.string s.data.toList ≠ .string (st ss k).data.toList := fun h => e (lit_inj h)
      have h1 : Maps.has (Sm ss (k + 1)) (.string s.data.toList) = Maps.has (Sm ss k) (.string s.data.toList) := has_put_other hne _
      rw [h1, ih]
      constructor
      · rintro ⟨i, hi, h⟩; exact ⟨i, by omega, h⟩
      · rintro ⟨i, hi, h⟩
        by_cases e2 : i = k
        · subst e2; exact absurd h.symm e
        · exact ⟨i, by omega, h⟩

theorem scan_iff (f : Nat → Bool) (sz : Nat) (ls : List Int) (h : ls.Pairwise (· < ·)) : scan f sz ls = true ↔ ∃ l, l ∈ ls ∧ l ≤ (sz : Int) ∧ f l.toNat = true := by
  induction ls with
  | nil => simp [scan]
  | cons a r ih =>
    have hp := List.pairwise_cons.1 h
    unfold scan
    by_cases h1 : (sz : Int) < a
    · rw [if_pos h1]
      constructor
      · intro h; cases h
      · rintro ⟨l, hl, h2, _⟩
        rcases List.mem_cons.1 hl with rfl | hl
        · omega
        · have := hp.1 l hl; omega
    · rw [if_neg h1]
      by_cases h2 : f a.toNat = true
      · rw [if_pos h2]
        exact ⟨fun _ => ⟨a, List.mem_cons_self, by omega, h2⟩, fun _ => rfl⟩
      · rw [if_neg h2, ih hp.2]
        constructor
        · rintro ⟨l, hl, h3⟩; exact ⟨l, List.mem_cons_of_mem _ hl, h3⟩
        · rintro ⟨l, hl, h3, h4⟩
          rcases List.mem_cons.1 hl with rfl | hl
          · exact absurd h4 h2
          · exact ⟨l, hl, h3, h4⟩

theorem extract_size (key : ByteArray) (n : Nat) (h : n ≤ key.size) : (key.extract 0 n).size = n := by simp; omega

/-- what matches says: the key is one of the keys, or one of the prefixes begins it -/
theorem sel_iff (ks ps : List ByteArray) (n1 n2 : Nat) (ls : List Int) (key : ByteArray) (h : Lens ls ps n2) :
    (inSet ks n1 key || scan (fun l => inSet ps n2 (key.extract 0 l)) key.size ls) = true ↔ (∃ i, i < n1 ∧ st ks i = key) ∨ ∃ i, i < n2 ∧ (st ps i).size ≤ key.size ∧ key.extract 0 (st ps i).size = st ps i := by
  rw [Bool.or_eq_true, inSet_iff, scan_iff _ _ _ h.1]
  constructor
  · rintro (h1 | ⟨l, hl, h2, h3⟩)
    · exact .inl h1
    · obtain ⟨j, hj, hj2⟩ := (h.2 l).1 hl
      obtain ⟨i, hi, e⟩ := (inSet_iff _ _ _).1 h3
      have hs := extract_size key l.toNat (by omega)
      refine .inr ⟨i, hi, ?_, ?_⟩
      · rw [e, hs]; omega
      · rw [e, hs]
  · rintro (h1 | ⟨i, hi, h2, h3⟩)
    · exact .inl h1
    · refine .inr ⟨((st ps i).size : Int), (h.2 _).2 ⟨i, hi, rfl⟩, by omega, ?_⟩
      rw [Int.toNat_natCast, h3]
      exact (inSet_iff _ _ _).2 ⟨i, hi, rfl⟩
end Go.Proofs.Qxb6000561a
