/- The sort (25) at a row of its own. -/
import Derived.Test.Qxb6002388aBalOwn
import Derived.Test.Qxb6002388aBk
import Derived.Maps.RangeWalk
import Derived.Maps.AppendAt
import Derived.Laws.AppendOwnNone
import Derived.Laws.IdiomRangeMap
namespace Go.Proofs.Qxb6002388a
open Go.RowKit Go.Maps Go.Sort Go.Shelf Go.Proofs
set_option linter.unusedVariables false

theorem own_row_kept {w w' : World} {base e k n : Nat} {v : Value} {xs : List Value} (h : w.ownsRow base e k v n xs) (hb : ∀ g, v.ownBlock = some g → w'.heap[g]? = w.heap[g]?) : w'.ownsRow base e k v n xs := by
  refine ⟨h.1, ?_⟩
  rcases h.2 with h0 | ⟨g, cap, cur, h1, h2, h3, h4⟩
  · exact .inl h0
  · refine .inr ⟨g, cap, cur, h1, h2, ?_, h4⟩
    rw [hb g (by rw [h1]; rfl)]; exact h3
theorem own_row_base {w : World} {base base' e k n : Nat} {v : Value} {xs : List Value} (h : w.ownsRow base e k v n xs) (hb : base' ≤ base) : w.ownsRow base' e k v n xs := by
  refine ⟨h.1, ?_⟩
  rcases h.2 with h0 | ⟨g, cap, cur, h1, h2, h3⟩
  · exact .inl h0
  · exact .inr ⟨g, cap, cur, h1, by omega, h3⟩
theorem own_row_block {w : World} {base e k n : Nat} {v : Value} {xs : List Value} (h : w.ownsRow base e k v n xs) {g : Nat} (hg : v.ownBlock = some g) : base ≤ g ∧ g < w.heap.size ∧ ∃ cur, w.heap[g]? = some (.cells cur e (0, 0)) := by
  rcases h.2 with ⟨h0, _⟩ | ⟨g', cap, cur, h1, h2, h3, h4⟩
  · rw [h0] at hg; cases hg
  · rw [h1] at hg
    have e : g' = g := by simpa [Value.ownBlock] using hg
    subst e
    exact ⟨h2, (Array.getElem?_eq_some_iff.1 h3).1, cur, h3⟩
theorem grown_of_below {w w' : World} (h : Below w.heap.size w w') : w.grownBy w' none := ⟨h.os, h.tape, h.output, h.size, fun k hk _ => h.block k hk⟩

theorem own_holds {w : World} {base g cap : Nat} {Q : List Pr} (h : w.ownsRow base 40 8 (.slice (some ⟨g, 0, none⟩) Q.length cap) Q.length (rowsB Q)) : HoldsK encB 8 w g 0 Q.toArray := by
  intro j hj
  rw [size_flatK] at hj
  have hj' : j < Q.length * 8 := by simpa using hj
  rw [get_flatK _ _ _ _ hj, Nat.zero_add]
  refine ⟨?_, ?_⟩
  · rw [h.cellAt j hj']
    have e : j = j / 8 * 8 + j % 8 := by omega
    have hi : j / 8 < Q.length := by omega
    have hc : j % 8 < 8 := by omega
    rw [e, rowsB_get Q (j / 8) (j % 8) hi hc, List.getElem?_eq_getElem (by rw [encB_len]; exact hc)]
    have e1 : (j / 8 * 8 + j % 8) / 8 = j / 8 := by omega
    have e2 : (j / 8 * 8 + j % 8) % 8 = j % 8 := by omega
    rw [e1, e2]
    have e3 : Q.toArray[j / 8]! = Q[j / 8]! := by simp
    rw [e3, getElem!_pos (encB Q[j / 8]!) (j % 8) (by rw [encB_len]; exact hc)]
    rfl
  · rcases h.2 with ⟨h0, _⟩ | ⟨g', cap', cur, h1, h2, h3, h4⟩
    · cases h0
    · cases h1
      simp [World.frozen?, h3]

theorem grown_sortK {w : World} {g n : Nat} {os : Array Obj} (d : Array Pr) : w.grownBy (sortWorldK encB 8 w g 0 n d os) (some g) := by
  refine ⟨rfl, rfl, rfl, by simp [sortWorldK, putRowK, Sort.ahead], fun k hk hne => ?_⟩
  unfold sortWorldK putRowK
  rw [heap_grow_old _ _ (by simpa [Sort.ahead] using hk)]
  have : g ≠ k := fun e => hne (by rw [e])
  simp [putRow, mapBlock, Sort.ahead, Array.getElem?_modify, this]

/-- what the sort makes of a row -/
structure Srtd (Q Q' : List Pr) : Prop where
  perm : Q'.Perm Q
  pw : Q'.Pairwise (fun p q => ltOf cp p q = true)
theorem srtd (Q : List Pr) (hn : Q.Nodup) : Srtd Q (Q.mergeSort fun x y => !(ltOf cp) y x) := by
  have hp := List.mergeSort_perm Q (fun x y => !(ltOf cp) y x)
  refine ⟨hp, ?_⟩
  have hpw := List.pairwise_mergeSort (le := fun x y => !(ltOf cp) y x) (fun a b c h1 h2 => by
    simp only [Bool.not_eq_true'] at *
    exact cp_swo.ntrans _ _ _ h2 h1) (fun a b => by
    cases h : ltOf cp b a with
    | false => simp
    | true =>
      have : ltOf cp a b = false := by
        cases h2 : ltOf cp a b with
        | false => rfl
        | true => have := cp_trans h h2; rw [cp_irrefl] at this; cases this
      simp [this]) Q
  refine (hpw.and (hp.nodup_iff.2 hn)).imp (fun {a b} h => ?_)
  have h1 : ltOf cp b a = false := by simpa using h.1
  rcases cp_total a b with e | e | e
  · exact e
  · exact absurd e h.2
  · rw [e] at h1; cases h1

theorem sort_own (v : Value) (Q : List Pr) (base : Nat) (w : World) (h : w.ownsRow base 40 8 v Q.length (rowsB Q)) (hQ : Q.length < 4611686018427387904) (hn : Q.Nodup) :
    Calls Try.prog 25 #[v, .func (.func 26) #[] #[]] w fun e w' => e = .returned (.tuple #[]) ∧ w.grownBy w' v.ownBlock ∧ ∃ Q', Srtd Q Q' ∧ ∀ g m c, v = .slice (some ⟨g, 0, none⟩) m c → ∀ j u, (rowsB Q')[j]? = some u → w'.cell? ((⟨g, 0, none⟩ : Addr).add j) = some u := by
  rcases h.2 with ⟨rfl, h0⟩ | ⟨g, cap, cur, rfl, h2, h3, h4⟩
  · refine (sort_none none 0 w).mono ?_
    rintro e w' ⟨rfl, rfl⟩
    exact ⟨rfl, ⟨rfl, rfl, rfl, Nat.le_refl _, fun _ _ _ => rfl⟩, _, srtd Q hn, fun g m c hv => by cases hv⟩
  · have hH := own_holds h
    have hg : g < w.heap.size := (Array.getElem?_eq_some_iff.1 h3).1
    have hs := AnyQ.slices_SortFunc_total Lay.sort25 8 Try.isAgg40 Try.sizeOf40 encB encB_len encB_one cp cp_swo 26 #[] g 0 cap Q.toArray w (enters_of Try.func26 (by kernel_rfl) rfl) (cmpLays26 g 0 Q.toArray.size w) hH hg (by simpa using hQ) cp_eq
    refine Calls.mono (show Calls Try.prog 25 #[.slice (some ⟨g, 0, none⟩) Q.length cap, .func (.func 26) #[] #[]] w _ from hs) ?_
    rintro e w' ⟨rfl, n, os, rfl⟩
    refine ⟨rfl, grown_sortK _, _, srtd Q hn, ?_⟩
    intro g' m c hv j u hu
    cases hv
    have hlen : (Q.mergeSort fun x y => !(ltOf cp) y x).length = Q.length := (srtd Q hn).perm.length_eq
    have hj : j < Q.length * 8 := by
      have := (List.getElem?_eq_some_iff.1 hu).1
      rw [rowsB_len, hlen] at this
      exact this
    have hK := holdsK_sortWorldK_c encB 8 w g 0 Q.toArray (Q.mergeSort fun x y => !(ltOf cp) y x).toArray n os hH hg (by simp)
    have hj8 : j / 8 < (Q.mergeSort fun x y => !(ltOf cp) y x).length := by rw [hlen]; omega
    have e : j = j / 8 * 8 + j % 8 := by omega
    rw [e, rowsB_get _ (j / 8) (j % 8) hj8 (by omega)] at hu
    have hc := HoldsK.cells hK encB_len (i := j / 8) (by simpa using hj8) (j % 8) u (by simpa using hu)
    rw [Addr.add_lit] at hc ⊢
    rw [show 0 + j = 0 + j / 8 * 8 + j % 8 by omega]
    simpa using hc
end Go.Proofs.Qxb6002388a
