/- Plain laws on the index of lengths: no Go in sight. -/
namespace Go.Proofs.Qxb6000561a

/-- ls: strictly ascending, just the lengths of the first k strings -/
def Lens (ls : List Int) (ss : List ByteArray) (k : Nat) : Prop :=
  ls.Pairwise (· < ·) ∧ ∀ L, L ∈ ls ↔ ∃ i, i < k ∧ ((ss.getD i ByteArray.empty).size : Int) = L

theorem Lens.zero (ss : List ByteArray) : Lens [] ss 0 := ⟨List.Pairwise.nil, fun L => ⟨fun h => (by cases h), fun ⟨i, hi, _⟩ => absurd hi (Nat.not_lt_zero i)⟩⟩

theorem Lens.same {ls : List Int} {ss : List ByteArray} {k : Nat} (h : Lens ls ss k) (hm : ((ss.getD k ByteArray.empty).size : Int) ∈ ls) : Lens ls ss (k + 1) := by
  refine ⟨h.1, fun L => ⟨fun hL => ?_, fun ⟨i, hi, e⟩ => ?_⟩⟩
  · obtain ⟨i, hi, e⟩ := (h.2 L).1 hL
    exact ⟨i, by omega, e⟩
  · by_cases hik : i = k
    · subst hik; rw [← e]; exact hm
    · exact (h.2 L).2 ⟨i, by omega, e⟩

theorem Lens.dup {ls : List Int} {ss : List ByteArray} {k : Nat} (h : Lens ls ss k) (j : Nat) (hj : j < k) (he : (ss.getD j ByteArray.empty).size = (ss.getD k ByteArray.empty).size) : Lens ls ss (k + 1) :=
  h.same ((h.2 _).2 ⟨j, hj, by rw [he]⟩)

theorem Lens.ins {ls : List Int} {ss : List ByteArray} {k : Nat} (h : Lens ls ss k) (pos : Nat) (L : Int) (hL : ((ss.getD k ByteArray.empty).size : Int) = L) (hp : pos ≤ ls.length)
    (hlo : ∀ i, i < pos → ls.getD i 0 < L) (hhi : pos < ls.length → L < ls.getD pos 0) : Lens (ls.take pos ++ L :: ls.drop pos) ss (k + 1) := by
  have hsp : ls.take pos ++ ls.drop pos = ls := List.take_append_drop pos ls
  have hlo' : ∀ x ∈ ls.take pos, x < L := by
    intro x hx
    obtain ⟨i, hi, e⟩ := List.mem_iff_getElem.1 hx
    have hi' : i < pos := by simp at hi; omega
    have := hlo i hi'
    rw [List.getElem_take] at e
    rw [List.getD_eq_getElem?_getD, List.getElem?_eq_getElem (by omega)] at this
    simp at this
    omega
  have hpw := h.1
  rw [← hsp, List.pairwise_append] at hpw
  have hhi' : ∀ x ∈ ls.drop pos, L < x := by
    intro x hx
    by_cases hlt : pos < ls.length
    · have h0 := hhi hlt
      rw [List.getD_eq_getElem?_getD, List.getElem?_eq_getElem hlt] at h0
      simp at h0
      have hd := hpw.2.1
      rw [List.drop_eq_getElem_cons hlt] at hd hx
      rcases List.mem_cons.1 hx with rfl | hx
      · exact h0
      · have := (List.pairwise_cons.1 hd).1 x hx
        omega
    · rw [List.drop_eq_nil_of_le (by omega)] at hx
      cases hx
  refine ⟨List.pairwise_append.2 ⟨hpw.1, List.pairwise_cons.2 ⟨hhi', hpw.2.1⟩, fun a ha b hb => ?_⟩, fun M => ?_⟩
  · rcases List.mem_cons.1 hb with rfl | hb
    · exact hlo' a ha
    · exact hpw.2.2 a ha b hb
  · have hmem : M ∈ ls.take pos ++ L :: ls.drop pos ↔ M = L ∨ M ∈ ls := by
      rw [List.mem_append, List.mem_cons]
      rw [show (M ∈ ls) = (M ∈ ls.take pos ++ ls.drop pos) from by rw [hsp], List.mem_append]
      constructor
      · rintro (h | h | h)
        · exact .inr (.inl h)
        · exact .inl h
        · exact .inr (.inr h)
      · rintro (h | h | h)
        · exact .inr (.inl h)
        · exact .inl h
        · exact .inr (.inr h)
    rw [hmem, h.2 M]
    constructor
    · rintro (rfl | ⟨i, hi, e⟩)
      · exact ⟨k, by omega, hL⟩
      · exact ⟨i, by omega, e⟩
    · rintro ⟨i, hi, e⟩
      by_cases hik : i = k
      · subst hik; exact .inl (by omega)
      · exact .inr ⟨i, by omega, e⟩

/-- while the tail is moved up by one: all from place q on stand one place further -/
def sh (ls : List Int) (q : Nat) : List Int := (ls ++ [0]).take (q + 1) ++ ls.drop q

theorem sh_start (ls : List Int) : sh ls ls.length = ls ++ [0] := by
  unfold sh
  rw [List.drop_length, List.take_of_length_le (by simp), List.append_nil]

theorem sh_length (ls : List Int) (q : Nat) (h : q ≤ ls.length) : (sh ls q).length = ls.length + 1 := by
  unfold sh
  simp
  omega

theorem sh_get (ls : List Int) (q : Nat) (h0 : 0 < q) (h : q ≤ ls.length) : (sh ls q).getD (q - 1) 0 = ls.getD (q - 1) 0 := by
  unfold sh
  rw [List.getD_eq_getElem?_getD, List.getD_eq_getElem?_getD, List.getElem?_append_left (by simp; omega), List.getElem?_take_of_lt (by omega), List.getElem?_append_left (by omega)]

theorem sh_step (ls : List Int) (q : Nat) (h0 : 0 < q) (h : q ≤ ls.length) : (sh ls q).set q (ls.getD (q - 1) 0) = sh ls (q - 1) := by
  have hq : q - 1 < ls.length := by omega
  unfold sh
  rw [show q - 1 + 1 = q from by omega, List.drop_eq_getElem_cons hq, show q - 1 + 1 = q from by omega]
  rw [List.take_succ_eq_append_getElem (by simp; omega)]
  rw [List.append_assoc, List.set_append_right _ _ (by simp; omega)]
  have e : q - ((ls ++ [0]).take q).length = 0 := by simp; omega
  rw [e]
  simp [List.getElem?_eq_getElem hq]

theorem sh_end (ls : List Int) (q : Nat) (L : Int) (h : q ≤ ls.length) : (sh ls q).set q L = ls.take q ++ L :: ls.drop q := by
  unfold sh
  rw [List.take_succ_eq_append_getElem (by simp; omega)]
  rw [List.append_assoc, List.set_append_right _ _ (by simp; omega)]
  have e : q - ((ls ++ [0]).take q).length = 0 := by simp; omega
  rw [e, List.take_append_of_le_length h]
  simp
end Go.Proofs.Qxb6000561a
