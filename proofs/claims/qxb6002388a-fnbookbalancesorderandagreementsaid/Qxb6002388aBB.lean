/- Book.Balances (17): the invariant. -/
import Derived.Test.Qxb6002388aRowsSort
namespace Go.Proofs.Qxb6002388a
open Go.RowKit Go.Maps Go.Sort Go.Shelf Go.Proofs
set_option linter.unusedVariables false
set_option maxRecDepth 100000

theorem ba_ext {a b : ByteArray} (h : a.data.toList = b.data.toList) : a = b := ky_inj (show ky a = ky b by unfold ky; rw [h])
theorem mem_prs {tok : ByteArray} {T : List (List UInt8)} {p : Pr} : p ∈ prs tok T ↔ p.1 = tok ∧ ac p ∈ T := by
  unfold prs
  rw [List.mem_map]
  constructor
  · rintro ⟨l, hl, rfl⟩
    exact ⟨rfl, by simpa using hl⟩
  · rintro ⟨rfl, h⟩
    exact ⟨_, h, by obtain ⟨t, s⟩ := p; show (t, _) = (t, s); congr 1⟩
theorem prs_sorted {tok : ByteArray} {T : List (List UInt8)} (h : T.Pairwise (· < ·)) : (prs tok T).Pairwise (fun p q => pl p q = true) := by
  unfold prs
  refine List.pairwise_map.2 (h.imp (fun {a b} hab => ?_))
  rw [pl_iff]
  exact .inr ⟨Iff.rfl, .inl (by simpa using hab)⟩
theorem pl_irrefl (p : Pr) : pl p p = false := by
  cases h : pl p p with
  | false => rfl
  | true => have := pl_asymm h; rw [h] at this; cases this
theorem nodup_pl {Q : List Pr} (h : Q.Pairwise (fun p q => pl p q = true)) : Q.Nodup :=
  h.imp (fun {a b} hab e => by subst e; rw [pl_irrefl] at hab; cases hab)

/-- the walk over the ledgers, part way -/
structure BB (w wr : World) (b nB : Nat) (DB : DataW Unit) (P : Pr → Prop) (v3 v4 : Value) (U Q : List Pr) (left : Lit → Bool) (cnt : Nat) : Prop where
  rg : wr.ranges Try.prog 9 pR b w.heap.size nB DB left cnt
  bel : Below w.heap.size w wr
  sz : w.heap.size < wr.heap.size
  le : ∀ kl, left kl = true → Maps.has DB kl = true
  o3 : wr.ownsRow (w.heap.size + 1) 40 8 v3 U.length (rowsB U)
  o4 : wr.ownsRow (w.heap.size + 1) 40 8 v4 Q.length (rowsB Q)
  ap : ∀ g, v3.ownBlock = some g → v4.ownBlock ≠ some g
  u : ∀ p, p ∈ U ↔ P p ∧ tk p = [] ∧ left (ky p.1) = false
  us : U.Pairwise (fun p q => pl p q = true)
  ul : U.length ≤ 4096
  q : ∀ p, p ∈ Q ↔ P p ∧ tk p ≠ [] ∧ left (ky p.1) = false
  qn : Q.Nodup
  ql : Q.length + cnt * 4096 ≤ nB * 4096

theorem left_same {left : Lit → Bool} (x : ByteArray) : (left (ky x) && !(ky x).sameKey (ky x)) = false := by simp [Lit.sameKey]
theorem left_other {left : Lit → Bool} {x y : ByteArray} (h : y ≠ x) : (left (ky y) && !(ky y).sameKey (ky x)) = left (ky y) := by
  have : (ky y).sameKey (ky x) = false := by
    simp only [Lit.sameKey]
    cases e : (y.data.toList == x.data.toList) with
    | false => rfl
    | true => exact absurd (ba_ext (by simpa using e)) h
  rw [this]; simp

section
variable {w wr w1 w2 : World} {b nB : Nat} {DB : DataW Unit} {P : Pr → Prop} {v3 v4 : Value} {U Q : List Pr} {left : Lit → Bool} {cnt cnt1 : Nat} {x : ByteArray}

/-- behind next and a ledger's Balances -/
theorem BB.moved (h : BB w wr b nB DB P v3 v4 U Q left cnt) (hg1 : wr.grownBy w1 (some w.heap.size)) (hb2 : Below w1.heap.size w1 w2) : Below w.heap.size w w2 ∧ w.heap.size < w2.heap.size ∧
    w2.ownsRow (w.heap.size + 1) 40 8 v3 U.length (rowsB U) ∧ w2.ownsRow (w.heap.size + 1) 40 8 v4 Q.length (rowsB Q) := by
  have hs1 := hg1.size
  have hs2 := hb2.size
  have hsz := h.sz
  have hblk : ∀ k, k < wr.heap.size → k ≠ w.heap.size → w2.heap[k]? = wr.heap[k]? := fun k hk hne => (hb2.block k (by omega)).trans (hg1.block k hk (fun e => hne (by simpa using e)))
  refine ⟨⟨hb2.os.trans (hg1.os.trans h.bel.os), hb2.tape.trans (hg1.tape.trans h.bel.tape), hb2.output.trans (hg1.output.trans h.bel.output), by omega, fun k hk => (hblk k (by omega) (by omega)).trans (h.bel.block k hk)⟩, by omega, own_row_kept h.o3 (fun g hg => ?_), own_row_kept h.o4 (fun g hg => ?_)⟩
  · obtain ⟨h1, h2, _⟩ := own_row_block h.o3 hg
    exact hblk g h2 (by omega)
  · obtain ⟨h1, h2, _⟩ := own_row_block h.o4 hg
    exact hblk g h2 (by omega)

theorem BB.tok0 (h : BB w wr b nB DB P v3 v4 U Q left cnt) (hg1 : wr.grownBy w1 (some w.heap.size)) (hsz1 : w1.heap.size = wr.heap.size) (hrg1 : w1.ranges Try.prog 9 pR b w.heap.size nB DB (fun z => left z && !z.sameKey (ky x)) cnt1) (hlt : cnt1 < cnt)
    (hb2 : Below w1.heap.size w1 w2) {G m : Nat} {T : List (List UInt8)} {D : DataW Unit} (ho : w2.ownsRow w1.heap.size 40 8 (.slice (some ⟨G, 0, none⟩) m m) m (rowsB (prs x T))) (hl : T.length = m) (hm : m ≤ 4096) (hSO : SortedOf D T) (hP : ∀ s, Maps.has D (ky s) = true ↔ P (x, s)) (hx : x.data.toList = []) :
    BB w w2 b nB DB P (.slice (some ⟨G, 0, none⟩) m m) v4 (prs x T) Q (fun z => left z && !z.sameKey (ky x)) cnt1 := by
  obtain ⟨k1, k2, k3, k4⟩ := h.moved hg1 hb2
  have hsz := h.sz
  have hlen : (prs x T).length = m := (prs_len x T).trans hl
  have o3' : w2.ownsRow (w.heap.size + 1) 40 8 (.slice (Option.some ⟨G, 0, Option.none⟩) m m) (prs x T).length (rowsB (prs x T)) := by
    rw [hlen]; exact own_row_base ho (by omega)
  refine ⟨hrg1.kept (grown_of_below hb2) (by simp) (by simp), k1, k2, fun kl hk => h.le kl (by simp at hk; exact hk.1), o3', k4, fun g hg hg4 => ?_, fun p => ?_, prs_sorted hSO.sorted, by rw [hlen]; exact hm, fun p => ?_, h.qn, Nat.le_trans (Nat.add_le_add_left (Nat.mul_le_mul_right 4096 (Nat.le_of_lt hlt)) _) h.ql⟩
  · obtain ⟨h1, h2, _⟩ := own_row_block ho hg
    obtain ⟨_, h4, _⟩ := own_row_block h.o4 hg4
    omega
  · rw [mem_prs, hSO.mem]
    constructor
    · rintro ⟨e, hh⟩
      refine ⟨?_, by show p.1.data.toList = []; rw [e]; exact hx, by rw [e]; exact left_same x⟩
      have := (hP p.2).1 hh
      rw [← e] at this
      exact this
    · rintro ⟨hp, ht, _⟩
      have e : p.1 = x := ba_ext (ht.trans hx.symm)
      refine ⟨e, (hP p.2).2 ?_⟩
      rw [← e]; exact hp
  · rw [h.q]
    constructor
    · rintro ⟨hp, ht, hl'⟩
      exact ⟨hp, ht, by show (left (ky p.1) && _) = false; rw [hl']; rfl⟩
    · rintro ⟨hp, ht, hl'⟩
      refine ⟨hp, ht, ?_⟩
      have hne : p.1 ≠ x := fun e => ht (by show p.1.data.toList = []; rw [e]; exact hx)
      exact (left_other hne).symm.trans hl'

theorem ql_step {Q : List Pr} {x : ByteArray} {T : List (List UInt8)} {m cnt cnt1 nB : Nat} (hl : T.length = m) (hm : m ≤ 4096) (hlt : cnt1 < cnt) (h : Q.length + cnt * 4096 ≤ nB * 4096) : (Q ++ prs x T).length + cnt1 * 4096 ≤ nB * 4096 := by
  rw [List.length_append, prs_len, hl]
  have h1 : (cnt1 + 1) * 4096 ≤ cnt * 4096 := Nat.mul_le_mul_right 4096 hlt
  rw [Nat.add_mul] at h1
  generalize cnt * 4096 = a at *
  generalize cnt1 * 4096 = b at *
  generalize nB * 4096 = c at *
  omega
theorem BB.tok1 (h : BB w wr b nB DB P v3 v4 U Q left cnt) (hlx : left (ky x) = true) (hg1 : wr.grownBy w1 (some w.heap.size)) (hsz1 : w1.heap.size = wr.heap.size) (hrg1 : w1.ranges Try.prog 9 pR b w.heap.size nB DB (fun z => left z && !z.sameKey (ky x)) cnt1) (hlt : cnt1 < cnt)
    (hb2 : Below w1.heap.size w1 w2) {m : Nat} {T : List (List UInt8)} {D : DataW Unit} (hl : T.length = m) (hm : m ≤ 4096) (hSO : SortedOf D T) (hP : ∀ s, Maps.has D (ky s) = true ↔ P (x, s)) (hx : x.data.toList ≠ [])
    {v' : Value} {w3 : World} (ho3 : w3.ownsRow (w.heap.size + 1) 40 8 v' (Q.length + m) (rowsB Q ++ rowsB (prs x T))) (hg3 : w2.grownBy w3 v4.ownBlock) (hob : v'.ownBlock = v4.ownBlock ∨ v'.ownBlock = Option.some w2.heap.size) (hbm : b < w.heap.size) :
    BB w w3 b nB DB P v3 v' U (Q ++ prs x T) (fun z => left z && !z.sameKey (ky x)) cnt1 := by
  obtain ⟨k1, k2, k3, k4⟩ := h.moved hg1 hb2
  have hsz := h.sz
  have hs3 := hg3.size
  have hs2 := hb2.size
  have hbase : ∀ g, v4.ownBlock = Option.some g → w.heap.size + 1 ≤ g := fun g hg => (own_row_block h.o4 hg).1
  refine ⟨?_, ?_, by omega, fun kl hk => h.le kl (by simp at hk; exact hk.1), own_row_kept k3 (fun g hg => ?_), ?_, fun g hg hg' => ?_, fun p => ?_, h.us, h.ul, fun p => ?_, ?_, ql_step hl hm hlt h.ql⟩
  · refine (hrg1.kept (grown_of_below hb2) (by simp) (by simp)).kept hg3 (fun e => ?_) (fun e => ?_)
    · have := hbase b e.symm; omega
    · have := hbase _ e.symm; omega
  · refine ⟨hg3.os.trans k1.os, hg3.tape.trans k1.tape, hg3.output.trans k1.output, by have := k1.size; omega, fun k hk => (hg3.block k (by omega) (fun e => ?_)).trans (k1.block k hk)⟩
    have := hbase k e.symm; omega
  · obtain ⟨_, h2, _⟩ := own_row_block k3 hg
    exact hg3.block g h2 (fun e => h.ap g hg e.symm)
  · rw [rowsB_append, List.length_append, prs_len, hl]; exact ho3
  · rcases hob with e | e
    · exact h.ap g hg (by rw [← e]; exact hg')
    · obtain ⟨_, h2, _⟩ := own_row_block k3 hg
      rw [e] at hg'
      have : w2.heap.size = g := by simpa using hg'
      omega
  · rw [h.u]
    constructor
    · rintro ⟨hp, ht, hl'⟩
      exact ⟨hp, ht, by show (left (ky p.1) && _) = false; rw [hl']; rfl⟩
    · rintro ⟨hp, ht, hl'⟩
      refine ⟨hp, ht, ?_⟩
      have hne : p.1 ≠ x := fun e => hx (by rw [← e]; exact ht)
      exact (left_other hne).symm.trans hl'
  · rw [List.mem_append, h.q, mem_prs, hSO.mem]
    constructor
    · rintro (⟨hp, ht, hl'⟩ | ⟨e, hh⟩)
      · exact ⟨hp, ht, by show (left (ky p.1) && _) = false; rw [hl']; rfl⟩
      · refine ⟨?_, by show p.1.data.toList ≠ []; rw [e]; exact hx, by rw [e]; exact left_same x⟩
        have := (hP p.2).1 hh
        rw [← e] at this
        exact this
    · rintro ⟨hp, ht, hl'⟩
      by_cases e : p.1 = x
      · refine .inr ⟨e, (hP p.2).2 ?_⟩
        rw [← e]; exact hp
      · exact .inl ⟨hp, ht, (left_other e).symm.trans hl'⟩
  · refine List.nodup_append.2 ⟨h.qn, nodup_pl (prs_sorted hSO.sorted), fun p hp p' hp' e => ?_⟩
    subst e
    have h1 := ((h.q p).1 hp).2.2
    rw [(mem_prs.1 hp').1, hlx] at h1
    cases h1

/-- what Book.Balances hands back -/
structure Got (w w' : World) (P : Pr → Prop) (v : Value) (R : List Pr) : Prop where
  own : w'.ownsRow w.heap.size 40 8 v R.length (rowsB R)
  sorted : R.Pairwise (fun p q => pl p q = true)
  mem : ∀ p, p ∈ R ↔ P p
  bel : Below w.heap.size w w'

theorem BB.fin (h : BB w wr b nB DB P v3 v4 U Q left cnt) (hl : ∀ kl, left kl = false) {Q' : List Pr} (hs : Srtd Q Q') : (U ++ Q').Pairwise (fun p q => pl p q = true) ∧ ∀ p, p ∈ U ++ Q' ↔ P p := by
  have hQ : ∀ p, p ∈ Q' ↔ P p ∧ tk p ≠ [] := fun p => by rw [hs.perm.mem_iff, h.q]; simp [hl]
  have hU : ∀ p, p ∈ U ↔ P p ∧ tk p = [] := fun p => by rw [h.u]; simp [hl]
  constructor
  · refine List.pairwise_append.2 ⟨h.us, hs.pw.imp_of_mem (fun {a c} ha hc hac => ?_), fun a ha c hc => ?_⟩
    · rw [pl_iff]
      exact .inr ⟨⟨fun e => absurd e ((hQ a).1 ha).2, fun e => absurd e ((hQ c).1 hc).2⟩, (cp_lt a c).1 hac⟩
    · rw [pl_iff]
      exact .inl ⟨((hU a).1 ha).2, ((hQ c).1 hc).2⟩
  · intro p
    rw [List.mem_append, hU, hQ]
    constructor
    · rintro (h' | h')
      · exact h'.1
      · exact h'.1
    · intro hp
      by_cases e : tk p = []
      · exact .inl ⟨hp, e⟩
      · exact .inr ⟨hp, e⟩
end
end Go.Proofs.Qxb6002388a
