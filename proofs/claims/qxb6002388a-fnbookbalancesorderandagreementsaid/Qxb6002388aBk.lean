/- A book of ledgers in memory; what asking and opening do to it. -/
import Derived.Test.Qxb6002388aBookAny
import Derived.Test.Qxb6002388aPairs
namespace Go.Proofs.Qxb6002388a
open Go.RowKit Go.Maps
set_option linter.unusedVariables false

theorem own_det {w : World} {b n n' : Nat} {D D' : DataW Unit} (h : w.ownsMap Try.prog 9 pR b n D) (h' : w.ownsMap Try.prog 9 pR b n' D') : D = D' := by
  obtain ⟨es, cl, hb, _, _, hD⟩ := h
  obtain ⟨es', cl', hb', _, _, hD'⟩ := h'
  rw [hb] at hb'
  cases hb'
  rw [hD, hD']
theorem own_kept {w w' : World} {b n : Nat} {D : DataW Unit} (h : w.ownsMap Try.prog 9 pR b n D) (e : w'.heap[b]? = w.heap[b]?) : w'.ownsMap Try.prog 9 pR b n D := by
  obtain ⟨es, cl, hb, F, hs, hD⟩ := h
  exact ⟨es, cl, e.trans hb, F, hs, hD⟩
theorem own_ne {w : World} {b n : Nat} {D : DataW Unit} (h : w.ownsMap Try.prog 9 pR b n D) {g : Nat} {cs : Array Value} {t : TypeId} {fr : Nat × Nat} (hg : w.heap[g]? = some (.cells cs t fr)) : g ≠ b := by
  rintro rfl
  obtain ⟨es, cl, hb, _⟩ := h
  rw [hb] at hg
  cases hg

/-- one ledger of a book -/
structure Lg (B N : Nat) (w : World) (t : ByteArray) (L : Nat) (r : Option Nat) (n : Nat) (D : DataW Unit) (P : Pr → Prop) : Prop where
  led : Led t L w r n D
  L : B ≤ L
  n : n ≤ N
  r : ∀ b, r = some b → B ≤ b ∧ ∃ s, Maps.has D (ky s) = true
  has : ∀ s, Maps.has D (ky s) = true ↔ P (t, s)

/-- a book at block K: its ledgers hold just the accounts of P -/
structure Bk (K B N : Nat) (w : World) (rB : Option Nat) (nB : Nat) (DB : DataW Unit) (P : Pr → Prop) : Prop where
  hd : w.heap[K]? = some (.cells #[.map rB] 28 (0, 0))
  mp : (rB = none ∧ nB = 0 ∧ DB = .map []) ∨ ∃ b, rB = some b ∧ B ≤ b ∧ w.ownsMap Try.prog 9 pR b nB DB
  led : ∀ t, Maps.has DB (ky t) = true → ∃ (L : Nat) (r : Option Nat) (n : Nat) (D : DataW Unit), (∀ zd, DB.atKey (ky t) zd = .lit (.int .i64 L)) ∧ Lg B N w t L r n D P
  all : ∀ p, P p → Maps.has DB (ky p.1) = true
  nb : nB ≤ N

theorem Lg.mono {B N N' : Nat} {w : World} {t : ByteArray} {L : Nat} {r : Option Nat} {n : Nat} {D : DataW Unit} {P : Pr → Prop} (h : Lg B N w t L r n D P) (hN : N ≤ N') : Lg B N' w t L r n D P :=
  ⟨h.led, h.L, Nat.le_trans h.n hN, h.r, h.has⟩

section
variable {K B N : Nat} {w w' : World} {rB : Option Nat} {nB : Nat} {DB : DataW Unit} {P : Pr → Prop}

/-- a ledger's map is not the book's -/
theorem Bk.apart (h : Bk K B N w rB nB DB P) {t : ByteArray} {L : Nat} {r : Option Nat} {n : Nat} {D : DataW Unit} (hl : Lg B N w t L r n D P) (b : Nat) (h1 : rB = some b) (h2 : r = some b) : False := by
  obtain ⟨s, hs⟩ := (hl.r b h2).2
  rcases h.mp with ⟨h0, _⟩ | ⟨b', hb', _, ho⟩
  · rw [h0] at h1; cases h1
  rw [h1] at hb'; cases hb'
  rcases hl.led.mp with ⟨h0, _⟩ | ⟨b', hb', ho'⟩
  · rw [h0] at h2; cases h2
  rw [h2] at hb'; cases hb'
  have e := own_det ho ho'
  subst e
  obtain ⟨L', r', n', D', ha, hl'⟩ := h.led s hs
  obtain ⟨g, hg, hc⟩ := hl.led.bl s hs
  have e := (ha .nil).symm.trans (hg .nil)
  have e2 : L' = g := by
    injection e with e; injection e with _ e; omega
  subst e2
  have := hl'.led.hd.symm.trans hc
  simp at this
/-- two ledgers are apart -/
theorem Lg.apart {t t' : ByteArray} {L L' : Nat} {r r' : Option Nat} {n n' : Nat} {D D' : DataW Unit} (h : Lg B N w t L r n D P) (h' : Lg B N w t' L' r' n' D' P) (hne : t ≠ t') : L ≠ L' ∧ ∀ b, r = some b → r' ≠ some b := by
  refine ⟨fun e => ?_, fun b h1 h2 => ?_⟩
  · subst e
    have := h.led.cell0.symm.trans h'.led.cell0
    simp at this
    exact hne this
  · obtain ⟨s, hs⟩ := (h.r b h1).2
    rcases h.led.mp with ⟨h0, _⟩ | ⟨b1, hb1, ho⟩
    · rw [h0] at h1; cases h1
    rw [h1] at hb1; cases hb1
    rcases h'.led.mp with ⟨h0, _⟩ | ⟨b1, hb1, ho'⟩
    · rw [h0] at h2; cases h2
    rw [h2] at hb1; cases hb1
    have e := own_det ho ho'
    subst e
    obtain ⟨g, hg, hc⟩ := h.led.bl s hs
    obtain ⟨g', hg', hc'⟩ := h'.led.bl s hs
    have e := (hg .nil).symm.trans (hg' .nil)
    have e2 : g = g' := by
      injection e with e; injection e with _ e; omega
    subst e2
    have := hc.symm.trans hc'
    simp [bal] at this
    exact hne this
theorem Led.ne28 {t : ByteArray} {L : Nat} {r : Option Nat} {n : Nat} {D : DataW Unit} (h : Led t L w r n D) {K : Nat} {cs : Array Value} (hK : w.heap[K]? = some (.cells cs 28 (0, 0))) : L ≠ K := by
  rintro rfl
  have := h.hd.symm.trans hK
  simp at this
theorem Led.ne40 {t : ByteArray} {L : Nat} {r : Option Nat} {n : Nat} {D : DataW Unit} (h : Led t L w r n D) {K : Nat} {cs : Array Value} (hK : w.heap[K]? = some (.cells cs 40 (0, 0))) : L ≠ K := by
  rintro rfl
  have := h.hd.symm.trans hK
  simp at this
theorem Led.rne {t : ByteArray} {L : Nat} {r : Option Nat} {n : Nat} {D : DataW Unit} (h : Led t L w r n D) {b : Nat} (hr : r = some b) {g : Nat} {cs : Array Value} {ty : TypeId} {fr : Nat × Nat} (hg : w.heap[g]? = some (.cells cs ty fr)) : g ≠ b := by
  rcases h.mp with ⟨h0, _⟩ | ⟨b1, hb1, ho⟩
  · rw [h0] at hr; cases hr
  rw [hr] at hb1; cases hb1
  exact own_ne ho hg

theorem Lg.keep {S : Nat → Prop} {t : ByteArray} {L : Nat} {r : Option Nat} {n : Nat} {D : DataW Unit} (h : Lg B N w t L r n D P) (hk : Kept S w w') (h1 : ¬ S L) (h2 : ∀ b, r = some b → ¬ S b) (h3 : ∀ g cs, w.heap[g]? = some (.cells cs 40 (0, 0)) → ¬ S g) : Lg B N w' t L r n D P :=
  ⟨h.led.kept hk h1 h2 h3, h.L, h.n, h.r, h.has⟩

/-- what stays where nothing of the book is touched -/
theorem Bk.kept {S : Nat → Prop} (h : Bk K B N w rB nB DB P) (hk : Kept S w w') (hS : ∀ k, S k → k < B ∧ k ≠ K) (h40 : ∀ g cs, w.heap[g]? = some (.cells cs 40 (0, 0)) → ¬ S g) : Bk K B N w' rB nB DB P := by
  have hlt : K < w.heap.size := (Array.getElem?_eq_some_iff.1 h.hd).1
  refine ⟨(hk.block K hlt (fun e => (hS K e).2 rfl)).trans h.hd, ?_, fun t ht => ?_, h.all, h.nb⟩
  · rcases h.mp with h0 | ⟨b, h1, h2, ho⟩
    · exact .inl h0
    · exact .inr ⟨b, h1, h2, own_kept ho (hk.block b ho.lt (fun e => by have := (hS b e).1; omega))⟩
  · obtain ⟨L, r, n, D, ha, hl⟩ := h.led t ht
    exact ⟨L, r, n, D, ha, hl.keep hk (fun e => by have := (hS L e).1; have := hl.L; omega) (fun b hb e => by have := (hS b e).1; have := (hl.r b hb).1; omega) h40⟩

/-- behind asking for the ledger of t -/
structure Asked (K B N : Nat) (w w' : World) (t : ByteArray) (L : Nat) (P : Pr → Prop) : Prop where
  ex : ∃ rB nB DB, Bk K B N w' rB nB DB P ∧ Maps.has DB (ky t) = true ∧ ∀ zd, DB.atKey (ky t) zd = .lit (.int .i64 L)
  kept : Kept (fun k => k = K ∨ B ≤ k) w w'
  cells : ∀ g cs ty fr, g ≠ K → w.heap[g]? = some (.cells cs ty fr) → w'.heap[g]? = w.heap[g]?

theorem Bk.asked (h : Bk K B N w rB nB DB P) (hB : B ≤ w.heap.size) {rB' : Option Nat} {nB' : Nat} {DB' : DataW Unit} {t : ByteArray} {L : Nat} (hno : Maps.has DB (ky t) = false) (o : Bopen K w w' rB rB' nB nB' DB DB' t L) : Asked K B (N + 1) w w' t L P := by
  have hrB : ∀ b, rB = some b → B ≤ b := fun b hb => by
    rcases h.mp with ⟨h0, _⟩ | ⟨b', h1, h2, _⟩
    · rw [h0] at hb; cases hb
    · rw [h1] at hb; cases hb; exact h2
  obtain ⟨b1, e1, ho1, hb1⟩ := o.mp
  have hb1' : B ≤ b1 := by
    rcases hb1 with e | e
    · exact hrB b1 e
    · omega
  refine ⟨⟨rB', nB', DB', ⟨o.hd, .inr ⟨b1, e1, hb1', ho1⟩, fun s hs => ?_, fun p hp => ?_, by have := o.n; have := h.nb; omega⟩, by rw [o.has]; simp, o.att⟩, o.kept.mono (fun k _ hS => ?_), fun g cs ty fr hne hg => o.kept.block g (Array.getElem?_eq_some_iff.1 hg).1 ?_⟩
  rotate_left 3
  · rintro (e | e)
    · exact hne e
    · rcases h.mp with ⟨h0, _⟩ | ⟨b', h1, h2, ho⟩
      · rw [h0] at e; cases e
      · rw [h1] at e; cases e; exact own_ne ho hg rfl
  · by_cases e : s = t
    · subst e
      obtain ⟨hl, hL⟩ := o.new hno
      refine ⟨L, none, 0, .map [], o.att, hl, by omega, Nat.zero_le _, (fun b hb => by cases hb), fun s' => ?_⟩
      constructor
      · intro h'; simp [Maps.has] at h'
      · intro h'
        have := h.all _ h'
        rw [show Maps.has DB (ky (s, s').1) = false from hno] at this
        cases this
    · have hs' : Maps.has DB (ky s) = true := by rw [o.has] at hs; simpa [e] using hs
      obtain ⟨L', r', n', D', ha, hl⟩ := h.led s hs'
      refine ⟨L', r', n', D', fun zd => (o.ato s e zd).trans (ha zd), (hl.keep o.kept ?_ ?_ ?_).mono (by omega)⟩
      · rintro (e' | e')
        · exact hl.led.ne28 h.hd e'
        · rcases h.mp with ⟨h0, _⟩ | ⟨b', h1, h2, ho⟩
          · rw [h0] at e'; cases e'
          · rw [h1] at e'; cases e'; exact own_ne ho hl.led.hd rfl
      · rintro b hb (e' | e')
        · subst e'; exact hl.led.rne hb h.hd rfl
        · exact h.apart hl b e' hb
      · rintro g cs hg (e' | e')
        · subst e'
          have := hg.symm.trans h.hd
          simp at this
        · rcases h.mp with ⟨h0, _⟩ | ⟨b', h1, h2, ho⟩
          · rw [h0] at e'; cases e'
          · rw [h1] at e'; cases e'; exact own_ne ho hg rfl
  · rw [o.has, h.all p hp]; rfl
  · rcases hS with e | e
    · exact .inl e
    · exact .inr (hrB k e)

theorem book_any (h : Bk K B N w rB nB DB P) (hB : B ≤ w.heap.size) (hN : N < 4096) (t : ByteArray) (hs : t.size ≤ maxLen) :
    Calls Try.prog 8 #[.pointer (some ⟨K, 0, none⟩), .string t] w fun e w' => ∃ L, e = .returned (.pointer (some ⟨L, 0, none⟩)) ∧ Asked K B (N + 1) w w' t L P := by
  cases hh : Maps.has DB (ky t) with
  | true =>
    obtain ⟨L, r, n, D, ha, hl⟩ := h.led t hh
    rcases h.mp with ⟨_, _, h0⟩ | ⟨b, rfl, h2, ho⟩
    · rw [h0] at hh; simp [Maps.has] at hh
    refine (book_there K t w b nB L DB hs h.hd ho hh ha).mono ?_
    rintro e w' ⟨rfl, rfl⟩
    refine ⟨L, rfl, ⟨⟨_, nB, DB, ⟨h.hd, h.mp, fun s hs => ?_, h.all, by have := h.nb; omega⟩, hh, ha⟩, Kept.refl _ _, fun _ _ _ _ _ _ => rfl⟩⟩
    obtain ⟨L', r', n', D', ha', hl'⟩ := h.led s hs
    exact ⟨L', r', n', D', ha', hl'.mono (by omega)⟩
  | false =>
    rcases h.mp with ⟨rfl, rfl, rfl⟩ | ⟨b, rfl, h2, ho⟩
    · refine (book_made K t w hs h.hd).mono ?_
      rintro e w' ⟨L, rB', nB', DB', rfl, o⟩
      exact ⟨L, rfl, h.asked hB hh o⟩
    · refine (book_new K t w b nB DB hs (by have := h.nb; unfold maxLen; omega) h.hd ho hh).mono ?_
      rintro e w' ⟨L, nB', DB', rfl, o⟩
      exact ⟨L, rfl, h.asked hB hh o⟩

/-- behind opening the account a in the ledger of t -/
theorem Bk.opened (h : Bk K B N w rB nB DB P) (hB : B ≤ w.heap.size) {t a : ByteArray} {L : Nat} {r r' : Option Nat} {n n' : Nat} {D D' : DataW Unit} (ht : Maps.has DB (ky t) = true) (hat : ∀ zd, DB.atKey (ky t) zd = .lit (.int .i64 L)) (hl : Lg B N w t L r n D P) (o : Opened t L w w' r r' n n' D D' a) :
    Bk K B (N + 1) w' rB nB DB (fun p => P p ∨ p = (t, a)) := by
  have hlt : K < w.heap.size := (Array.getElem?_eq_some_iff.1 h.hd).1
  refine ⟨(o.kept.block K hlt ?_).trans h.hd, ?_, fun s hs => ?_, ?_, by have := h.nb; omega⟩
  · rintro (e | e)
    · exact hl.led.ne28 h.hd e.symm
    · exact hl.led.rne e h.hd rfl
  · rcases h.mp with h0 | ⟨b, h1, h2, ho⟩
    · exact .inl h0
    · refine .inr ⟨b, h1, h2, own_kept ho (o.kept.block b ho.lt ?_)⟩
      rintro (e | e)
      · exact own_ne ho hl.led.hd e.symm
      · exact h.apart hl b h1 e
  · by_cases e : s = t
    · subst e
      refine ⟨L, r', n', D', hat, o.led, hl.L, by have := o.n; have := hl.n; omega, fun b hb => ⟨?_, a, by rw [o.has]; simp⟩, fun s' => ?_⟩
      · cases hr : r with
        | none => obtain ⟨b', e, hb'⟩ := o.r.2 hr; rw [e] at hb; cases hb; omega
        | some b' => have e := o.r.1 b' hr; rw [e] at hb; cases hb; exact (hl.r b hr).1
      · rw [o.has, Bool.or_eq_true, hl.has]
        simp
    · obtain ⟨L2, r2, n2, D2, ha2, hl2⟩ := h.led s hs
      obtain ⟨q1, q2⟩ := hl.apart hl2 (fun h => e h.symm)
      have hk := (hl2.keep o.kept ?_ ?_ ?_).mono (Nat.le_succ N)
      · refine ⟨L2, r2, n2, D2, ha2, hk.led, hk.L, hk.n, hk.r, fun s' => ?_⟩
        rw [hk.has]
        constructor
        · exact .inl
        · rintro (h' | h')
          · exact h'
          · injection h' with h1 h2; exact absurd h1 e
      · rintro (e' | e')
        · exact q1 e'.symm
        · exact hl.led.rne e' hl2.led.hd rfl
      · rintro b hb (e' | e')
        · subst e'; exact hl2.led.rne hb hl.led.hd rfl
        · exact q2 b e' hb
      · rintro g cs hg (e' | e')
        · exact hl.led.ne40 hg e'.symm
        · exact hl.led.rne e' hg rfl
  · rintro p (hp | rfl)
    · exact h.all p hp
    · exact ht

theorem zz_open_bk (h : Bk K B N w rB nB DB P) (hB : B ≤ w.heap.size) (hN : N < 4096) {t a : ByteArray} {L : Nat} (hs : a.size ≤ maxLen) (ht : Maps.has DB (ky t) = true) (hat : ∀ zd, DB.atKey (ky t) zd = .lit (.int .i64 L)) :
    Calls Try.prog 9 #[.pointer (some ⟨L, 0, none⟩), .string a] w fun e w' => (∃ g : Nat, e = .returned (.pointer (some ⟨g, 0, none⟩))) ∧ Bk K B (N + 1) w' rB nB DB (fun p => P p ∨ p = (t, a)) ∧ Kept (fun k => B ≤ k) w w' := by
  obtain ⟨L', r, n, D, ha', hl⟩ := h.led t ht
  have e2 : L' = L := by
    have e := (ha' .nil).symm.trans (hat .nil)
    injection e with e; injection e with _ e; omega
  subst e2
  refine (zz_open t L' w r n D a hs (by have := hl.n; unfold maxLen; omega) hl.led).mono ?_
  rintro e w' ⟨⟨g, rfl⟩, r', n', D', o⟩
  refine ⟨⟨g, rfl⟩, h.opened hB ht hat hl o, o.kept.mono (fun k _ hS => ?_)⟩
  rcases hS with e | e
  · have := hl.L; omega
  · exact (hl.r k e).1
end
end Go.Proofs.Qxb6002388a
