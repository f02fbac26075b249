/- g1Script (16): the contract. -/
import Derived.Test.Qxb6002388aBk
namespace Go.Proofs.Qxb6002388a
open Go.RowKit Go.Maps Go.Proofs
set_option linter.unusedVariables false
set_option maxRecDepth 100000

/-- the pairs noted so far -/
def PP (m : Nat) (f : Nat → Pr) (p : Pr) : Prop := ∃ i, i < m ∧ f i = p

/-- the script, part way -/
structure Scr (K B X Y N : Nat) (w0 w : World) (m : Nat) (f : Nat → Pr) : Prop where
  bk : ∃ rB nB DB, Bk K B N w rB nB DB (PP m f)
  row : Rows2 w X Y f
  inj : ∀ i j, i < m → j < m → f i = f j → i = j
  bel : Below K w0 w
  sz : B ≤ w.heap.size

/-- where the blocks lie -/
structure Where (K B X Y : Nat) : Prop where
  kx : K < X
  xy : X < Y
  yb : Y < B

theorem Rows2.keep {w w' : World} {X Y : Nat} {f : Nat → Pr} {S : Nat → Prop} (h : Rows2 w X Y f) (hk : Kept S w w') (h1 : ¬ S X) (h2 : ¬ S Y) : Rows2 w' X Y f :=
  ⟨h.x.of_block (hk.block X h.x.lt h1), h.y.of_block (hk.block Y h.y.lt h2)⟩

theorem Bk.congr {K B N : Nat} {w : World} {rB : Option Nat} {nB : Nat} {DB : DataW Unit} {P P' : Pr → Prop} (h : Bk K B N w rB nB DB P) (hP : ∀ p, P p ↔ P' p) : Bk K B N w rB nB DB P' := by
  refine ⟨h.hd, h.mp, fun t ht => ?_, fun p hp => h.all p ((hP p).2 hp), h.nb⟩
  obtain ⟨L, r, n, D, ha, hl⟩ := h.led t ht
  exact ⟨L, r, n, D, ha, hl.led, hl.L, hl.n, hl.r, fun s => (hl.has s).trans (hP _)⟩

/-- f with p at place m -/
def pushed (f : Nat → Pr) (m : Nat) (p : Pr) (i : Nat) : Pr := if i = m then p else f i
theorem pp_pushed (m : Nat) (f : Nat → Pr) (p q : Pr) : PP (m + 1) (pushed f m p) q ↔ PP m f q ∨ q = p := by
  constructor
  · rintro ⟨i, hi, e⟩
    unfold pushed at e
    by_cases h : i = m
    · rw [if_pos h] at e; exact .inr e.symm
    · rw [if_neg h] at e; exact .inl ⟨i, by omega, e⟩
  · rintro (⟨i, hi, e⟩ | e)
    · exact ⟨i, by omega, by unfold pushed; rw [if_neg (by omega)]; exact e⟩
    · exact ⟨m, by omega, by unfold pushed; rw [if_pos rfl]; exact e.symm⟩
theorem inj_pushed {m : Nat} {f : Nat → Pr} {p : Pr} (h : ∀ i j, i < m → j < m → f i = f j → i = j) (hno : ¬ PP m f p) : ∀ i j, i < m + 1 → j < m + 1 → pushed f m p i = pushed f m p j → i = j := by
  intro i j hi hj e
  unfold pushed at e
  by_cases h1 : i = m <;> by_cases h2 : j = m
  · omega
  · rw [if_pos h1, if_neg h2] at e; exact absurd ⟨j, by omega, e.symm⟩ hno
  · rw [if_neg h1, if_pos h2] at e; exact absurd ⟨i, by omega, e⟩ hno
  · rw [if_neg h1, if_neg h2] at e; exact h i j (by omega) (by omega) e
theorem rows_pushed {w : World} {X Y m : Nat} {f : Nat → Pr} (h : Rows2 w X Y f) (hXY : X ≠ Y) (t a : ByteArray) : Rows2 ((w.setCell ⟨X, m, none⟩ (.string t)).setCell ⟨Y, m, none⟩ (.string a)) X Y (pushed f m (t, a)) := by
  refine ⟨World.rowIs.setOther (World.rowIs.congr (World.rowIs.set h.x _ _) (fun i hi => ?_)) (by exact hXY) _, World.rowIs.congr (World.rowIs.set (World.rowIs.setOther h.y (by exact fun e => hXY e.symm) _) _ _) (fun i hi => ?_)⟩
  · show (if i = m then Value.string t else Value.string (f i).1) = Value.string (pushed f m (t, a) i).1
    unfold pushed
    by_cases e : i = m
    · rw [if_pos e, if_pos e]
    · rw [if_neg e, if_neg e]
  · show (if i = m then Value.string a else Value.string (f i).2) = Value.string (pushed f m (t, a) i).2
    unfold pushed
    by_cases e : i = m
    · rw [if_pos e, if_pos e]
    · rw [if_neg e, if_neg e]

/-- the pairs as two lists of strings -/
def fstL (f : Nat → Pr) : List ByteArray := (List.range 64).map fun i => (f i).1
def sndL (f : Nat → Pr) : List ByteArray := (List.range 64).map fun i => (f i).2
theorem fstL_at (f : Nat → Pr) (i : Nat) (h : i < 64) : st (fstL f) i = (f i).1 := by simp [st, fstL, h]
theorem sndL_at (f : Nat → Pr) (i : Nat) (h : i < 64) : st (sndL f) i = (f i).2 := by simp [st, sndL, h]
theorem inP_pp {m : Nat} {f : Nat → Pr} (hm : m ≤ 64) (t a : ByteArray) : inP (fstL f) (sndL f) m t a = true ↔ PP m f (t, a) := by
  rw [inP_iff]
  constructor
  · rintro ⟨i, hi, h1, h2⟩
    rw [fstL_at f i (by omega)] at h1
    rw [sndL_at f i (by omega)] at h2
    exact ⟨i, hi, by rw [← h1, ← h2]⟩
  · rintro ⟨i, hi, e⟩
    exact ⟨i, hi, by rw [fstL_at f i (by omega), e], by rw [sndL_at f i (by omega), e]⟩
theorem has_pair_pp {w : World} {X Y m : Nat} {f : Nat → Pr} (h : Rows2 w X Y f) (hm : m ≤ 64) (t a : ByteArray) (r : Bool) (hr : inP (fstL f) (sndL f) m t a = r) (q : Nat) :
    Calls Try.prog 24 #[.slice (some ⟨X, 0, none⟩) m 64, .slice (some ⟨Y, 0, none⟩) m 64, .string t, .string a] (w.drewN q) fun e w' => e = .returned (.bool r) ∧ w' = w.drewN q := by
  have := g1_has_pair X Y m 64 64 (fstL f) (sndL f) t a (w.drewN q) (by omega) (fun i hi => by rw [fstL_at f i (by omega)]; exact h.x.cell (i := i) (by omega)) (fun i hi => by rw [sndL_at f i (by omega)]; exact h.y.cell (i := i) (by omega))
  rw [hr] at this
  exact this

section
variable {K B X Y N : Nat} {w0 w w1 w2 : World} {m : Nat} {f : Nat → Pr}

/-- behind one opening, the pair not yet noted -/
structure Mid (K B X Y N : Nat) (w0 w : World) (m : Nat) (f : Nat → Pr) (t a : ByteArray) : Prop where
  bk : ∃ rB nB DB, Bk K B N w rB nB DB (fun p => PP m f p ∨ p = (t, a))
  row : Rows2 w X Y f
  inj : ∀ i j, i < m → j < m → f i = f j → i = j
  bel : Below K w0 w
  sz : B ≤ w.heap.size

theorem Scr.mid {t a : ByteArray} {L : Nat} (hW : Where K B X Y) (h : Scr K B X Y N w0 w m f) (o : Asked K B (N + 1) w w1 t L (PP m f)) {rB : Option Nat} {nB : Nat} {DB : DataW Unit} (hb : Bk K B (N + 1 + 1) w2 rB nB DB (fun p => PP m f p ∨ p = (t, a))) (hk : Kept (fun k => B ≤ k) w1 w2) :
    Mid K B X Y (N + 2) w0 w2 m f t a := by
  have h1 := hW.kx; have h2 := hW.xy; have h3 := hW.yb
  have hs := h.sz; have hs1 := o.kept.size; have hs2 := hk.size
  refine ⟨⟨rB, nB, DB, hb⟩, (h.row.keep o.kept (by omega) (by omega)).keep hk (by omega) (by omega), h.inj, ?_, by omega⟩
  refine h.bel.trans ?_
  refine ⟨hk.os.trans o.kept.os, hk.tape.trans o.kept.tape, hk.output.trans o.kept.output, by omega, fun k hk' => (hk.block k (by omega) (by omega)).trans (o.kept.block k (by omega) (by omega))⟩

theorem Mid.old {t a : ByteArray} (h : Mid K B X Y N w0 w m f t a) (hin : PP m f (t, a)) (q : Nat) : Scr K B X Y N w0 (w.drewN q) m f := by
  obtain ⟨rB, nB, DB, hb⟩ := h.bk
  refine ⟨⟨rB, nB, DB, (hb.congr (fun p => ⟨fun h' => h'.elim id (fun e => by rw [e]; exact hin), .inl⟩)).kept (S := fun _ => False) ⟨rfl, rfl, rfl, Nat.le_refl _, fun _ _ _ => rfl⟩ (fun _ h => h.elim) (fun _ _ _ => id)⟩, ⟨h.row.x, h.row.y⟩, h.inj, below_drewN h.bel q, h.sz⟩
theorem Mid.new {t a : ByteArray} (hW : Where K B X Y) (h : Mid K B X Y N w0 w m f t a) (hno : ¬ PP m f (t, a)) (q : Nat) : Scr K B X Y N w0 (((w.drewN q).setCell ⟨X, m, none⟩ (.string t)).setCell ⟨Y, m, none⟩ (.string a)) (m + 1) (pushed f m (t, a)) := by
  have h1 := hW.kx; have h2 := hW.xy; have h3 := hW.yb
  obtain ⟨rB, nB, DB, hb⟩ := h.bk
  have hk : Kept (fun k => k = X ∨ k = Y) w (((w.drewN q).setCell ⟨X, m, none⟩ (.string t)).setCell ⟨Y, m, none⟩ (.string a)) := (((Kept.refl _ w).drewN q).setCell _ _ (.inl rfl)).setCell _ _ (.inr rfl)
  have hx := h.row.x
  have hy := h.row.y
  refine ⟨⟨rB, nB, DB, (hb.congr (fun p => (pp_pushed m f (t, a) p).symm)).kept hk (fun k hk => by rcases hk with e | e <;> omega) (fun g cs hg e => ?_)⟩, rows_pushed (w := w.drewN q) ⟨h.row.x, h.row.y⟩ (by omega) t a, inj_pushed h.inj hno, h.bel.trans ?_, by simpa using h.sz⟩
  · rcases e with e | e
    · subst e
      obtain ⟨c, hc, _⟩ := hx
      have := hc.symm.trans hg
      simp at this
    · subst e
      obtain ⟨c, hc, _⟩ := hy
      have := hc.symm.trans hg
      simp at this
  · have hs := h.sz
    exact hk.below K (by omega) (fun k _ e => by rcases e with e | e <;> omega)
end
end Go.Proofs.Qxb6002388a
