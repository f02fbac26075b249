/- g1SortPairs (18). -/
import Derived.Test.Qxb6002388aMisc
import Derived.Test.Qxb6002388aLed
import Derived.Sort.Walk0
import Derived.BigQuiet
import Derived.Deep.QuietTactic
namespace Go.Proofs.Qxb6002388a
open Go.RowKit
set_option linter.unusedVariables false

abbrev Pr := ByteArray × ByteArray
/-- g1PairLess of two pairs (token, account) -/
def pl (p q : Pr) : Bool := plB p.1 p.2 q.1 q.2

abbrev tk (p : Pr) : List UInt8 := p.1.data.toList
abbrev ac (p : Pr) : List UInt8 := p.2.data.toList
theorem tri (a b : List UInt8) : a < b ∨ a = b ∨ b < a := by
  by_cases h1 : a < b
  · exact .inl h1
  · by_cases h2 : b < a
    · exact .inr (.inr h2)
    · exact .inr (.inl (List.le_antisymm (List.not_lt.1 h2) (List.not_lt.1 h1)))
theorem pr_ext {p q : Pr} (h1 : tk p = tk q) (h2 : ac p = ac q) : p = q := by
  obtain ⟨⟨⟨a⟩⟩, ⟨⟨b⟩⟩⟩ := p
  obtain ⟨⟨⟨c⟩⟩, ⟨⟨d⟩⟩⟩ := q
  simp at h1 h2
  rw [h1, h2]
theorem pl_iff (p q : Pr) : pl p q = true ↔ (tk p = [] ∧ tk q ≠ []) ∨ ((tk p = [] ↔ tk q = []) ∧ (ac p < ac q ∨ (ac p = ac q ∧ tk p < tk q))) := by
  unfold pl plB
  simp only [ByteArray.toList_eq, Go.Proofs.bytesLess_eq]
  show _ ↔ (p.1.data.toList = [] ∧ q.1.data.toList ≠ []) ∨ ((p.1.data.toList = [] ↔ q.1.data.toList = []) ∧ (p.2.data.toList < q.2.data.toList ∨ (p.2.data.toList = q.2.data.toList ∧ p.1.data.toList < q.1.data.toList)))
  generalize p.1.data.toList = T
  generalize q.1.data.toList = T'
  generalize p.2.data.toList = A
  generalize q.2.data.toList = A'
  cases T <;> cases T' <;> by_cases h3 : A = A' <;> simp [h3, List.lt_irrefl]
theorem pl_asymm {p q : Pr} (h : pl p q = true) : pl q p = false := by
  cases h2 : pl q p with
  | false => rfl
  | true =>
    rw [pl_iff] at h h2
    exfalso
    rcases h with ⟨a, b⟩ | ⟨a, b⟩ <;> rcases h2 with ⟨c, d⟩ | ⟨c, d⟩
    · exact b c
    · exact b (c.2 a)
    · exact d (a.2 c)
    · rcases b with b | ⟨b, b'⟩ <;> rcases d with d | ⟨d, d'⟩
      · exact List.lt_asymm b d
      · rw [d] at b; exact List.lt_irrefl _ b
      · rw [b] at d; exact List.lt_irrefl _ d
      · exact List.lt_asymm b' d'
theorem pl_trans {p q r : Pr} (h : pl p q = true) (h2 : pl q r = true) : pl p r = true := by
  rw [pl_iff] at h h2 ⊢
  rcases h with ⟨a, b⟩ | ⟨a, b⟩ <;> rcases h2 with ⟨c, d⟩ | ⟨c, d⟩
  · exact absurd c b
  · exact .inl ⟨a, fun e => b (c.2 e)⟩
  · exact .inl ⟨a.2 c, d⟩
  · refine .inr ⟨a.trans c, ?_⟩
    rcases b with b | ⟨b, b'⟩ <;> rcases d with d | ⟨d, d'⟩
    · exact .inl (List.lt_trans b d)
    · rw [d] at b; exact .inl b
    · rw [← b] at d; exact .inl d
    · exact .inr ⟨b.trans d, List.lt_trans b' d'⟩
theorem pl_total (p q : Pr) : pl p q = true ∨ p = q ∨ pl q p = true := by
  rw [pl_iff, pl_iff]
  by_cases h1 : tk p = [] <;> by_cases h2 : tk q = []
  · rcases tri (ac p) (ac q) with h | h | h
    · exact .inl (.inr ⟨⟨fun _ => h2, fun _ => h1⟩, .inl h⟩)
    · exact .inr (.inl (pr_ext (h1.trans h2.symm) h))
    · exact .inr (.inr (.inr ⟨⟨fun _ => h1, fun _ => h2⟩, .inl h⟩))
  · exact .inl (.inl ⟨h1, h2⟩)
  · exact .inr (.inr (.inl ⟨h2, h1⟩))
  · have e1 : tk p = [] ↔ tk q = [] := ⟨fun h => absurd h h1, fun h => absurd h h2⟩
    rcases tri (ac p) (ac q) with h | h | h
    · exact .inl (.inr ⟨e1, .inl h⟩)
    · rcases tri (tk p) (tk q) with h' | h' | h'
      · exact .inl (.inr ⟨e1, .inr ⟨h, h'⟩⟩)
      · exact .inr (.inl (pr_ext h' h))
      · exact .inr (.inr (.inr ⟨e1.symm, .inr ⟨h.symm, h'⟩⟩))
    · exact .inr (.inr (.inr ⟨e1.symm, .inl h⟩))
theorem pl_ge {a b c : Pr} (h1 : pl b a = false) (h2 : pl c b = false) : pl c a = false := by
  cases h : pl c a with
  | false => rfl
  | true =>
    rcases pl_total a b with e | e | e
    · rw [pl_trans h e] at h2; cases h2
    · rw [e] at h; rw [h] at h2; cases h2
    · rw [e] at h1; cases h1

/-- the row of pairs, as two rows of strings -/
structure Rows2 (w : World) (X Y : Nat) (f : Nat → Pr) : Prop where
  x : w.rowIs X 46 64 (fun i => .string (f i).1)
  y : w.rowIs Y 46 64 (fun i => .string (f i).2)

/-- the same pairs in another order -/
structure Same (m : Nat) (f g : Nat → Pr) : Prop where
  to : ∀ i, i < m → ∃ j, j < m ∧ g j = f i
  of : ∀ i, i < m → ∃ j, j < m ∧ f j = g i
  inj : (∀ i j, i < m → j < m → f i = f j → i = j) → ∀ i j, i < m → j < m → g i = g j → i = j
  out : ∀ i, m ≤ i → g i = f i
theorem Same.refl (m : Nat) (f : Nat → Pr) : Same m f f := ⟨fun i hi => ⟨i, hi, rfl⟩, fun i hi => ⟨i, hi, rfl⟩, fun h => h, fun _ _ => rfl⟩
theorem Same.trans {m : Nat} {f g h : Nat → Pr} (a : Same m f g) (b : Same m g h) : Same m f h :=
  ⟨fun i hi => by obtain ⟨j, hj, e⟩ := a.to i hi; obtain ⟨k, hk, e'⟩ := b.to j hj; exact ⟨k, hk, e'.trans e⟩,
   fun i hi => by obtain ⟨j, hj, e⟩ := b.of i hi; obtain ⟨k, hk, e'⟩ := a.of j hj; exact ⟨k, hk, e'.trans e⟩,
   fun hi => b.inj (a.inj hi), fun i hi => (b.out i hi).trans (a.out i hi)⟩

/-- the two at j and j + 1 exchanged -/
def swp (f : Nat → Pr) (j i : Nat) : Pr := if i = j then f (j + 1) else if i = j + 1 then f j else f i
theorem swp_same (m : Nat) (f : Nat → Pr) (j : Nat) (h : j + 1 < m) : Same m f (swp f j) := by
  have a0 : swp f j j = f (j + 1) := by simp [swp]
  have a1 : swp f j (j + 1) = f j := by simp [swp]
  have a2 : ∀ i, i ≠ j → i ≠ j + 1 → swp f j i = f i := fun i h1 h2 => by simp [swp, h1, h2]
  have key : ∀ i, ∃ k, swp f j i = f k ∧ f i = swp f j k ∧ (i < m → k < m) ∧ (i = j ∧ k = j + 1 ∨ i = j + 1 ∧ k = j ∨ i ≠ j ∧ i ≠ j + 1 ∧ k = i) := by
    intro i
    by_cases e1 : i = j
    · subst e1; exact ⟨i + 1, a0, a1.symm, fun _ => h, .inl ⟨rfl, rfl⟩⟩
    · by_cases e2 : i = j + 1
      · subst e2; exact ⟨j, a1, a0.symm, fun _ => by omega, .inr (.inl ⟨rfl, rfl⟩)⟩
      · exact ⟨i, a2 i e1 e2, (a2 i e1 e2).symm, id, .inr (.inr ⟨e1, e2, rfl⟩)⟩
  refine ⟨fun i hi => ?_, fun i hi => ?_, fun hin x y hx hy e => ?_, fun i hi => a2 i (by omega) (by omega)⟩
  · obtain ⟨k, _, h2, h3, _⟩ := key i; exact ⟨k, h3 hi, h2.symm⟩
  · obtain ⟨k, h1, _, h3, _⟩ := key i; exact ⟨k, h3 hi, h1.symm⟩
  · obtain ⟨k, h1, _, h3, h4⟩ := key x
    obtain ⟨k', h1', _, h3', h4'⟩ := key y
    rw [h1, h1'] at e
    have := hin k k' (h3 hx) (h3' hy) e
    omega

/-- in order up to i, but for what stands at j -/
def Ord (f : Nat → Pr) (i j : Nat) : Prop := ∀ x y, x < y → y ≤ i → y ≠ j → pl (f y) (f x) = false
theorem Ord.swp {f : Nat → Pr} {i j : Nat} (h : Ord f i (j + 1)) (hj : j + 1 ≤ i) (hl : pl (f (j + 1)) (f j) = true) : Ord (swp f j) i j := by
  intro x y hxy hy hne
  have a0 : Qxb6002388a.swp f j j = f (j + 1) := by simp [Qxb6002388a.swp]
  have a1 : Qxb6002388a.swp f j (j + 1) = f j := by simp [Qxb6002388a.swp]
  have a2 : ∀ i, i ≠ j → i ≠ j + 1 → Qxb6002388a.swp f j i = f i := fun i h1 h2 => by simp [Qxb6002388a.swp, h1, h2]
  by_cases ey : y = j + 1
  · subst ey
    rw [a1]
    by_cases ex : x = j
    · subst ex; rw [a0]; exact pl_asymm hl
    · rw [a2 x ex (by omega)]; exact h x j (by omega) (by omega) (by omega)
  · rw [a2 y hne ey]
    by_cases ex : x = j
    · subst ex; rw [a0]; exact h (x + 1) y (by omega) hy ey
    · by_cases ex2 : x = j + 1
      · subst ex2; rw [a1]; exact h j y (by omega) hy ey
      · rw [a2 x ex ex2]; exact h x y hxy hy ey
/-- in order up to i -/
def OrdTo (f : Nat → Pr) (i : Nat) : Prop := ∀ x y, x < y → y < i → pl (f y) (f x) = false
theorem OrdTo.start {f : Nat → Pr} {i : Nat} (h : OrdTo f i) : Ord f i i := fun x y hxy hy hne => h x y hxy (by omega)
theorem Ord.zero {f : Nat → Pr} {i : Nat} (h : Ord f i 0) : OrdTo f (i + 1) := fun x y hxy hy => h x y hxy (by omega) (by omega)
theorem Ord.stop {f : Nat → Pr} {i j : Nat} (h : Ord f i (j + 1)) (hl : pl (f (j + 1)) (f j) = false) (hji : j + 1 ≤ i) : OrdTo f (i + 1) := by
  intro x y hxy hy
  by_cases e : y = j + 1
  · subst e
    by_cases e2 : x = j
    · subst e2; exact hl
    · exact pl_ge (h x j (by omega) (by omega) (by omega)) hl
  · exact h x y hxy (by omega) e

theorem Kept.setCell {S : Nat → Prop} {w w' : World} (h : Kept S w w') (p : Addr) (v : Value) (hp : S p.block) : Kept S w (w'.setCell p v) :=
  ⟨h.os, h.tape, h.output, Nat.le_trans h.size (by simp), fun k hk hS => (Deep.blk_setCell_other w' p v k (fun e => hS (by rw [e]; exact hp))).trans (h.block k hk hS)⟩
theorem Kept.drewN {S : Nat → Prop} {w w' : World} (h : Kept S w w') (q : Nat) : Kept S w (w'.drewN q) :=
  ⟨h.os, h.tape, h.output, h.size, h.block⟩

/-- what the sort does -/
structure Sorts (w w' : World) (X Y m : Nat) (f : Nat → Pr) : Prop where
  ex : ∃ f', Rows2 w' X Y f' ∧ Same m f f' ∧ OrdTo f' m
  kept : Kept (fun k => k = X ∨ k = Y) w w'

structure SortIn (w w' : World) (X Y m : Nat) (f f' : Nat → Pr) : Prop where
  row : Rows2 w' X Y f'
  same : Same m f f'
  kept : Kept (fun k => k = X ∨ k = Y) w w'

theorem SortIn.drewN {w w' : World} {X Y m : Nat} {f f' : Nat → Pr} (h : SortIn w w' X Y m f f') (q : Nat) : SortIn w (w'.drewN q) X Y m f f' :=
  ⟨⟨h.row.x, h.row.y⟩, h.same, h.kept.drewN q⟩
theorem SortIn.swp {w w' : World} {X Y m : Nat} {f f' : Nat → Pr} (h : SortIn w w' X Y m f f') (j : Nat) (hj : j + 1 < m) (hXY : X ≠ Y) :
    SortIn w ((((w'.setCell ⟨X, j + 1, none⟩ (.string (f' j).1)).setCell ⟨Y, j + 1, none⟩ (.string (f' j).2)).setCell ⟨X, j, none⟩ (.string (f' (j + 1)).1)).setCell ⟨Y, j, none⟩ (.string (f' (j + 1)).2)) X Y m f (Qxb6002388a.swp f' j) := by
  refine ⟨⟨?_, ?_⟩, h.same.trans (swp_same m f' j hj), (((h.kept.setCell _ _ (.inl rfl)).setCell _ _ (.inr rfl)).setCell _ _ (.inl rfl)).setCell _ _ (.inr rfl)⟩
  · refine World.rowIs.setOther (World.rowIs.congr (World.rowIs.set (World.rowIs.setOther (World.rowIs.set h.row.x _ _) (by exact hXY) _) _ _) (fun i hi => ?_)) (by exact hXY) _
    show (if i = j then Value.string (f' (j + 1)).1 else if i = j + 1 then Value.string (f' j).1 else Value.string (f' i).1) = Value.string (Qxb6002388a.swp f' j i).1
    unfold Qxb6002388a.swp
    by_cases e : i = j
    · rw [if_pos e, if_pos e]
    · rw [if_neg e, if_neg e]
      by_cases e2 : i = j + 1
      · rw [if_pos e2, if_pos e2]
      · rw [if_neg e2, if_neg e2]
  · refine World.rowIs.congr (World.rowIs.set (World.rowIs.setOther (World.rowIs.set (World.rowIs.setOther h.row.y (by exact fun e => hXY e.symm) _) _ _) (by exact fun e => hXY e.symm) _) _ _) (fun i hi => ?_)
    show (if i = j then Value.string (f' (j + 1)).2 else if i = j + 1 then Value.string (f' j).2 else Value.string (f' i).2) = Value.string (Qxb6002388a.swp f' j i).2
    unfold Qxb6002388a.swp
    by_cases e : i = j
    · rw [if_pos e, if_pos e]
    · rw [if_neg e, if_neg e]
      by_cases e2 : i = j + 1
      · rw [if_pos e2, if_pos e2]
      · rw [if_neg e2, if_neg e2]

set_option maxHeartbeats 1000000 in
theorem sort_pairs (X Y m : Nat) (f : Nat → Pr) (w : World) (hm : m ≤ 64) (hXY : X ≠ Y) (h : Rows2 w X Y f) :
    Calls Try.prog 18 #[.slice (some ⟨X, 0, none⟩) m 64, .slice (some ⟨Y, 0, none⟩) m 64] w fun e w' => e = .returned (.tuple #[]) ∧ Sorts w w' X Y m f := by
  have H := hidden h
  clear h
  go_enter Try.func18, Try.ntmps18
  go_wp2
  go_loopw [4, 5, 6, 7] (fun i _ _ _ wr => ∃ (k : Nat) (f' : Nat → Pr), 1 ≤ k ∧ (k ≤ m ∨ k = 1) ∧ i = .int .i64 k ∧ Hid (OrdTo f' k) ∧ Hid (SortIn w wr X Y m f f')) (fun i _ _ _ _ => m - (intOf i).toNat)
  case atStart => exact ⟨1, f, Nat.le_refl _, .inr rfl, rfl, fun x y hxy hy => by omega, ⟨H.out, Same.refl m f, Kept.refl _ _⟩⟩
  case round =>
    obtain ⟨k, f', hk1, hk, rfl, HO, HI⟩ := hrel
    by_cases hlt : k < m
    · obtain ⟨wo, hwo⟩ : ∃ wo : World, wo = wr := ⟨_, rfl⟩
      rw [← hwo]
      rw [← hwo] at HI
      clear hwo
      go_wp2
      go_loopw [5, 6, 7] (fun jv _ _ wr => ∃ (j : Nat) (f' : Nat → Pr), j ≤ k ∧ jv = .int .i64 j ∧ Hid (Ord f' k j) ∧ Hid (SortIn w wr X Y m f f')) (fun jv _ _ _ => (intOf jv).toNat)
      case atStart => exact ⟨k, f', Nat.le_refl _, rfl, HO.out.start, HI⟩
      case round =>
        clear HO HI
        obtain ⟨j, f', hj, rfl, HO, HI⟩ := hrel
        by_cases h0 : 0 < j
        · obtain ⟨y, rfl⟩ : ∃ y, j = y + 1 := ⟨j - 1, by omega⟩
          have x1 := HI.out.row.x.cell (i := y) (by omega)
          have x2 := HI.out.row.x.cell (i := y + 1) (by omega)
          have y1 := HI.out.row.y.cell (i := y) (by omega)
          have y2 := HI.out.row.y.cell (i := y + 1) (by omega)
          have fx := HI.out.row.x.frozen
          have fy := HI.out.row.y.frozen
          have HSW := hidden (fun h => HI.out.swp y h hXY)
          have hx1 : X < wr.heap.size := HI.out.row.x.lt
          have hy1 : Y < wr.heap.size := HI.out.row.y.lt
          have h00 : (0 : Int) < (y : Int) + 1 := by omega
          cases hp : pl (f' (y + 1)) (f' y) with
          | false =>
            have HOT := hidden (HO.out.stop hp hj)
            have HPL : Hid (∀ q, Calls Try.prog 29 #[.string (f' (y + 1)).1, .string (f' (y + 1)).2, .string (f' y).1, .string (f' y).2] (wr.drewN q) fun e w' => e = .returned (.bool false) ∧ w' = wr.drewN q) := fun q => by
              have h := pair_less (f' (y + 1)).1 (f' (y + 1)).2 (f' y).1 (f' y).2 (wr.drewN q)
              rw [show plB (f' (y + 1)).1 (f' (y + 1)).2 (f' y).1 (f' y).2 = false from hp] at h
              exact h
            have HII : Hid (∀ q, SortIn w (wr.drewN q) X Y m f f') := fun q => HI.out.drewN q
            clear HI HO hp
            generalize ea : (f' (y + 1)).1 = a1 at *
            generalize eb : (f' (y + 1)).2 = a2 at *
            generalize ec : (f' y).1 = a3 at *
            generalize ed : (f' y).2 = a4 at *
            clear ea eb ec ed HSW
            go_wp2
            go_quiet ((go_at_call 29; exact Calls.quiet_of_same (HPL.out _)))
            go_wp2
            exact ⟨⟨k + 1, f', by omega, .inl (by omega), by go_num, HOT, HII.out _⟩, by simp [intOf]; omega⟩
          | true =>
            have HOT := hidden (HO.out.swp hj hp)
            have HPL : Hid (∀ q, Calls Try.prog 29 #[.string (f' (y + 1)).1, .string (f' (y + 1)).2, .string (f' y).1, .string (f' y).2] (wr.drewN q) fun e w' => e = .returned (.bool true) ∧ w' = wr.drewN q) := fun q => by
              have h := pair_less (f' (y + 1)).1 (f' (y + 1)).2 (f' y).1 (f' y).2 (wr.drewN q)
              rw [show plB (f' (y + 1)).1 (f' (y + 1)).2 (f' y).1 (f' y).2 = true from hp] at h
              exact h
            have HSWq : Hid (∀ q, SortIn w (((((wr.drewN q).setCell ⟨X, y + 1, none⟩ (.string (f' y).1)).setCell ⟨Y, y + 1, none⟩ (.string (f' y).2)).setCell ⟨X, y, none⟩ (.string (f' (y + 1)).1)).setCell ⟨Y, y, none⟩ (.string (f' (y + 1)).2)) X Y m f (swp f' y)) := fun q => (HI.out.drewN q).swp y (by omega) hXY
            clear HI HO hp HSW
            have hYX : Y ≠ X := fun e => hXY e.symm
            generalize ea : (f' (y + 1)).1 = a1 at *
            generalize eb : (f' (y + 1)).2 = a2 at *
            generalize ec : (f' y).1 = a3 at *
            generalize ed : (f' y).2 = a4 at *
            clear ea eb ec ed
            go_wp2
            go_quiet ((go_at_call 29; exact Calls.quiet_of_same (HPL.out _)))
            go_wp2
            exact ⟨⟨y, swp f' y, by omega, by go_num, HOT, HSWq.out _⟩, by simp [intOf]⟩
        · obtain rfl : j = 0 := by omega
          go_wp2
          go_quiet (fail)
          go_wp2
          refine ⟨⟨k + 1, f', by omega, .inl (by omega), by go_num, HO.out.zero, HI.out.drewN _⟩, by simp [intOf]; omega⟩
    · go_wp2
      go_end0
      exact ⟨rfl, ⟨f', HI.out.row, HI.out.same, fun x y hxy hy => HO.out x y hxy (by omega)⟩, HI.out.kept⟩
end Go.Proofs.Qxb6002388a
