/- slices.SortFunc (25) of balances: the shelf's contract laid at this dump (in plain words), turned to rows of pairs. -/
import Derived.Shelf.SlSortCmp.NoneTotal
import Derived.Shelf.SlicesQ.Reverse
import Derived.Ground.SlsfProg
import Derived.Test.Qxb6002388aCmp
import Derived.Test.Qxb6002388aPairs
import Derived.Sort.OwnSorted
set_option maxRecDepth 100000
namespace Go.Proofs.Qxb6002388a
open Go.RowKit Go.Maps Go.Sort Go.Shelf Go.Proofs
set_option linter.unusedVariables false

def Lay.sort25_ren : Go.Shelf.Ren := ⟨fun | 6 => 25 | 15 => 41 | 14 => 40 | 28 => 53 | 29 => 54 | 20 => 45 | 21 => 46 | 22 => 47 | 23 => 48 | 24 => 49 | 25 => 50 | 26 => 51 | 27 => 52 | 46 => 65 | 47 => 66 | 48 => 67 | 49 => 68 | 50 => 69 | 57 => 74 | n => n, fun | 22 => 33 | 24 => 40 | 25 => 64 | 3 => 3 | 39 => 75 | 0 => 0 | 53 => 88 | 55 => 90 | 4 => 4 | 46 => 81 | 45 => 80 | 50 => 85 | 5 => 5 | 9 => 9 | 66 => 97 | 70 => 101 | 76 => 105 | 77 => 106 | n => n, fun | n => n⟩
theorem Lay.sort25 : Go.Proofs.SlLaysF0.n6 Try.prog Lay.sort25_ren := {
  mixed := by kernel_rfl
  f6 := ⟨Try.f25.name, by decide, Try.func25.trans (congrArg some (by kernel_rfl))⟩
  f14 := ⟨Try.f40.name, by decide, Try.func40.trans (congrArg some (by kernel_rfl))⟩
  f15 := Try.func41.trans (congrArg some (by kernel_rfl))
  f20 := ⟨Try.f45.name, by decide, Try.func45.trans (congrArg some (by kernel_rfl))⟩
  f21 := ⟨Try.f46.name, by decide, Try.func46.trans (congrArg some (by kernel_rfl))⟩
  f22 := ⟨Try.f47.name, by decide, Try.func47.trans (congrArg some (by kernel_rfl))⟩
  f23 := ⟨Try.f48.name, by decide, Try.func48.trans (congrArg some (by kernel_rfl))⟩
  f24 := ⟨Try.f49.name, by decide, Try.func49.trans (congrArg some (by kernel_rfl))⟩
  f25 := ⟨Try.f50.name, by decide, Try.func50.trans (congrArg some (by kernel_rfl))⟩
  f26 := ⟨Try.f51.name, by decide, Try.func51.trans (congrArg some (by kernel_rfl))⟩
  f27 := ⟨Try.f52.name, by decide, Try.func52.trans (congrArg some (by kernel_rfl))⟩
  f28 := Try.func53.trans (congrArg some (by kernel_rfl))
  f29 := Try.func54.trans (congrArg some (by kernel_rfl))
  f46 := ⟨Try.f65.name, by decide, Try.func65.trans (congrArg some (by kernel_rfl))⟩
  f47 := Try.func66.trans (congrArg some (by kernel_rfl))
  f48 := Try.func67.trans (congrArg some (by kernel_rfl))
  f49 := ⟨Try.f68.name, by decide, Try.func68.trans (congrArg some (by kernel_rfl))⟩
  f50 := ⟨Try.f69.name, by decide, Try.func69.trans (congrArg some (by kernel_rfl))⟩
  f57 := ⟨Try.f74.name, by decide, Try.func74.trans (congrArg some (by kernel_rfl))⟩
  t0 := Try.underlying0
  a0 := Try.isAgg0
  z0 := Try.sizeOf0
  v0 := Try.zeroValue0
  t3 := Try.underlying3
  a3 := Try.isAgg3
  z3 := Try.sizeOf3
  v3 := Try.zeroValue3
  t4 := Try.underlying4
  a4 := Try.isAgg4
  z4 := Try.sizeOf4
  v4 := Try.zeroValue4
  t5 := Try.underlying5
  a5 := Try.isAgg5
  z5 := Try.sizeOf5
  v5 := Try.zeroValue5
  t9 := Try.underlying9
  a9 := Try.isAgg9
  z9 := Try.sizeOf9
  v9 := Try.zeroValue9
  t22 := Try.underlying33
  a22 := Try.isAgg33
  z22 := Try.sizeOf33
  v22 := Try.zeroValue33
  t25 := Try.underlying64
  a25 := Try.isAgg64
  z25 := Try.sizeOf64
  v25 := Try.zeroValue64
  t39 := Try.underlying75
  a39 := Try.isAgg75
  z39 := Try.sizeOf75
  v39 := Try.zeroValue75
  t45 := Try.underlying80
  a45 := Try.isAgg80
  z45 := Try.sizeOf80
  v45 := Try.zeroValue80
  t46 := Try.underlying81
  a46 := Try.isAgg81
  z46 := Try.sizeOf81
  v46 := Try.zeroValue81
  t50 := Try.underlying85
  a50 := Try.isAgg85
  z50 := Try.sizeOf85
  v50 := Try.zeroValue85
  t53 := Try.underlying88
  a53 := Try.isAgg88
  z53 := Try.sizeOf88
  v53 := Try.zeroValue88
  t55 := Try.underlying90
  a55 := Try.isAgg90
  z55 := Try.sizeOf90
  v55 := Try.zeroValue90
  t66 := Try.underlying97
  a66 := Try.isAgg97
  z66 := Try.sizeOf97
  v66 := Try.zeroValue97
  t70 := Try.underlying101
  a70 := Try.isAgg101
  z70 := Try.sizeOf101
  v70 := Try.zeroValue101
  t76 := Try.underlying105
  a76 := Try.isAgg105
  z76 := Try.sizeOf105
  v76 := Try.zeroValue105
  t77 := Try.underlying106
  a77 := Try.isAgg106
  z77 := Try.sizeOf106
  v77 := Try.zeroValue106 }

/-- the cells of the balance of a pair (token, account) -/
def encB (p : Pr) : List Value := (bal p.2 p.1).toList
theorem encB_len (p : Pr) : (encB p).length = 8 := rfl
theorem encB_one (p : Pr) : ∀ v ∈ encB p, v.oneCell' = true := fun v hv => by
  simp [encB, bal] at hv
  rcases hv with rfl | rfl | rfl | rfl | rfl | rfl <;> rfl
/-- what the closure says of two pairs -/
def cp (p q : Pr) : Int := cf (p.2, p.1) (q.2, q.1)

theorem cmpLays26 (blk off size : Nat) (w : World) : CmpLays Try.prog 26 #[] encB 8 cp blk off size w :=
  fun _ _ _ _ x y => closure_any (x.2, x.1) (y.2, y.1) _

theorem cb_neg : ∀ (a b : List UInt8), Lib.compareBytes a b < 0 ↔ a < b
  | [], [] => by simp [Lib.compareBytes]
  | [], _ :: _ => by simp [Lib.compareBytes]
  | _ :: _, [] => by simp [Lib.compareBytes]
  | a :: s, b :: t => by
    unfold Lib.compareBytes
    have ih := cb_neg s t
    rw [List.cons_lt_cons_iff]
    by_cases h1 : a < b
    · simp [h1]
    · by_cases h2 : b < a
      · rw [if_neg h1, if_pos h2]
        simp only [h1, false_or]
        constructor
        · intro h; omega
        · rintro ⟨e, _⟩; subst e; exact absurd h2 h1
      · have e : a = b := by
          rcases Nat.lt_trichotomy a.toNat b.toNat with h | h | h
          · exact absurd (UInt8.lt_iff_toNat_lt.2 h) h1
          · exact UInt8.toNat_inj.1 h
          · exact absurd (UInt8.lt_iff_toNat_lt.2 h) h2
        rw [if_neg h1, if_neg h2, ih]
        simp [e]
theorem cb_zero : ∀ (a b : List UInt8), Lib.compareBytes a b = 0 ↔ a = b
  | [], [] => by simp [Lib.compareBytes]
  | [], _ :: _ => by simp [Lib.compareBytes]
  | _ :: _, [] => by simp [Lib.compareBytes]
  | a :: s, b :: t => by
    unfold Lib.compareBytes
    have ih := cb_zero s t
    by_cases h1 : a < b
    · rw [if_pos h1]
      constructor
      · intro h; omega
      · intro h; injection h with e _; subst e; exact absurd h1 (UInt8.lt_irrefl _)
    · by_cases h2 : b < a
      · rw [if_neg h1, if_pos h2]
        constructor
        · intro h; omega
        · intro h; injection h with e _; subst e; exact absurd h2 h1
      · have e : a = b := by
          rcases Nat.lt_trichotomy a.toNat b.toNat with h | h | h
          · exact absurd (UInt8.lt_iff_toNat_lt.2 h) h1
          · exact UInt8.toNat_inj.1 h
          · exact absurd (UInt8.lt_iff_toNat_lt.2 h) h2
        rw [if_neg h1, if_neg h2, ih]
        simp [e]
/-- the closure's order -/
theorem cp_lt (p q : Pr) : ltOf cp p q = true ↔ (ac p < ac q ∨ (ac p = ac q ∧ tk p < tk q)) := by
  unfold ltOf cp cf orI
  rw [decide_eq_true_eq]
  show (if Lib.compareBytes (ac p) (ac q) = 0 then Lib.compareBytes (tk p) (tk q) else Lib.compareBytes (ac p) (ac q)) < 0 ↔ _
  by_cases h : ac p = ac q
  · rw [if_pos ((cb_zero _ _).2 h), cb_neg]
    constructor
    · exact fun h' => .inr ⟨h, h'⟩
    · rintro (h' | h')
      · rw [h] at h'; exact absurd h' (List.lt_irrefl _)
      · exact h'.2
  · rw [if_neg (fun e => h ((cb_zero _ _).1 e)), cb_neg]
    exact ⟨.inl, fun h' => h'.elim id (fun h'' => absurd h''.1 h)⟩
theorem cp_total (p q : Pr) : ltOf cp p q = true ∨ p = q ∨ ltOf cp q p = true := by
  rw [cp_lt, cp_lt]
  rcases tri (ac p) (ac q) with h | h | h
  · exact .inl (.inl h)
  · rcases tri (tk p) (tk q) with h' | h' | h'
    · exact .inl (.inr ⟨h, h'⟩)
    · exact .inr (.inl (pr_ext h' h))
    · exact .inr (.inr (.inr ⟨h.symm, h'⟩))
  · exact .inr (.inr (.inl h))
theorem cp_trans {p q r : Pr} (h : ltOf cp p q = true) (h2 : ltOf cp q r = true) : ltOf cp p r = true := by
  rw [cp_lt] at *
  rcases h with b | ⟨b, b'⟩ <;> rcases h2 with d | ⟨d, d'⟩
  · exact .inl (List.lt_trans b d)
  · rw [d] at b; exact .inl b
  · rw [← b] at d; exact .inl d
  · exact .inr ⟨b.trans d, List.lt_trans b' d'⟩
theorem cp_irrefl (p : Pr) : ltOf cp p p = false := by
  cases h : ltOf cp p p with
  | false => rfl
  | true =>
    rw [cp_lt] at h
    rcases h with h | ⟨_, h⟩ <;> exact absurd h (List.lt_irrefl _)
theorem cp_swo : SWO (ltOf cp) where
  irrefl := cp_irrefl
  trans x y z h1 h2 := cp_trans h1 h2
  ntrans x y z h1 h2 := by
    cases h : ltOf cp x z with
    | false => rfl
    | true =>
      rcases cp_total x y with e | e | e
      · rw [e] at h1; cases h1
      · rw [e] at h; rw [h] at h2; cases h2
      · rw [cp_trans e h] at h2; cases h2
theorem cp_eq (x y : Pr) (h1 : ltOf cp x y = false) (h2 : ltOf cp y x = false) : x = y := by
  rcases cp_total x y with e | e | e
  · rw [e] at h1; cases h1
  · exact e
  · rw [e] at h2; cases h2

theorem sort_rows (g cap : Nat) (d : Array Pr) (w : World) (hH : HoldsK encB 8 w g 0 d) (hg : g < w.heap.size) (hd : d.size ≤ 4096) :
    Calls Try.prog 25 #[.slice (some ⟨g, 0, none⟩) d.size cap, .func (.func 26) #[] #[]] w fun e w' => e = .returned (.tuple #[]) ∧ ∃ n os, w' = sortWorldK encB 8 w g 0 n (d.toList.mergeSort fun x y => !(ltOf cp) y x).toArray os := by
  have eg : ∀ args w, (callFunc 26 args).run Try.prog w = .ok (.enter 26 args) w := enters_of Try.func26 (by kernel_rfl) rfl
  exact AnyQ.slices_SortFunc_total Lay.sort25 8 Try.isAgg40 Try.sizeOf40 encB encB_len encB_one cp cp_swo 26 #[] g 0 cap d w eg (cmpLays26 g 0 d.size w) hH hg (by omega) cp_eq
theorem sort_none (p : Option Addr) (cap : Nat) (w : World) :
    Calls Try.prog 25 #[.slice p 0 cap, .func (.func 26) #[] #[]] w fun e w' => e = .returned (.tuple #[]) ∧ w' = w :=
  AnyF.slices_SortFunc_none Lay.sort25 p cap _ w
end Go.Proofs.Qxb6002388a
