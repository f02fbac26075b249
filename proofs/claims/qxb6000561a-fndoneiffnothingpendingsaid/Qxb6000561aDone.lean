/- checkpointHeader.done (22): the contract. -/
import Derived.Test.Qxb6000561aProg
import Derived.WalkKit
import Derived.WalkLawsBesides
import Derived.WalkSpells
import Derived.Maps.RangeWalk
import Derived.Maps.Own
import Derived.Maps.OwnSet
import Derived.Laws.IdiomRangeMap
namespace Go.Proofs.Qxb6000561a
open Go.RowKit Go.Maps
set_option linter.unusedVariables false

theorem law45 : Keyed Try.prog 45 := int_keyed Try.underlying45

theorem bounds_u64' {n : Int} (h : (Lit.int .u64 n).wf = true) : 0 ≤ n := by
  simp [Lit.wf, IntKind.min, IntKind.max, IntKind.signed, IntKind.bits] at h
  omega
/-- every element of the map is nought -/
def AllNought (D : DataW Unit) : Prop := ∀ x : Int, Maps.has D (.int .u8 x) = true → ∀ zd, D.atKey (.int .u8 x) zd = .lit (.int .u64 0)
/-- some element is more than nought -/
def SomeMore (D : DataW Unit) : Prop := ∃ x c : Int, 0 < c ∧ Maps.has D (.int .u8 x) = true ∧ (∀ zd, D.atKey (.int .u8 x) zd = .lit (.int .u64 c))

set_option maxRecDepth 100000 in
theorem done_any (g b n : Nat) (D : DataW Unit) (w : World) (hm : w.cell? ⟨g, 1, none⟩ = some (.map (some b))) (hown : w.ownsMap Try.prog 45 (plainElem Try.prog 27) b n D) :
    Calls Try.prog 22 #[.pointer (some ⟨g, 0, none⟩)] w fun e w' => ((e = .returned (.bool true) ∧ AllNought D) ∨ (e = .returned (.bool false) ∧ SomeMore D)) ∧ Below w.heap.size w w' := by
  go_enter Try.func22, Try.ntmps22
  go_wp2_with (first
    | (at_range; refine wpList_range_own _ rfl _ 42 rfl 45 27 law45 Try.underlying42 _ b n _ rfl hown ?_; intro w0 hrg0 hg0 hs0)
    | go_in)
  go_frame
  go_loopw [4] (fun _ wr => ∃ (left : Lit → Bool) (cnt : Nat), wr.ranges Try.prog 45 (plainElem Try.prog 27) b w.heap.size n D left cnt ∧ Below w.heap.size w wr ∧ (∀ kl, left kl = true → Maps.has D kl = true) ∧ (∀ x : Int, Maps.has D (.int .u8 x) = true → left (.int .u8 x) = false → ∀ zd, D.atKey (.int .u8 x) zd = .lit (.int .u64 0)))
    (fun _ wr => wr.rangeLeft b w.heap.size)
  case atStart => exact ⟨_, _, hrg0, (Below.refl _ _).grown hg0 (Nat.le_refl _) (fun j hj => by cases hj), fun kl h => h, fun x h1 h2 => by rw [h1] at h2; cases h2⟩
  case round =>
    obtain ⟨left, cnt, hrg, hbel, hle, hz⟩ := hrel
    have HZ : Hid ((∀ kl, left kl = true → Maps.has D kl = true) ∧ (∀ x : Int, Maps.has D (.int .u8 x) = true → left (.int .u8 x) = false → ∀ zd, D.atKey (.int .u8 x) zd = .lit (.int .u64 0))) := ⟨hle, hz⟩
    clear hle hz
    go_wp2_with (first
      | (at_next; refine wpList_next_ranges_ii _ rfl _ rfl 45 27 .u8 .u64 law45 Try.underlying45 Try.underlying27 b w.heap.size n _ _ _ rfl hrg ?_ ?_)
      | go_in)
    · intro _ hl0
      go_wp2
      go_ret
      exact ⟨.inl ⟨rfl, fun x hx => HZ.out.2 x hx (hl0 _)⟩, hbel⟩
    · intro x c w1 cnt1 hwx hwc hlx hat hrg1 hlt hg1 hs1 hen
      have HAT : Hid (∀ zd, D.atKey (.int .u8 x) zd = .lit (.int .u64 c)) := hat
      have HLX : Hid (left (.int .u8 x) = true) := hlx
      clear hat hlx
      go_wp2
      · have hpos : 0 < c := by assumption
        go_ret
        exact ⟨.inr ⟨rfl, x, c, hpos, HZ.out.1 _ HLX.out, HAT.out⟩, hbel.grown hg1 hbel.size (fun j hj => by cases hj; exact Nat.le_refl _)⟩
      · have hc0 : c = 0 := by have := bounds_u64' hwc; have : c ≤ 0 := by assumption
                               omega
        subst hc0
        refine ⟨⟨_, cnt1, hrg1, hbel.grown hg1 hbel.size (fun j hj => by cases hj; exact Nat.le_refl _), fun kl h => HZ.out.1 kl (by simp at h; exact h.1), fun y h1 h2 => ?_⟩, by rw [hrg1.left_eq, hrg.left_eq]; exact hlt⟩
        by_cases e : y = x
        · subst e; exact HAT.out
        · refine HZ.out.2 y h1 ?_
          cases hl : left (.int .u8 y) with
          | false => rfl
          | true => simp [hl, Lit.sameKey, e] at h2
end Go.Proofs.Qxb6000561a
