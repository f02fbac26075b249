/- FnSQNFromBytesLexOrder: the walk. -/
import Derived.Test.Qxb6000069aBase
import Derived.WalkKit
import Derived.BigQuiet
import Derived.Deep.QuietTactic
namespace Go.Proofs.Qxb6000069a.lex
open Go.RowKit
set_option linter.unusedVariables false

theorem grown_drewN {w w' : World} (n : Nat) (h : Grown w w') : Grown w (w'.drewN n) := by
  induction n generalizing w' with
  | zero => exact h
  | succ n ih => exact ih h.drew

def agree (x0 x1 x2 x3 x4 x5 y0 y1 y2 y3 y4 y5 : Int) : Nat → Prop
  | 0 => True
  | 1 => x0 = y0
  | 2 => x0 = y0 ∧ x1 = y1
  | 3 => x0 = y0 ∧ x1 = y1 ∧ x2 = y2
  | 4 => x0 = y0 ∧ x1 = y1 ∧ x2 = y2 ∧ x3 = y3
  | 5 => x0 = y0 ∧ x1 = y1 ∧ x2 = y2 ∧ x3 = y3 ∧ x4 = y4
  | _ => x0 = y0 ∧ x1 = y1 ∧ x2 = y2 ∧ x3 = y3 ∧ x4 = y4 ∧ x5 = y5

set_option maxRecDepth 100000 in
set_option maxHeartbeats 1000000 in
theorem walk (x0 x1 x2 x3 x4 x5 y0 y1 y2 y3 y4 y5 : Int) (b0 : 0 ≤ x0 ∧ x0 < 256) (b1 : 0 ≤ x1 ∧ x1 < 256) (b2 : 0 ≤ x2 ∧ x2 < 256) (b3 : 0 ≤ x3 ∧ x3 < 256) (b4 : 0 ≤ x4 ∧ x4 < 256) (b5 : 0 ≤ x5 ∧ x5 < 256) (c0 : 0 ≤ y0 ∧ y0 < 256) (c1 : 0 ≤ y1 ∧ y1 < 256) (c2 : 0 ≤ y2 ∧ y2 < 256) (c3 : 0 ≤ y3 ∧ y3 < 256) (c4 : 0 ≤ y4 ∧ y4 < 256) (c5 : 0 ≤ y5 ∧ y5 < 256) (w : World) :
    Calls Try.prog 4 #[.agg #[.int .u8 x0, .int .u8 x1, .int .u8 x2, .int .u8 x3, .int .u8 x4, .int .u8 x5], .agg #[.int .u8 y0, .int .u8 y1, .int .u8 y2, .int .u8 y3, .int .u8 y4, .int .u8 y5]] w fun e w' => e = .returned (.bool true) ∧ Grown w w' := by
  go_enter Try.func4, Try.ntmps4
  go_wp2
  go_loopw [5, 6] (fun c i wr => ∃ k n : Nat, k ≤ 6 ∧ i = .int .i64 k ∧ c = .int .i64 0 ∧ wr = ((w.alloc (.cells #[.int .u8 x0, .int .u8 x1, .int .u8 x2, .int .u8 x3, .int .u8 x4, .int .u8 x5] 22)).alloc (.cells #[.int .u8 y0, .int .u8 y1, .int .u8 y2, .int .u8 y3, .int .u8 y4, .int .u8 y5] 22)).drewN n ∧ Hid (agree x0 x1 x2 x3 x4 x5 y0 y1 y2 y3 y4 y5 k)) (fun _ i _ => 6 - (intOf i).toNat)
  case atStart => exact ⟨0, 0, Nat.zero_le _, rfl, rfl, rfl, trivial⟩
  case round =>
    obtain ⟨k, n, hk, rfl, rfl, rfl, HA⟩ := hrel
    have hk6 : k = 0 ∨ k = 1 ∨ k = 2 ∨ k = 3 ∨ k = 4 ∨ k = 5 ∨ k = 6 := by omega
    rcases hk6 with rfl | rfl | rfl | rfl | rfl | rfl | rfl
    · by_cases heq : x0 = y0
      · have hne : (x0 != y0) = false := by simp [heq]
        have HA2 : Hid (agree x0 x1 x2 x3 x4 x5 y0 y1 y2 y3 y4 y5 1) := by have h := HA.out; simp only [agree] at h; simp only [agree, Hid]; omega
        clear heq HA
        go_wp2
        go_quiet (fail)
        go_wp2
        exact ⟨⟨1, n + nq, by omega, rfl, rfl, rfl, HA2⟩, by simp [intOf]⟩
      · have hne : (x0 != y0) = true := by simp [heq]
        by_cases hlt : x0 < y0
        · have HL : Hid (num x0 x1 x2 x3 x4 x5 < num y0 y1 y2 y3 y4 y5) := by have h := HA.out; simp only [agree] at h; simp only [num, Hid]; omega
          clear heq HA
          go_wp2
          go_quiet (fail)
          go_wp2
          go_quiet (fail)
          go_wp2_with fail
          refine (from_bytes x0 x1 x2 x3 x4 x5 _ b0 b1 b2 b3 b4 b5).mono ?_
          rintro e w1 ⟨rfl, rfl⟩
          go_wp2_with fail
          refine (from_bytes y0 y1 y2 y3 y4 y5 _ c0 c1 c2 c3 c4 c5).mono ?_
          rintro e w2 ⟨rfl, rfl⟩
          go_wp2
          go_ret
          exact ⟨by have h := HL.out; simp [h], by repeat (first | exact Grown.refl _ | apply Grown.drew | apply Grown.alloc | apply grown_drewN)⟩
        · have HL : Hid (num y0 y1 y2 y3 y4 y5 < num x0 x1 x2 x3 x4 x5) := by have h := HA.out; simp only [agree] at h; simp only [num, Hid]; omega
          clear heq HA
          go_wp2
          go_quiet (fail)
          go_wp2
          go_quiet (fail)
          go_wp2_with fail
          refine (from_bytes x0 x1 x2 x3 x4 x5 _ b0 b1 b2 b3 b4 b5).mono ?_
          rintro e w1 ⟨rfl, rfl⟩
          go_wp2_with fail
          refine (from_bytes y0 y1 y2 y3 y4 y5 _ c0 c1 c2 c3 c4 c5).mono ?_
          rintro e w2 ⟨rfl, rfl⟩
          go_wp2
          go_ret
          exact ⟨by have h := HL.out; simp [h], by repeat (first | exact Grown.refl _ | apply Grown.drew | apply Grown.alloc | apply grown_drewN)⟩
    · by_cases heq : x1 = y1
      · have hne : (x1 != y1) = false := by simp [heq]
        have HA2 : Hid (agree x0 x1 x2 x3 x4 x5 y0 y1 y2 y3 y4 y5 2) := by have h := HA.out; simp only [agree] at h; simp only [agree, Hid]; omega
        clear heq HA
        go_wp2
        go_quiet (fail)
        go_wp2
        exact ⟨⟨2, n + nq, by omega, rfl, rfl, rfl, HA2⟩, by simp [intOf]⟩
      · have hne : (x1 != y1) = true := by simp [heq]
        by_cases hlt : x1 < y1
        · have HL : Hid (num x0 x1 x2 x3 x4 x5 < num y0 y1 y2 y3 y4 y5) := by have h := HA.out; simp only [agree] at h; simp only [num, Hid]; omega
          clear heq HA
          go_wp2
          go_quiet (fail)
          go_wp2
          go_quiet (fail)
          go_wp2_with fail
          refine (from_bytes x0 x1 x2 x3 x4 x5 _ b0 b1 b2 b3 b4 b5).mono ?_
          rintro e w1 ⟨rfl, rfl⟩
          go_wp2_with fail
          refine (from_bytes y0 y1 y2 y3 y4 y5 _ c0 c1 c2 c3 c4 c5).mono ?_
          rintro e w2 ⟨rfl, rfl⟩
          go_wp2
          go_ret
          exact ⟨by have h := HL.out; simp [h], by repeat (first | exact Grown.refl _ | apply Grown.drew | apply Grown.alloc | apply grown_drewN)⟩
        · have HL : Hid (num y0 y1 y2 y3 y4 y5 < num x0 x1 x2 x3 x4 x5) := by have h := HA.out; simp only [agree] at h; simp only [num, Hid]; omega
          clear heq HA
          go_wp2
          go_quiet (fail)
          go_wp2
          go_quiet (fail)
          go_wp2_with fail
          refine (from_bytes x0 x1 x2 x3 x4 x5 _ b0 b1 b2 b3 b4 b5).mono ?_
          rintro e w1 ⟨rfl, rfl⟩
          go_wp2_with fail
          refine (from_bytes y0 y1 y2 y3 y4 y5 _ c0 c1 c2 c3 c4 c5).mono ?_
          rintro e w2 ⟨rfl, rfl⟩
          go_wp2
          go_ret
          exact ⟨by have h := HL.out; simp [h], by repeat (first | exact Grown.refl _ | apply Grown.drew | apply Grown.alloc | apply grown_drewN)⟩
    · by_cases heq : x2 = y2
      · have hne : (x2 != y2) = false := by simp [heq]
        have HA2 : Hid (agree x0 x1 x2 x3 x4 x5 y0 y1 y2 y3 y4 y5 3) := by have h := HA.out; simp only [agree] at h; simp only [agree, Hid]; omega
        clear heq HA
        go_wp2
        go_quiet (fail)
        go_wp2
        exact ⟨⟨3, n + nq, by omega, rfl, rfl, rfl, HA2⟩, by simp [intOf]⟩
      · have hne : (x2 != y2) = true := by simp [heq]
        by_cases hlt : x2 < y2
        · have HL : Hid (num x0 x1 x2 x3 x4 x5 < num y0 y1 y2 y3 y4 y5) := by have h := HA.out; simp only [agree] at h; simp only [num, Hid]; omega
          clear heq HA
          go_wp2
          go_quiet (fail)
          go_wp2
          go_quiet (fail)
          go_wp2_with fail
          refine (from_bytes x0 x1 x2 x3 x4 x5 _ b0 b1 b2 b3 b4 b5).mono ?_
          rintro e w1 ⟨rfl, rfl⟩
          go_wp2_with fail
          refine (from_bytes y0 y1 y2 y3 y4 y5 _ c0 c1 c2 c3 c4 c5).mono ?_
          rintro e w2 ⟨rfl, rfl⟩
          go_wp2
          go_ret
          exact ⟨by have h := HL.out; simp [h], by repeat (first | exact Grown.refl _ | apply Grown.drew | apply Grown.alloc | apply grown_drewN)⟩
        · have HL : Hid (num y0 y1 y2 y3 y4 y5 < num x0 x1 x2 x3 x4 x5) := by have h := HA.out; simp only [agree] at h; simp only [num, Hid]; omega
          clear heq HA
          go_wp2
          go_quiet (fail)
          go_wp2
          go_quiet (fail)
          go_wp2_with fail
          refine (from_bytes x0 x1 x2 x3 x4 x5 _ b0 b1 b2 b3 b4 b5).mono ?_
          rintro e w1 ⟨rfl, rfl⟩
          go_wp2_with fail
          refine (from_bytes y0 y1 y2 y3 y4 y5 _ c0 c1 c2 c3 c4 c5).mono ?_
          rintro e w2 ⟨rfl, rfl⟩
          go_wp2
          go_ret
          exact ⟨by have h := HL.out; simp [h], by repeat (first | exact Grown.refl _ | apply Grown.drew | apply Grown.alloc | apply grown_drewN)⟩
    · by_cases heq : x3 = y3
      · have hne : (x3 != y3) = false := by simp [heq]
        have HA2 : Hid (agree x0 x1 x2 x3 x4 x5 y0 y1 y2 y3 y4 y5 4) := by have h := HA.out; simp only [agree] at h; simp only [agree, Hid]; omega
        clear heq HA
        go_wp2
        go_quiet (fail)
        go_wp2
        exact ⟨⟨4, n + nq, by omega, rfl, rfl, rfl, HA2⟩, by simp [intOf]⟩
      · have hne : (x3 != y3) = true := by simp [heq]
        by_cases hlt : x3 < y3
        · have HL : Hid (num x0 x1 x2 x3 x4 x5 < num y0 y1 y2 y3 y4 y5) := by have h := HA.out; simp only [agree] at h; simp only [num, Hid]; omega
          clear heq HA
          go_wp2
          go_quiet (fail)
          go_wp2
          go_quiet (fail)
          go_wp2_with fail
          refine (from_bytes x0 x1 x2 x3 x4 x5 _ b0 b1 b2 b3 b4 b5).mono ?_
          rintro e w1 ⟨rfl, rfl⟩
          go_wp2_with fail
          refine (from_bytes y0 y1 y2 y3 y4 y5 _ c0 c1 c2 c3 c4 c5).mono ?_
          rintro e w2 ⟨rfl, rfl⟩
          go_wp2
          go_ret
          exact ⟨by have h := HL.out; simp [h], by repeat (first | exact Grown.refl _ | apply Grown.drew | apply Grown.alloc | apply grown_drewN)⟩
        · have HL : Hid (num y0 y1 y2 y3 y4 y5 < num x0 x1 x2 x3 x4 x5) := by have h := HA.out; simp only [agree] at h; simp only [num, Hid]; omega
          clear heq HA
          go_wp2
          go_quiet (fail)
          go_wp2
          go_quiet (fail)
          go_wp2_with fail
          refine (from_bytes x0 x1 x2 x3 x4 x5 _ b0 b1 b2 b3 b4 b5).mono ?_
          rintro e w1 ⟨rfl, rfl⟩
          go_wp2_with fail
          refine (from_bytes y0 y1 y2 y3 y4 y5 _ c0 c1 c2 c3 c4 c5).mono ?_
          rintro e w2 ⟨rfl, rfl⟩
          go_wp2
          go_ret
          exact ⟨by have h := HL.out; simp [h], by repeat (first | exact Grown.refl _ | apply Grown.drew | apply Grown.alloc | apply grown_drewN)⟩
    · by_cases heq : x4 = y4
      · have hne : (x4 != y4) = false := by simp [heq]
        have HA2 : Hid (agree x0 x1 x2 x3 x4 x5 y0 y1 y2 y3 y4 y5 5) := by have h := HA.out; simp only [agree] at h; simp only [agree, Hid]; omega
        clear heq HA
        go_wp2
        go_quiet (fail)
        go_wp2
        exact ⟨⟨5, n + nq, by omega, rfl, rfl, rfl, HA2⟩, by simp [intOf]⟩
      · have hne : (x4 != y4) = true := by simp [heq]
        by_cases hlt : x4 < y4
        · have HL : Hid (num x0 x1 x2 x3 x4 x5 < num y0 y1 y2 y3 y4 y5) := by have h := HA.out; simp only [agree] at h; simp only [num, Hid]; omega
          clear heq HA
          go_wp2
          go_quiet (fail)
          go_wp2
          go_quiet (fail)
          go_wp2_with fail
          refine (from_bytes x0 x1 x2 x3 x4 x5 _ b0 b1 b2 b3 b4 b5).mono ?_
          rintro e w1 ⟨rfl, rfl⟩
          go_wp2_with fail
          refine (from_bytes y0 y1 y2 y3 y4 y5 _ c0 c1 c2 c3 c4 c5).mono ?_
          rintro e w2 ⟨rfl, rfl⟩
          go_wp2
          go_ret
          exact ⟨by have h := HL.out; simp [h], by repeat (first | exact Grown.refl _ | apply Grown.drew | apply Grown.alloc | apply grown_drewN)⟩
        · have HL : Hid (num y0 y1 y2 y3 y4 y5 < num x0 x1 x2 x3 x4 x5) := by have h := HA.out; simp only [agree] at h; simp only [num, Hid]; omega
          clear heq HA
          go_wp2
          go_quiet (fail)
          go_wp2
          go_quiet (fail)
          go_wp2_with fail
          refine (from_bytes x0 x1 x2 x3 x4 x5 _ b0 b1 b2 b3 b4 b5).mono ?_
          rintro e w1 ⟨rfl, rfl⟩
          go_wp2_with fail
          refine (from_bytes y0 y1 y2 y3 y4 y5 _ c0 c1 c2 c3 c4 c5).mono ?_
          rintro e w2 ⟨rfl, rfl⟩
          go_wp2
          go_ret
          exact ⟨by have h := HL.out; simp [h], by repeat (first | exact Grown.refl _ | apply Grown.drew | apply Grown.alloc | apply grown_drewN)⟩
    · by_cases heq : x5 = y5
      · have hne : (x5 != y5) = false := by simp [heq]
        have HA2 : Hid (agree x0 x1 x2 x3 x4 x5 y0 y1 y2 y3 y4 y5 6) := by have h := HA.out; simp only [agree] at h; simp only [agree, Hid]; omega
        clear heq HA
        go_wp2
        go_quiet (fail)
        go_wp2
        exact ⟨⟨6, n + nq, by omega, rfl, rfl, rfl, HA2⟩, by simp [intOf]⟩
      · have hne : (x5 != y5) = true := by simp [heq]
        by_cases hlt : x5 < y5
        · have HL : Hid (num x0 x1 x2 x3 x4 x5 < num y0 y1 y2 y3 y4 y5) := by have h := HA.out; simp only [agree] at h; simp only [num, Hid]; omega
          clear heq HA
          go_wp2
          go_quiet (fail)
          go_wp2
          go_quiet (fail)
          go_wp2_with fail
          refine (from_bytes x0 x1 x2 x3 x4 x5 _ b0 b1 b2 b3 b4 b5).mono ?_
          rintro e w1 ⟨rfl, rfl⟩
          go_wp2_with fail
          refine (from_bytes y0 y1 y2 y3 y4 y5 _ c0 c1 c2 c3 c4 c5).mono ?_
          rintro e w2 ⟨rfl, rfl⟩
          go_wp2
          go_ret
          exact ⟨by have h := HL.out; simp [h], by repeat (first | exact Grown.refl _ | apply Grown.drew | apply Grown.alloc | apply grown_drewN)⟩
        · have HL : Hid (num y0 y1 y2 y3 y4 y5 < num x0 x1 x2 x3 x4 x5) := by have h := HA.out; simp only [agree] at h; simp only [num, Hid]; omega
          clear heq HA
          go_wp2
          go_quiet (fail)
          go_wp2
          go_quiet (fail)
          go_wp2_with fail
          refine (from_bytes x0 x1 x2 x3 x4 x5 _ b0 b1 b2 b3 b4 b5).mono ?_
          rintro e w1 ⟨rfl, rfl⟩
          go_wp2_with fail
          refine (from_bytes y0 y1 y2 y3 y4 y5 _ c0 c1 c2 c3 c4 c5).mono ?_
          rintro e w2 ⟨rfl, rfl⟩
          go_wp2
          go_ret
          exact ⟨by have h := HL.out; simp [h], by repeat (first | exact Grown.refl _ | apply Grown.drew | apply Grown.alloc | apply grown_drewN)⟩
    · have HL : Hid (num x0 x1 x2 x3 x4 x5 = num y0 y1 y2 y3 y4 y5) := by have h := HA.out; simp only [agree] at h; simp only [num, Hid]; omega
      clear HA
      go_wp2_with fail
      refine (from_bytes x0 x1 x2 x3 x4 x5 _ b0 b1 b2 b3 b4 b5).mono ?_
      rintro e w1 ⟨rfl, rfl⟩
      go_wp2_with fail
      refine (from_bytes y0 y1 y2 y3 y4 y5 _ c0 c1 c2 c3 c4 c5).mono ?_
      rintro e w2 ⟨rfl, rfl⟩
      go_wp2
      go_ret
      exact ⟨by have h := HL.out; simp [h], by repeat (first | exact Grown.refl _ | apply Grown.drew | apply Grown.alloc | apply grown_drewN)⟩
end Go.Proofs.Qxb6000069a.lex
