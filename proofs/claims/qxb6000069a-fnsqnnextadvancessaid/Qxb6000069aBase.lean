/- The contracts of SQNFromBytes (function 10), turned to this program. -/
import Derived.Test.Qxb6000069aProg
import Derived.WalkKit
import Derived.WalkLawsBesides
import Derived.Laws.BitsAllLaws
import Derived.Outline
namespace Go.Proofs.Qxb6000069a
open Go.RowKit

/-- one round: s<<8 | c -/
theorem join8 (s c : Int) (h0 : 0 ≤ s) (h1 : s < 72057594037927936) (h2 : 0 ≤ c) (h3 : c < 256) : bits .or .u64 (s * 256) c = s * 256 + c := by
  rw [u64_or _ _ (by omega) (by omega) (by omega) (by omega), nat_join 8 _ _ (by omega) (by omega)]
  omega

/-- the number that six bytes give, by rounds -/
def num (x0 x1 x2 x3 x4 x5 : Int) : Int := ((((x0 * 256 + x1) * 256 + x2) * 256 + x3) * 256 + x4) * 256 + x5

/-- what stands in s after k rounds -/
def part (x0 x1 x2 x3 x4 x5 : Int) : Nat → Int
  | 0 => 0
  | 1 => x0
  | 2 => x0 * 256 + x1
  | 3 => (x0 * 256 + x1) * 256 + x2
  | 4 => ((x0 * 256 + x1) * 256 + x2) * 256 + x3
  | 5 => (((x0 * 256 + x1) * 256 + x2) * 256 + x3) * 256 + x4
  | _ => ((((x0 * 256 + x1) * 256 + x2) * 256 + x3) * 256 + x4) * 256 + x5

set_option maxRecDepth 100000 in
set_option maxHeartbeats 400000 in
theorem from_bytes (x0 x1 x2 x3 x4 x5 : Int) (w : World) (h0 : 0 ≤ x0 ∧ x0 < 256) (h1 : 0 ≤ x1 ∧ x1 < 256) (h2 : 0 ≤ x2 ∧ x2 < 256) (h3 : 0 ≤ x3 ∧ x3 < 256) (h4 : 0 ≤ x4 ∧ x4 < 256) (h5 : 0 ≤ x5 ∧ x5 < 256) :
    Calls Try.prog 10 #[.agg #[.int .u8 x0, .int .u8 x1, .int .u8 x2, .int .u8 x3, .int .u8 x4, .int .u8 x5]] w fun e w' => e = .returned (.int .u64 (num x0 x1 x2 x3 x4 x5)) ∧ w' = w.alloc (.cells #[.int .u8 x0, .int .u8 x1, .int .u8 x2, .int .u8 x3, .int .u8 x4, .int .u8 x5] 22) := by
  have i0 : ∀ w : World, (Instr.index 22 (.agg #[.int .u8 x0, .int .u8 x1, .int .u8 x2, .int .u8 x3, .int .u8 x4, .int .u8 x5]) (.int .i64 0)).run Try.prog w = .ok (.int .u8 x0) w := fun _ => by kernel_rfl
  have i1 : ∀ w : World, (Instr.index 22 (.agg #[.int .u8 x0, .int .u8 x1, .int .u8 x2, .int .u8 x3, .int .u8 x4, .int .u8 x5]) (.int .i64 1)).run Try.prog w = .ok (.int .u8 x1) w := fun _ => by kernel_rfl
  have i2 : ∀ w : World, (Instr.index 22 (.agg #[.int .u8 x0, .int .u8 x1, .int .u8 x2, .int .u8 x3, .int .u8 x4, .int .u8 x5]) (.int .i64 2)).run Try.prog w = .ok (.int .u8 x2) w := fun _ => by kernel_rfl
  have i3 : ∀ w : World, (Instr.index 22 (.agg #[.int .u8 x0, .int .u8 x1, .int .u8 x2, .int .u8 x3, .int .u8 x4, .int .u8 x5]) (.int .i64 3)).run Try.prog w = .ok (.int .u8 x3) w := fun _ => by kernel_rfl
  have i4 : ∀ w : World, (Instr.index 22 (.agg #[.int .u8 x0, .int .u8 x1, .int .u8 x2, .int .u8 x3, .int .u8 x4, .int .u8 x5]) (.int .i64 4)).run Try.prog w = .ok (.int .u8 x4) w := fun _ => by kernel_rfl
  have i5 : ∀ w : World, (Instr.index 22 (.agg #[.int .u8 x0, .int .u8 x1, .int .u8 x2, .int .u8 x3, .int .u8 x4, .int .u8 x5]) (.int .i64 5)).run Try.prog w = .ok (.int .u8 x5) w := fun _ => by kernel_rfl
  go_enter Try.func10, Try.ntmps10
  go_wp2
  go_loop [3, 7] (fun t i => ∃ k : Nat, k ≤ 6 ∧ i = .int .i64 k ∧ t = .int .u64 (part x0 x1 x2 x3 x4 x5 k)) (fun _ i => 6 - (intOf i).toNat)
  case atStart => exact ⟨0, Nat.zero_le _, rfl, rfl⟩
  case round =>
    obtain ⟨k, hk, rfl, rfl⟩ := hrel
    have hk6 : k = 0 ∨ k = 1 ∨ k = 2 ∨ k = 3 ∨ k = 4 ∨ k = 5 ∨ k = 6 := by omega
    obtain ⟨S, hS⟩ : ∃ S, S = part x0 x1 x2 x3 x4 x5 k := ⟨_, rfl⟩
    rw [← hS]
    rcases hk6 with rfl | rfl | rfl | rfl | rfl | rfl | rfl
    · have hb : 0 ≤ S ∧ S < 1099511627776 := by simp only [part] at hS; omega
      have HS : Hid (S = part x0 x1 x2 x3 x4 x5 0) := hS
      clear hS
      go_wp2
      exact ⟨⟨1, by omega, rfl, by rw [join8 S x0 (by omega) (by omega) (by omega) (by omega), HS.out]; simp [part]⟩, by simp [intOf]⟩
    · have hb : 0 ≤ S ∧ S < 1099511627776 := by simp only [part] at hS; omega
      have HS : Hid (S = part x0 x1 x2 x3 x4 x5 1) := hS
      clear hS
      go_wp2
      exact ⟨⟨2, by omega, rfl, by rw [join8 S x1 (by omega) (by omega) (by omega) (by omega), HS.out]; simp [part]⟩, by simp [intOf]⟩
    · have hb : 0 ≤ S ∧ S < 1099511627776 := by simp only [part] at hS; omega
      have HS : Hid (S = part x0 x1 x2 x3 x4 x5 2) := hS
      clear hS
      go_wp2
      exact ⟨⟨3, by omega, rfl, by rw [join8 S x2 (by omega) (by omega) (by omega) (by omega), HS.out]; simp [part]⟩, by simp [intOf]⟩
    · have hb : 0 ≤ S ∧ S < 1099511627776 := by simp only [part] at hS; omega
      have HS : Hid (S = part x0 x1 x2 x3 x4 x5 3) := hS
      clear hS
      go_wp2
      exact ⟨⟨4, by omega, rfl, by rw [join8 S x3 (by omega) (by omega) (by omega) (by omega), HS.out]; simp [part]⟩, by simp [intOf]⟩
    · have hb : 0 ≤ S ∧ S < 1099511627776 := by simp only [part] at hS; omega
      have HS : Hid (S = part x0 x1 x2 x3 x4 x5 4) := hS
      clear hS
      go_wp2
      exact ⟨⟨5, by omega, rfl, by rw [join8 S x4 (by omega) (by omega) (by omega) (by omega), HS.out]; simp [part]⟩, by simp [intOf]⟩
    · have hb : 0 ≤ S ∧ S < 1099511627776 := by simp only [part] at hS; omega
      have HS : Hid (S = part x0 x1 x2 x3 x4 x5 5) := hS
      clear hS
      go_wp2
      exact ⟨⟨6, by omega, rfl, by rw [join8 S x5 (by omega) (by omega) (by omega) (by omega), HS.out]; simp [part]⟩, by simp [intOf]⟩
    · have HS : Hid (S = part x0 x1 x2 x3 x4 x5 6) := hS
      clear hS
      go_wp2
      go_ret
      exact ⟨by rw [HS.out]; rfl, rfl⟩
end Go.Proofs.Qxb6000069a
