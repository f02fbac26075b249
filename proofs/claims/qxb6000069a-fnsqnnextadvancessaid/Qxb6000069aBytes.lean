/- The contract of SQN.Bytes (function 11). -/
import Derived.Test.Qxb6000069aBase
import Derived.WalkKit
import Derived.WalkLawsBesides
namespace Go.Proofs.Qxb6000069a
open Go.RowKit
set_option linter.unusedVariables false

def bc (s : Int) : Nat → Array Value
  | 0 => #[.int .u8 0, .int .u8 0, .int .u8 0, .int .u8 0, .int .u8 0, .int .u8 0]
  | 1 => #[.int .u8 0, .int .u8 0, .int .u8 0, .int .u8 0, .int .u8 0, .int .u8 (s % 256)]
  | 2 => #[.int .u8 0, .int .u8 0, .int .u8 0, .int .u8 0, .int .u8 (s / 256 % 256), .int .u8 (s % 256)]
  | 3 => #[.int .u8 0, .int .u8 0, .int .u8 0, .int .u8 (s / 65536 % 256), .int .u8 (s / 256 % 256), .int .u8 (s % 256)]
  | 4 => #[.int .u8 0, .int .u8 0, .int .u8 (s / 16777216 % 256), .int .u8 (s / 65536 % 256), .int .u8 (s / 256 % 256), .int .u8 (s % 256)]
  | 5 => #[.int .u8 0, .int .u8 (s / 4294967296 % 256), .int .u8 (s / 16777216 % 256), .int .u8 (s / 65536 % 256), .int .u8 (s / 256 % 256), .int .u8 (s % 256)]
  | _ => #[.int .u8 (s / 1099511627776 % 256), .int .u8 (s / 4294967296 % 256), .int .u8 (s / 16777216 % 256), .int .u8 (s / 65536 % 256), .int .u8 (s / 256 % 256), .int .u8 (s % 256)]

set_option maxRecDepth 100000 in
set_option maxHeartbeats 400000 in
theorem bytes_of (s : Int) (w : World) (h0 : 0 ≤ s) (h1 : s < 18446744073709551616) :
    Calls Try.prog 11 #[.int .u64 s] w fun e w' => e = .returned (.agg #[.int .u8 (s / 1099511627776 % 256), .int .u8 (s / 4294967296 % 256), .int .u8 (s / 16777216 % 256), .int .u8 (s / 65536 % 256), .int .u8 (s / 256 % 256), .int .u8 (s % 256)]) ∧ Grown w w' := by
  go_enter Try.func11, Try.ntmps11
  go_wp2
  go_loopw [5] (fun i wr => ∃ k : Nat, k ≤ 6 ∧ i = .int .i64 k ∧ wr = (w.alloc (.cells #[.int .u8 0, .int .u8 0, .int .u8 0, .int .u8 0, .int .u8 0, .int .u8 0] 22)).alloc (.cells (bc s k) 22)) (fun i _ => 6 - (intOf i).toNat)
  case atStart => exact ⟨0, by omega, rfl, rfl⟩
  case round =>
    obtain ⟨k, hk, rfl, rfl⟩ := hrel
    have hk6 : k = 0 ∨ k = 1 ∨ k = 2 ∨ k = 3 ∨ k = 4 ∨ k = 5 ∨ k = 6 := by omega
    rcases hk6 with rfl | rfl | rfl | rfl | rfl | rfl | rfl
    · unfold bc
      go_wp2
      exact ⟨⟨1, by omega, rfl, rfl⟩, by simp [intOf]⟩
    · unfold bc
      go_wp2
      exact ⟨⟨2, by omega, rfl, rfl⟩, by simp [intOf]⟩
    · unfold bc
      go_wp2
      exact ⟨⟨3, by omega, rfl, rfl⟩, by simp [intOf]⟩
    · unfold bc
      go_wp2
      exact ⟨⟨4, by omega, rfl, rfl⟩, by simp [intOf]⟩
    · unfold bc
      go_wp2
      exact ⟨⟨5, by omega, rfl, rfl⟩, by simp [intOf]⟩
    · unfold bc
      go_wp2
      exact ⟨⟨6, by omega, rfl, rfl⟩, by simp [intOf]⟩
    · unfold bc
      go_wp2
      exact bodyPost_ret (v := .agg #[.int .u8 (s / 1099511627776 % 256), .int .u8 (s / 4294967296 % 256), .int .u8 (s / 16777216 % 256), .int .u8 (s / 65536 % 256), .int .u8 (s / 256 % 256), .int .u8 (s % 256)]) (by simp [results, Try.results11, go_sem]) rfl ⟨rfl, by repeat (first | exact Grown.refl _ | apply Grown.drew | apply Grown.alloc)⟩
end Go.Proofs.Qxb6000069a
