/- [6]byte by value: opened and shut. -/
import Derived.Test.Qxb6000069aRows
import Derived.WalkKit
import Derived.ProofKit
import Derived.OpenShut
namespace Go.Proofs.Qxb6000069a
open Go.ChangeShapes Go.WideShapes Go.ChangeAt Go.RowKit
theorem cells22 : Try.prog.cellsOf 22 = 6 := by kernel_rfl
theorem cells5 : Try.prog.cellsOf 5 = 1 := by kernel_rfl

theorem list6 {α : Type} (l : List α) (h : (⟨l⟩ : Array α).size = 6) : ∃ a b c d e f, l = [a, b, c, d, e, f] := by
  match l, h with
  | [a, b, c, d, e, f], _ => exact ⟨a, b, c, d, e, f, rfl⟩

theorem open_six {H : Type} {enc : TypeId × Value → H} {W : World} {base : Nat} {sp : Nat → Bool} {v : Value} {d : DataW H} {p : List MemPlace}
    (hval : Value.okWide Try.prog W .any base 22 v) (h : DataW.Trod enc Try.prog W 0 sp true 22 v d p) :
    ∃ x0 x1 x2 x3 x4 x5 : Int, v = (.agg #[.int .u8 x0, .int .u8 x1, .int .u8 x2, .int .u8 x3, .int .u8 x4, .int .u8 x5]) ∧ d = (DataW.agg [.lit (.int .u8 x0), .lit (.int .u8 x1), .lit (.int .u8 x2), .lit (.int .u8 x3), .lit (.int .u8 x4), .lit (.int .u8 x5)]) ∧ p = [] ∧ (0 ≤ x0 ∧ x0 < 256) ∧ (0 ≤ x1 ∧ x1 < 256) ∧ (0 ≤ x2 ∧ x2 < 256) ∧ (0 ≤ x3 ∧ x3 < 256) ∧ (0 ≤ x4 ∧ x4 < 256) ∧ (0 ≤ x5 ∧ x5 < 256) := by
  obtain ⟨cs, rfl, hsz, _⟩ : ∃ cs, v = .agg cs ∧ cs.size = Try.prog.cellsOf 22 ∧ Row.okWide Try.prog W .any base 22 cs := by
    simpa [Value.okWide, Try.underlying22] using hval
  rw [cells22] at hsz
  obtain ⟨l⟩ := cs
  obtain ⟨c0, c1, c2, c3, c4, c5, rfl⟩ := list6 l hsz
  obtain ⟨fuel, hf⟩ := h
  obtain ⟨ys, m, _, hx, _, hl, hg⟩ := DataW.trod_array Try.underlying22 hf
  obtain ⟨y0, y1, y2, y3, y4, y5, rfl⟩ := list6 ys (by simpa using hl)
  rw [cells5] at hg
  obtain ⟨x0, e0, r0, w0⟩ := DataW.trod_int Try.underlying5 (hg 0 (by omega))
  obtain ⟨x1, e1, r1, w1⟩ := DataW.trod_int Try.underlying5 (hg 1 (by omega))
  obtain ⟨x2, e2, r2, w2⟩ := DataW.trod_int Try.underlying5 (hg 2 (by omega))
  obtain ⟨x3, e3, r3, w3⟩ := DataW.trod_int Try.underlying5 (hg 3 (by omega))
  obtain ⟨x4, e4, r4, w4⟩ := DataW.trod_int Try.underlying5 (hg 4 (by omega))
  obtain ⟨x5, e5, r5, w5⟩ := DataW.trod_int Try.underlying5 (hg 5 (by omega))
  simp [Value.cells] at e0 e1 e2 e3 e4 e5 r0 r1 r2 r3 r4 r5
  subst e0 e1 e2 e3 e4 e5 r0 r1 r2 r3 r4 r5
  simp at hx
  obtain ⟨rfl, rfl⟩ := hx
  have b0 := bounds_u8 w0; have b1 := bounds_u8 w1; have b2 := bounds_u8 w2; have b3 := bounds_u8 w3; have b4 := bounds_u8 w4; have b5 := bounds_u8 w5
  exact ⟨x0, x1, x2, x3, x4, x5, rfl, rfl, rfl, by omega, by omega, by omega, by omega, by omega, by omega⟩

theorem wf_u8 (x : Int) (h : 0 ≤ x ∧ x < 256) : (Lit.int .u8 x).wf = true := by
  simp [Lit.wf, IntKind.min, IntKind.max, IntKind.signed, IntKind.bits]; omega

theorem shut_six {H : Type} {enc : TypeId × Value → H} {W : World} {sp : Nat → Bool} {base : Nat} {x0 x1 x2 x3 x4 x5 : Int} (b0 : 0 ≤ x0 ∧ x0 < 256) (b1 : 0 ≤ x1 ∧ x1 < 256) (b2 : 0 ≤ x2 ∧ x2 < 256) (b3 : 0 ≤ x3 ∧ x3 < 256) (b4 : 0 ≤ x4 ∧ x4 < 256) (b5 : 0 ≤ x5 ∧ x5 < 256) :
    DataW.Trod enc Try.prog W base sp true 22 (.agg #[.int .u8 x0, .int .u8 x1, .int .u8 x2, .int .u8 x3, .int .u8 x4, .int .u8 x5]) (DataW.agg [.lit (.int .u8 x0), .lit (.int .u8 x1), .lit (.int .u8 x2), .lit (.int .u8 x3), .lit (.int .u8 x4), .lit (.int .u8 x5)]) [] :=
  ⟨2, by simp [DataW.trod, Value.cells, Try.underlying22, Try.underlying5, cells22, cells5, wf_u8 x0 b0, wf_u8 x1 b1, wf_u8 x2 b2, wf_u8 x3 b3, wf_u8 x4 b4, wf_u8 x5 b5, show List.range 6 = [0, 1, 2, 3, 4, 5] from rfl]⟩
end Go.Proofs.Qxb6000069a
