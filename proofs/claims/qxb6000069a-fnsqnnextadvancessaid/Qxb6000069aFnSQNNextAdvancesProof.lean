/-
  A PROOF OF 'Rows.FnSQNNextAdvancesSaid' ('example.com/roamkey/roamkey/zzlaws_aka_b1.FnSQNNextAdvances'), WRITTEN BY PROGRAM (proof-skeleton.mjs) off the guide's own print for that function. Not trusted: Lean checks it.
-/
import Derived.Test.Qxb6000069aRows
import Derived.Test.Qxb6000069aBase
import Derived.Test.Qxb6000069aBytes
import Derived.WalkKit
import Derived.WalkLawsBesides
import Derived.Laws.BitsAllLaws
import Derived.ProofKit
import Derived.OpenShut
import Derived.ShutString
namespace Go.Proofs.Qxb6000069a.fnSQNNextAdvances
open Go.ChangeShapes Go.WideShapes Go.ChangeAt Go.RowKit
open Go.ChangeMaps (open_string shut_string)
set_option linter.unusedVariables false      -- a walk need not use every 'w<i>' (that an integer argument fits its kind)

theorem own : ownKnob Try.prog.godebug = none := by kernel_rfl

theorem join5 (q i : Int) (h0 : 0 ≤ q) (h1 : q < 8796093022208) (h2 : 0 ≤ i) (h3 : i < 32) : bits .or .u64 (q * 32) i = q * 32 + i := by
  rw [u64_or _ _ (by omega) (by omega) (by omega) (by omega), nat_join 5 _ _ (by omega) (by omega)]
  omega
theorem digits (n : Int) (h0 : 0 ≤ n) (h1 : n < 281474976710656) : num (n / 1099511627776 % 256) (n / 4294967296 % 256) (n / 16777216 % 256) (n / 65536 % 256) (n / 256 % 256) (n % 256) = n := by
  unfold num; omega
theorem bd_u64 (a : Int) (h : (Lit.int .u64 a).wf = true) : 0 ≤ a ∧ a < 18446744073709551616 := by
  have := bounds_u64 h; omega

set_option maxRecDepth 100000 in
set_option maxHeartbeats 400000 in
theorem next_no (s i : Int) (w : World) (h0 : 281474976710624 ≤ s) (h1 : s < 281474976710656) (h2 : 0 ≤ i) (h3 : i < 32) :
    Calls Try.prog 12 #[.int .u64 s, .int .i64 i] w fun e w' => e = .returned (.tuple #[.int .u64 0, .bool false]) ∧ w' = w := by
  have e4 : (s / 32 == 8796093022207) = true := by rw [beq_iff_eq]; omega
  go_enter Try.func12, Try.ntmps12
  go_wp2
  go_ret2
  exact ⟨rfl, rfl⟩

set_option maxRecDepth 100000 in
set_option maxHeartbeats 400000 in
theorem next_yes (s i : Int) (w : World) (h0 : 0 ≤ s) (h1 : s < 281474976710624) (h2 : 0 ≤ i) (h3 : i < 32) :
    Calls Try.prog 12 #[.int .u64 s, .int .i64 i] w fun e w' => e = .returned (.tuple #[.int .u64 ((s / 32 + 1) * 32 + i), .bool true]) ∧ w' = w := by
  have e4 : (s / 32 == 8796093022207) = false := by rw [beq_eq_false_iff_ne]; omega
  go_enter Try.func12, Try.ntmps12
  go_wp2
  go_ret2
  exact ⟨by rw [join5 (s / 32 + 1) i (by omega) (by omega) (by omega) (by omega)]; rfl, rfl⟩

set_option maxHeartbeats 400000 in
theorem walk (a0 : Int) (a1 : Int) (w0 : (Lit.int .u64 a0).wf = true) (w1 : (Lit.int .i64 a1).wf = true) (w : World) :
    Calls Try.prog 8 #[.int .u64 a0, .int .i64 a1] w fun e w' => e = .returned (.bool true) ∧ Grown w w' := by
  obtain ⟨k0, k1⟩ := bd_u64 a0 w0
  clear w0 w1
  by_cases c1 : 281474976710656 ≤ a0
  · go_enter Try.func8, Try.ntmps8
    go_wp2
    go_ret
    exact ⟨rfl, Grown.refl _⟩
  by_cases c2 : a1 < 0
  · go_enter Try.func8, Try.ntmps8
    go_wp2
    go_ret
    exact ⟨rfl, Grown.refl _⟩
  by_cases c3 : 32 ≤ a1
  · go_enter Try.func8, Try.ntmps8
    go_wp2
    go_ret
    exact ⟨rfl, Grown.refl _⟩
  by_cases c4 : 281474976710624 ≤ a0
  · go_enter Try.func8, Try.ntmps8
    go_wp2_with fail
    refine (next_no a0 a1 _ (by omega) (by omega) (by omega) (by omega)).mono ?_
    rintro e w1 ⟨rfl, rfl⟩
    go_wp2
    go_ret
    exact ⟨rfl, Grown.refl _⟩
  · go_enter Try.func8, Try.ntmps8
    go_wp2_with fail
    refine (next_yes a0 a1 _ (by omega) (by omega) (by omega) (by omega)).mono ?_
    rintro e w1 ⟨rfl, rfl⟩
    obtain ⟨n, hn⟩ : ∃ n, n = (a0 / 32 + 1) * 32 + a1 := ⟨_, rfl⟩
    rw [← hn]
    have l1 : a0 < n := by omega
    have l2 : n < 281474976710656 := by omega
    clear hn
    go_wp2_with fail
    refine (bytes_of n _ (by omega) (by omega)).mono ?_
    rintro e w1 ⟨rfl, hg⟩
    go_wp2_with fail
    refine (from_bytes _ _ _ _ _ _ _ ?_ ?_ ?_ ?_ ?_ ?_).mono ?_
    · omega
    · omega
    · omega
    · omega
    · omega
    · omega
    rintro e w2 ⟨rfl, rfl⟩
    rw [digits n (by omega) l2]
    go_wp2
    go_ret
    exact ⟨by simp, by repeat (first | exact hg | apply Grown.drew | apply Grown.alloc)⟩

/-! ### THE ROW's STEP: WRITTEN OUT: LEAVE IT -/
set_option maxRecDepth 100000 in
theorem lifted (os : Os) (started : os.Started) (H : Type) (enc : TypeId × Value → H) :
    ReturnsInHanded {} Try.checked os 8 .any (Rows.fnSQNNextAdvancesSpec.pre6 enc Try.prog Try.f8 Rows.fnSQNNextAdvancesRow.domain false) (Rows.fnSQNNextAdvancesSpec.post enc Try.prog Try.f8 false true false false) := by
  refine returnsInHanded_of_change (C := Try.checked) own started (by kernel_rfl) Try.func8
    (ChangeSpec.witness6 (enc := enc) (C := Try.checked) false ⟨#[], #[.int .u64 0, .int .i64 0], []⟩ 8 (by kernel_rfl) (by kernel_rfl) (by kernel_rfl) (by kernel_rfl)) ?_
  intro W base args ds gs before hval0 hW hcnd _
  have hval : ∀ (j : Nat) t v, Try.f8.params[j]? = some t → args[j]? = some v → Value.okWide Try.prog W .any base t v := hval0
  have hW' := hW
  obtain ⟨p, q, hA0, hV, rfl, hfz, hnd⟩ := hW
  have hA : DataW.TrodAll enc Try.prog W 0 (fun _ => true) true Try.f8.params.toList args.toList ds p := hA0
  rw [Try.params8] at hA hval
  obtain ⟨v0, vs0, d0, ds0, p0, q0, hargs, rfl, rfl, h0, r0⟩ := trodAll_cons hA
  obtain ⟨v1, vs1, d1, ds1, p1, q1, rfl, rfl, rfl, h1, r1⟩ := trodAll_cons r0
  obtain ⟨rfl, rfl, rfl⟩ := trodAll_nil r1
  obtain rfl : args = #[v0, v1] := by cases args; simp_all
  obtain ⟨rfl, rfl⟩ := trodVars_none hV
  obtain ⟨a0, rfl, rfl, rfl, w0⟩ := open_int Try.underlying23 (hval 0 23 v0 rfl rfl) h0
  obtain ⟨a1, rfl, rfl, rfl, w1⟩ := open_int Try.underlying3 (hval 1 3 v1 rfl rfl) h1
  clear hA0 hval0
  simp only [List.append_nil] at hW'
  refine (walk a0 a1 w0 w1 W).mono fun e W' ⟨he, hg⟩ => ?_
  subst he
  exact ⟨_, rfl, post_of_same (pa := []) (pv := []) hW' (fun _ _ _ => (trodAll_cons_mk (shut_bool Try.underlying4 _) trodAll_mk0)) (fun sp _ => (trodAll_cons_mk (shut_int Try.underlying23 w0) (trodAll_cons_mk (shut_int Try.underlying3 w1) trodAll_mk0))) (fun _ _ => rfl) rfl
    (hg.frame _) hg.2.1 (ok_one (by kernel_rfl) rfl (okWide_bool_mk Try.underlying4 _))⟩

theorem over : Rows.fnSQNNextAdvancesRow.holds Try.pinned (OpenSpec.ofChange Rows.fnSQNNextAdvancesSpec) :=
  OpenClaim.holds_of_wide 8 Try.f8 rfl rfl rfl rfl rfl rfl rfl ⟨rfl, rfl, rfl, rfl, rfl⟩ rfl rfl rfl rfl rfl (by kernel_rfl) Try.func8 (by kernel_rfl)
    (of_decide_eq_true (by kernel_rfl)) (by unfold Func.isWrapper; first | (rw [if_pos (by decide +kernel)]; kernel_rfl) | (rw [if_neg (by decide +kernel)]; exact ⟨rfl, rfl⟩))
    (fun os started H enc _ => lifted os started H enc)

/-- ████ THE STATEMENT ████ -/
theorem proved : Rows.FnSQNNextAdvancesSaid :=
  over
end Go.Proofs.Qxb6000069a.fnSQNNextAdvances
