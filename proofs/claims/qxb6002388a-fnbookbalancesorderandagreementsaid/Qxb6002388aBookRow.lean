/- 'Rows.FnBookBalancesOrderAndAgreementSaid': the proof. -/
import Derived.Test.Qxb6002388aRows
import Derived.Test.Qxb6002388aTop
import Derived.WalkKit
import Derived.ProofKit
import Derived.OpenShut
import Derived.ShutString
import Derived.SliceStrings
import Derived.ChangeOld
import Derived.Below
namespace Go.Proofs.Qxb6002388a.bookBalances
open Go.ChangeShapes Go.WideShapes Go.ChangeAt Go.RowKit
open Go.ChangeMaps (open_string shut_string)
set_option linter.unusedVariables false

theorem own : ownKnob Try.prog.godebug = none := by kernel_rfl
theorem laidOut : laidOutB Try.prog = true := by kernel_rfl

/-- strings that came in -/
theorem sa_of {w : World} {a : Addr} {n c : Nat} {ss : List ByteArray} (hn : n ≤ c) (hz : ss.length = c) (hc : ∀ i, i < ss.length → w.cell? (a.add i) = some (.string (ss.getD i ByteArray.empty))) (hm : ∀ s ∈ ss, s.size ≤ maxLen) : Sa w (some a) n ss := by
  intro i hi
  obtain ⟨b, off, spot⟩ := a
  have hl : i < ss.length := by omega
  have h := hc i hl
  have hspot : spot = none := by simpa [Addr.add] using World.cell?_spot (hc 0 (by omega))
  subst hspot
  rw [Go.WideShapes.add_plain] at h
  refine ⟨b, off, rfl, World.block_lt_of_cell? _ _ h, h, ?_⟩
  rw [List.getD_eq_getElem?_getD, List.getElem?_eq_getElem hl]
  exact hm _ (List.getElem_mem hl)

/-- bytes that came in -/
theorem ia_of {w : World} {a : Addr} {n c : Nat} {ss : List Int} (hn : n ≤ c) (hz : ss.length = c) (hc : ∀ i, i < ss.length → w.cell? (a.add i) = some (.int .u8 (ss.getD i 0))) (hm : ∀ s ∈ ss, (Lit.int .u8 s).wf = true) : Ia w (some a) n ss := by
  intro i hi
  obtain ⟨b, off, spot⟩ := a
  have hl : i < ss.length := by omega
  have h := hc i hl
  have hspot : spot = none := by simpa [Addr.add] using World.cell?_spot (hc 0 (by omega))
  subst hspot
  rw [Go.WideShapes.add_plain] at h
  have hw := hm (ss.getD i 0) (by rw [List.getD_eq_getElem?_getD, List.getElem?_eq_getElem hl]; exact List.getElem_mem hl)
  refine ⟨b, off, rfl, World.block_lt_of_cell? _ _ h, h, ?_⟩
  simp [Lit.wf, IntKind.min, IntKind.max, IntKind.signed, IntKind.bits] at hw
  simp at hw ⊢
  omega

set_option maxRecDepth 100000 in
theorem lifted (os : Os) (started : os.Started) (H : Type) (enc : TypeId × Value → H) :
    ReturnsInHanded {} Try.checked os 4 .any (Rows.fnBookBalancesOrderAndAgreementSpec.pre6 enc Try.prog Try.f4 Rows.fnBookBalancesOrderAndAgreementRow.domain false) (Rows.fnBookBalancesOrderAndAgreementSpec.post enc Try.prog Try.f4 false true false false) := by
  refine returnsInHanded_of_change (C := Try.checked) own started (by kernel_rfl) Try.func4
    (ChangeSpec.witness6 (enc := enc) (C := Try.checked) false ⟨#[], #[.slice none 0 0, .slice none 0 0, .slice none 0 0], []⟩ 8 (by kernel_rfl) (by kernel_rfl) (by kernel_rfl) (by kernel_rfl)) ?_
  intro W base args ds gs before hval0 hW hcnd _
  have hval : ∀ (j : Nat) t v, Try.f4.params[j]? = some t → args[j]? = some v → Value.okWide Try.prog W .any base t v := hval0
  have hW' := hW
  obtain ⟨p, q, hA0, hV, rfl, hfz, hnd⟩ := hW
  have hA : DataW.TrodAll enc Try.prog W 0 (fun _ => true) true Try.f4.params.toList args.toList ds p := hA0
  rw [Try.params4] at hA hval
  obtain ⟨v0, vs0, d0, ds0, p0, q0, hargs, rfl, rfl, h0, r0⟩ := trodAll_cons hA
  obtain ⟨v1, vs1, d1, ds1, p1, q1, rfl, rfl, rfl, h1, r1⟩ := trodAll_cons r0
  obtain ⟨v2, vs2, d2, ds2, p2, q2, rfl, rfl, rfl, h2, r2⟩ := trodAll_cons r1
  obtain ⟨rfl, rfl, rfl⟩ := trodAll_nil r2
  obtain rfl : args = #[v0, v1, v2] := by cases args; simp_all
  obtain ⟨rfl, rfl⟩ := trodVars_none hV
  obtain ⟨a0, len0, cap0, rfl⟩ := okWide_slice Try.underlying22 (hval 0 22 v0 rfl rfl)
  have k0 := h0
  have lt0 : ∀ x ∈ p0, x.block < W.heap.size := by obtain ⟨m, hm⟩ := k0; exact DataW.trod_lt m _ _ _ hm
  obtain ⟨z0, sa0, nk0, ml0⟩ : ∃ ss, Sa W a0 len0 ss ∧ NilOk a0 len0 cap0 ∧ len0 ≤ maxLen := by
    obtain ⟨fuel, hf⟩ := h0
    rcases open_strings Try.underlying22 Try.underlying9 (by kernel_rfl) hf with ⟨hcs, _⟩ | ⟨x, l, c, zs, hcs, _, hl, hm, hz, _, hcell, hwz⟩
    · simp [Value.cells] at hcs
      obtain ⟨rfl, rfl, rfl⟩ := hcs
      exact ⟨[], fun i hi => absurd hi (Nat.not_lt_zero i), fun _ => ⟨rfl, rfl⟩, Nat.zero_le _⟩
    · simp [Value.cells] at hcs
      obtain ⟨rfl, rfl, rfl⟩ := hcs
      exact ⟨zs, sa_of hl (by simpa using hz) hcell hwz, (fun h => by cases h), Nat.le_trans hl hm⟩
  obtain ⟨a1, len1, cap1, rfl⟩ := okWide_slice Try.underlying43 (hval 1 43 v1 rfl rfl)
  have k1 := h1
  have lt1 : ∀ x ∈ p1, x.block < W.heap.size := by obtain ⟨m, hm⟩ := k1; exact DataW.trod_lt m _ _ _ hm
  obtain ⟨z1, sa1, nk1, ml1⟩ : ∃ zs, Ia W a1 len1 zs ∧ NilOk a1 len1 cap1 ∧ len1 ≤ maxLen := by
    obtain ⟨fuel, hf⟩ := h1
    rcases open_ints Try.underlying43 Try.underlying5 (by kernel_rfl) hf with ⟨hcs, _⟩ | ⟨x, l, c, zs, hcs, _, hl, hm, hz, _, hcell, hwz⟩
    · simp [Value.cells] at hcs
      obtain ⟨rfl, rfl, rfl⟩ := hcs
      exact ⟨[], fun i hi => absurd hi (Nat.not_lt_zero i), fun _ => ⟨rfl, rfl⟩, Nat.zero_le _⟩
    · simp [Value.cells] at hcs
      obtain ⟨rfl, rfl, rfl⟩ := hcs
      exact ⟨zs, ia_of hl (by simpa using hz) hcell hwz, (fun h => by cases h), Nat.le_trans hl hm⟩
  obtain ⟨a2, len2, cap2, rfl⟩ := okWide_slice Try.underlying22 (hval 2 22 v2 rfl rfl)
  have k2 := h2
  have lt2 : ∀ x ∈ p2, x.block < W.heap.size := by obtain ⟨m, hm⟩ := k2; exact DataW.trod_lt m _ _ _ hm
  obtain ⟨z2, sa2, nk2, ml2⟩ : ∃ ss, Sa W a2 len2 ss ∧ NilOk a2 len2 cap2 ∧ len2 ≤ maxLen := by
    obtain ⟨fuel, hf⟩ := h2
    rcases open_strings Try.underlying22 Try.underlying9 (by kernel_rfl) hf with ⟨hcs, _⟩ | ⟨x, l, c, zs, hcs, _, hl, hm, hz, _, hcell, hwz⟩
    · simp [Value.cells] at hcs
      obtain ⟨rfl, rfl, rfl⟩ := hcs
      exact ⟨[], fun i hi => absurd hi (Nat.not_lt_zero i), fun _ => ⟨rfl, rfl⟩, Nat.zero_le _⟩
    · simp [Value.cells] at hcs
      obtain ⟨rfl, rfl, rfl⟩ := hcs
      exact ⟨zs, sa_of hl (by simpa using hz) hcell hwz, (fun h => by cases h), Nat.le_trans hl hm⟩
  clear hA0 hval0
  refine (book_walk a0 a1 a2 len0 cap0 len1 cap1 len2 cap2 z0 z1 z2 W ml0 ml1 ml2 nk0 nk1 nk2 sa0 sa1 sa2).mono fun e W' ⟨he, bel⟩ => ?_
  subst he
  exact ⟨_, rfl, _, _, _, [], _, [], hW', trodAll_mk1 (shut_bool Try.underlying4 _), (trodAll_cons_mk (Below.trod laidOut (by kernel_rfl) (of_decide_eq_true (by kernel_rfl)) k0 bel lt0) (trodAll_cons_mk (Below.trod laidOut (by kernel_rfl) (of_decide_eq_true (by kernel_rfl)) k1 bel lt1) (trodAll_cons_mk (Below.trod laidOut (by kernel_rfl) (of_decide_eq_true (by kernel_rfl)) k2 bel lt2) trodAll_mk0))), rfl, bel.frame _, fun h => by cases h⟩

theorem over : Rows.fnBookBalancesOrderAndAgreementRow.holds Try.pinned (OpenSpec.ofChange Rows.fnBookBalancesOrderAndAgreementSpec) :=
  OpenClaim.holds_of_wide 4 Try.f4 rfl rfl rfl rfl rfl rfl rfl ⟨rfl, rfl, rfl, rfl, rfl⟩ rfl rfl rfl rfl rfl (by kernel_rfl) Try.func4 (by kernel_rfl)
    (of_decide_eq_true (by kernel_rfl)) (by unfold Func.isWrapper; first | (rw [if_pos (by decide +kernel)]; kernel_rfl) | (rw [if_neg (by decide +kernel)]; exact ⟨rfl, rfl⟩))
    (fun os started H enc _ => lifted os started H enc)

/-- THE STATEMENT -/
theorem proved : Rows.FnBookBalancesOrderAndAgreementSaid := over
end Go.Proofs.Qxb6002388a.bookBalances
