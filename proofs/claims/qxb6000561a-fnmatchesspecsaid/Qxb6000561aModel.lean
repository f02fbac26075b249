/- modelSelects (18): the contract. -/
import Derived.Test.Qxb6000561aStrs
import Derived.Test.Qxb6000561aBuild
import Derived.Lib.SlicesS
namespace Go.Proofs.Qxb6000561a
open Go.RowKit
set_option linter.unusedVariables false

/-- the key is one of the keys, or one of the prefixes begins it -/
def Sel (ks ps : List ByteArray) (n1 n2 : Nat) (key : ByteArray) : Prop :=
  (∃ i, i < n1 ∧ st ks i = key) ∨ ∃ i, i < n2 ∧ (st ps i).size ≤ key.size ∧ key.extract 0 (st ps i).size = st ps i
/-- it returns a bool that says P -/
def Says (e : Ending) (P : Prop) : Prop := ∃ r : Bool, e = .returned (.bool r) ∧ (r = true ↔ P)

set_option maxHeartbeats 1000000 in
theorem model_selects (a1 a2 : Option Addr) (n1 c1 n2 c2 : Nat) (ks ps : List ByteArray) (key : ByteArray) (w : World) (m1 : n1 ≤ 4096) (m2 : n2 ≤ 4096) (mk : key.size ≤ 1048576) (h1 : Sa w a1 n1 ks) (h2 : Sa w a2 n2 ps) :
    Calls Try.prog 18 #[.slice a1 n1 c1, .slice a2 n2 c2, .string key] w fun e w' => Says e (Sel ks ps n1 n2 key) ∧ w' = w := by
  go_enter Try.func18, Try.ntmps18
  go_wp2
  go_loop [7] (fun i => ∃ k : Nat, k ≤ n1 ∧ i = .int .i64 k ∧ Hid (∀ i, i < k → st ks i ≠ key)) (fun i => n1 - (intOf i).toNat)
  case atStart => exact ⟨0, Nat.zero_le _, rfl, fun i hi => absurd hi (Nat.not_lt_zero i)⟩
  case round =>
    obtain ⟨k, hk, rfl, HN⟩ := hrel
    by_cases hlt : k < n1
    · obtain ⟨b, off, e, _, hc, hm⟩ := h1 k hlt
      subst e
      clear h1
      have hc' : w.cell? ⟨b, off + k, none⟩ = some (.string (st ks k)) := hc
      clear hc hm
      obtain ⟨s, hs⟩ : ∃ s, s = st ks k := ⟨_, rfl⟩
      rw [← hs] at hc'
      have HS := hidden hs
      clear hs
      go_wp2
      · have he : (s.toList == key.toList) = true := by assumption
        go_ret
        exact ⟨⟨true, rfl, fun _ => .inl ⟨k, hlt, by rw [← HS.out]; exact (Lib.bytes_beq_iff _ _).1 he⟩, fun _ => rfl⟩, rfl⟩
      · have he : (s.toList == key.toList) = false := by assumption
        refine ⟨⟨k + 1, by omega, by go_num, fun i hi => ?_⟩, by simp [intOf]; omega⟩
        by_cases e : i = k
        · subst e; rw [← HS.out]; exact (Lib.bytes_beq_false_iff _ _).1 he
        · exact HN.out i (by omega)
    · clear h1
      go_wp2
      go_loop [8] (fun i => ∃ k : Nat, k ≤ n2 ∧ i = .int .i64 k ∧ Hid (∀ i, i < k → ¬ ((st ps i).size ≤ key.size ∧ key.extract 0 (st ps i).size = st ps i))) (fun i => n2 - (intOf i).toNat)
      case atStart => exact ⟨0, Nat.zero_le _, rfl, fun i hi => absurd hi (Nat.not_lt_zero i)⟩
      case round =>
        obtain ⟨k2, hk2, rfl, HN2⟩ := hrel
        by_cases hlt2 : k2 < n2
        · obtain ⟨b, off, e, _, hc, hm⟩ := h2 k2 hlt2
          subst e
          clear h2
          have hc' : w.cell? ⟨b, off + k2, none⟩ = some (.string (st ps k2)) := hc
          have hm' : (st ps k2).size ≤ maxLen := hm
          clear hc hm
          obtain ⟨s, hs⟩ : ∃ s, s = st ps k2 := ⟨_, rfl⟩
          rw [← hs] at hc' hm'
          unfold maxLen at hm'
          have HS := hidden hs
          clear hs
          by_cases hsz : s.size ≤ key.size
          · go_wp2
            · have he : ((key.extract 0 s.size).toList == s.toList) = true := by assumption
              go_ret
              exact ⟨⟨true, rfl, fun _ => .inr ⟨k2, hlt2, by rw [← HS.out]; exact ⟨hsz, (Lib.bytes_beq_iff _ _).1 he⟩⟩, fun _ => rfl⟩, rfl⟩
            · have he : ((key.extract 0 s.size).toList == s.toList) = false := by assumption
              refine ⟨⟨k2 + 1, by omega, by go_num, fun i hi => ?_⟩, by simp [intOf]; omega⟩
              by_cases e : i = k2
              · subst e; rw [← HS.out]; exact fun h => (Lib.bytes_beq_false_iff _ _).1 he h.2
              · exact HN2.out i (by omega)
          · have hd : decide ((s.size : Int) ≤ (key.size : Int)) = false := by simpa using hsz
            go_wp2
            refine ⟨⟨k2 + 1, by omega, by go_num, fun i hi => ?_⟩, by simp [intOf]; omega⟩
            by_cases e : i = k2
            · subst e; rw [← HS.out]; exact fun h => hsz h.1
            · exact HN2.out i (by omega)
        · clear h2
          go_wp2
          go_ret
          refine ⟨⟨false, rfl, fun h => (by cases h), ?_⟩, rfl⟩
          rintro (⟨i, hi, e⟩ | ⟨i, hi, e⟩)
          · exact absurd e (HN.out i (by omega))
          · exact absurd e (HN2.out i (by omega))
end Go.Proofs.Qxb6000561a
