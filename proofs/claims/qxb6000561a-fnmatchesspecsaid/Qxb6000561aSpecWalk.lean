/- FnMatchesSpec (5): the walk. -/
import Derived.Test.Qxb6000561aOwnWalk
namespace Go.Proofs.Qxb6000561a
open Go.RowKit Go.Maps
set_option linter.unusedVariables false

set_option maxHeartbeats 2000000 in
set_option maxRecDepth 100000 in
theorem spec_walk (a1 a2 : Option Addr) (n1 c1 n2 c2 : Nat) (ks ps : List ByteArray) (suf : ByteArray) (w : World) (m1 : n1 ≤ maxLen) (m2 : n2 ≤ maxLen) (mk : suf.size ≤ maxLen)
    (k1 : NilOk a1 n1 c1) (k2 : NilOk a2 n2 c2) (s1 : Sa w a1 n1 ks) (s2 : Sa w a2 n2 ps) :
    Calls Try.prog 5 #[.slice a1 n1 c1, .slice a2 n2 c2, .string suf] w fun e w' => e = .returned (.bool true) ∧ Below w.heap.size w w' := by
  have S1 := hidden s1
  have S2 := hidden s2
  have K1 := hidden k1
  have K2 := hidden k2
  clear s1 s2 k1 k2
  have M1 := hidden m1
  have M2 := hidden m2
  have MK := hidden mk
  unfold maxLen at m1 m2 mk
  go_enter Try.func5, Try.ntmps5
  go_wp2_with fail
  refine (bytes_spec a1 a2 n1 c1 n2 c2 ks ps suf _ M1.out M2.out MK.out S1.out S2.out).mono ?_
  rintro e w ⟨⟨r, rfl⟩, rfl⟩
  cases r with
  | false =>
    go_wp2
    go_ret
    exact ⟨rfl, Below.refl _ _⟩
  | true =>
  by_cases g1 : 4096 < n1
  · go_wp2
    go_ret
    exact ⟨rfl, Below.refl _ _⟩
  by_cases g2 : 4096 < n2
  · go_wp2
    go_ret
    exact ⟨rfl, Below.refl _ _⟩
  by_cases g3 : 1048576 < suf.size
  · go_wp2
    go_ret
    exact ⟨rfl, Below.refl _ _⟩
  go_wp2_with fail
  refine (str_bytes a1 n1 c1 ks _ (by omega) S1.out).mono ?_
  rintro e w ⟨⟨t1, rfl, p1, q1, R1⟩, rfl⟩
  go_wp2_with fail
  refine (str_bytes a2 n2 c2 ps _ (by omega) S2.out).mono ?_
  rintro e w ⟨⟨t2, rfl, p2, q2, R2⟩, rfl⟩
  have HR2 := hidden R2
  clear R1 R2
  by_cases g4 : 1048576 < t1 + t2 + suf.size
  · go_wp2
    go_ret
    exact ⟨rfl, Below.refl _ _⟩
  go_wp2_with fail
  refine (clone_strs a1 n1 c1 ks _ (by omega) S1.out K1.out).mono ?_
  rintro e w1 ⟨⟨a1', c1', rfl, k1', s1'⟩, hb1⟩
  have S1' := hidden s1'
  have K1' := hidden k1'
  have B1 := hidden hb1
  clear s1' k1' hb1
  go_wp2_with fail
  refine (clone_strs a2 n2 c2 ps _ (by omega) (S2.out.below B1.out) K2.out).mono ?_
  rintro e w2 ⟨⟨a2', c2', rfl, k2', s2'⟩, hb2⟩
  have S2' := hidden s2'
  have K2' := hidden k2'
  have B2 := hidden hb2
  clear s2' k2' hb2
  go_wp2_with fail
  refine (build_lengths a2' n2 c2' ps _ (by omega) S2'.out).mono ?_
  rintro e w3 ⟨a4, a5, m, c4, c5, ls, cs, rfl, T, hL, hmn⟩
  have HT := hidden T
  have HL := hidden hL
  clear T hL
  have HLN := hidden HT.out.o4.length
  have IW4 := hidden HT.out.o4.il
  have IW5 := hidden HT.out.o5.il
  have BW := hidden HT.out.bel
  have SW2 := hidden (S2'.out.below BW.out)
  have SW1 := hidden ((S1'.out.below B2.out).below BW.out)
  have BZ := hidden (B1.out.trans ((B2.out.mono B1.out.size).trans (BW.out.mono (Nat.le_trans B1.out.size B2.out.size))))
  go_wp2_with fail
  refine (zz_says a1' a2' a4 a5 n1 c1' n2 c2' m c4 c5 ks ps ls cs suf _ (by omega) (by omega) hmn MK.out K1'.out K2'.out SW1.out SW2.out IW4.out IW5.out HLN.out HL.out).mono ?_
  rintro e w4 ⟨⟨r, rfl, hr⟩, hb4⟩
  have HR := hidden hr
  have B4 := hidden hb4
  clear hr hb4
  go_wp2_with fail
  refine (model_selects a1' a2' n1 c1' n2 c2' ks ps suf _ (by omega) (by omega) (by omega) (SW1.out.below B4.out) (SW2.out.below B4.out)).mono ?_
  rintro e w4 ⟨⟨r', rfl, hr'⟩, rfl⟩
  obtain rfl : r = r' := by
    have h := HR.out.trans hr'.symm
    cases r <;> cases r' <;> simp_all
  clear hr'
  go_wp2
  go_ret
  exact ⟨by simp, BZ.out.trans (B4.out.mono BZ.out.size)⟩
end Go.Proofs.Qxb6000561a
