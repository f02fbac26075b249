/- FnMatchesSelectsItsOwn (7): the walk. -/
import Derived.Test.Qxb6000561aSel
import Derived.Test.Qxb6000561aModel
namespace Go.Proofs.Qxb6000561a
open Go.RowKit Go.Maps
set_option linter.unusedVariables false

theorem Ow.il {B : Nat} {w : World} {a : Option Addr} {m c : Nat} {xs : List Int} (h : Ow B w a m c xs) : Il w a m xs := by
  intro i hi
  obtain ⟨g, rfl, _, hlt⟩ := h.addr (by omega)
  exact ⟨g, 0, rfl, hlt, by rw [Nat.zero_add]; exact h.cell i hi⟩
theorem Il.below {w w' : World} {a : Option Addr} {n : Nat} {ls : List Int} (h : Il w a n ls) (hb : Below w.heap.size w w') : Il w' a n ls := by
  intro i hi
  obtain ⟨b, off, e, hlt, hc⟩ := h i hi
  exact ⟨b, off, e, by have := hb.size; omega, (hb.cell (p := ⟨b, off + i, none⟩) hlt).trans hc⟩
theorem Lens.pos {ls : List Int} {ss : List ByteArray} {n : Nat} (h : Lens ls ss n) (i : Nat) (hi : i < ls.length) : 0 ≤ ls.getD i 0 := by
  rw [List.getD_eq_getElem?_getD, List.getElem?_eq_getElem hi]
  obtain ⟨j, _, e⟩ := (h.2 _).1 (List.getElem_mem hi)
  show 0 ≤ ls[i]
  omega

theorem zz_says (a1 a2 a3 a4 : Option Addr) (n1 c1 n2 c2 m c3 c4 : Nat) (ks ps : List ByteArray) (ls cs : List Int) (key : ByteArray) (w : World) (h1 : n1 ≤ 4096) (h2 : n2 ≤ 4096) (hm : m ≤ n2) (hk : key.size ≤ maxLen)
    (k1 : NilOk a1 n1 c1) (k2 : NilOk a2 n2 c2) (s1 : Sa w a1 n1 ks) (s2 : Sa w a2 n2 ps) (l3 : Il w a3 m ls) (l4 : Il w a4 m cs) (hlen : ls.length = m) (hL : Lens ls ps n2) :
    Calls Try.prog 17 #[.slice a1 n1 c1, .slice a2 n2 c2, .slice a3 m c3, .slice a4 m c4, .string key] w fun e w' => Says e (Sel ks ps n1 n2 key) ∧ Below w.heap.size w w' := by
  refine (zz_matches a1 a2 a3 a4 n1 c1 n2 c2 m c3 c4 ks ps ls cs key w h1 h2 (by omega) hk k1 k2 s1 s2 l3 l4 hlen (fun i hi => hL.pos i (by omega))).mono ?_
  rintro e w' ⟨rfl, hb⟩
  exact ⟨⟨_, rfl, sel_iff ks ps n1 n2 ls key hL⟩, hb⟩

theorem sel_key (ks ps : List ByteArray) (n1 n2 i : Nat) (h : i < n1) : Sel ks ps n1 n2 (st ks i) := .inl ⟨i, h, rfl⟩
theorem sel_prefix (ks ps : List ByteArray) (n1 n2 j : Nat) (suf : ByteArray) (h : j < n2) : Sel ks ps n1 n2 (st ps j ++ suf) :=
  .inr ⟨j, h, by simp, by
    apply ByteArray.ext
    simp⟩

set_option maxHeartbeats 2000000 in
set_option maxRecDepth 100000 in
theorem own_walk (a1 a2 : Option Addr) (n1 c1 n2 c2 : Nat) (ks ps : List ByteArray) (i j : Int) (suf : ByteArray) (w : World) (m1 : n1 ≤ maxLen) (m2 : n2 ≤ maxLen) (mk : suf.size ≤ maxLen)
    (k1 : NilOk a1 n1 c1) (k2 : NilOk a2 n2 c2) (s1 : Sa w a1 n1 ks) (s2 : Sa w a2 n2 ps) :
    Calls Try.prog 7 #[.slice a1 n1 c1, .slice a2 n2 c2, .int .i64 i, .int .i64 j, .string suf] w fun e w' => e = .returned (.bool true) ∧ Below w.heap.size w w' := by
  have S1 := hidden s1
  have S2 := hidden s2
  have K1 := hidden k1
  have K2 := hidden k2
  clear s1 s2 k1 k2
  have M1 := hidden m1
  have M2 := hidden m2
  have MK := hidden mk
  unfold maxLen at m1 m2 mk
  go_enter Try.func7, Try.ntmps7
  go_wp2_with fail
  refine (bytes_own a1 a2 n1 c1 n2 c2 ks ps i j suf _ M1.out M2.out MK.out S1.out S2.out).mono ?_
  rintro e w ⟨⟨r, rfl⟩, rfl⟩
  cases r with
  | false =>
    go_wp2
    go_ret
    exact ⟨rfl, Below.refl _ _⟩
  | true =>
  by_cases g1 : 4096 < n1
  · go_wp2
    go_ret
    exact ⟨rfl, Below.refl _ _⟩
  by_cases g2 : 4096 < n2
  · go_wp2
    go_ret
    exact ⟨rfl, Below.refl _ _⟩
  by_cases g3 : 1048576 < suf.size
  · go_wp2
    go_ret
    exact ⟨rfl, Below.refl _ _⟩
  go_wp2_with fail
  refine (str_bytes a1 n1 c1 ks _ (by omega) S1.out).mono ?_
  rintro e w ⟨⟨t1, rfl, p1, q1, R1⟩, rfl⟩
  go_wp2_with fail
  refine (str_bytes a2 n2 c2 ps _ (by omega) S2.out).mono ?_
  rintro e w ⟨⟨t2, rfl, p2, q2, R2⟩, rfl⟩
  have HR2 := hidden R2
  clear R1 R2
  by_cases g4 : 1048576 < t1 + t2 + suf.size
  · go_wp2
    go_ret
    exact ⟨rfl, Below.refl _ _⟩
  go_wp2_with fail
  refine (clone_strs a1 n1 c1 ks _ (by omega) S1.out K1.out).mono ?_
  rintro e w1 ⟨⟨a1', c1', rfl, k1', s1'⟩, hb1⟩
  have S1' := hidden s1'
  have K1' := hidden k1'
  have B1 := hidden hb1
  clear s1' k1' hb1
  go_wp2_with fail
  refine (clone_strs a2 n2 c2 ps _ (by omega) (S2.out.below B1.out) K2.out).mono ?_
  rintro e w2 ⟨⟨a2', c2', rfl, k2', s2'⟩, hb2⟩
  have S2' := hidden s2'
  have K2' := hidden k2'
  have B2 := hidden hb2
  clear s2' k2' hb2
  go_wp2_with fail
  refine (build_lengths a2' n2 c2' ps _ (by omega) S2'.out).mono ?_
  rintro e w3 ⟨a4, a5, m, c4, c5, ls, cs, rfl, T, hL, hmn⟩
  have HT := hidden T
  have HL := hidden hL
  clear T hL
  have HLN := hidden HT.out.o4.length
  have IW4 := hidden HT.out.o4.il
  have IW5 := hidden HT.out.o5.il
  have BW := hidden HT.out.bel
  have SW2 := hidden (S2'.out.below BW.out)
  have SW1 := hidden ((S1'.out.below B2.out).below BW.out)
  have BZ := hidden (B1.out.trans ((B2.out.mono B1.out.size).trans (BW.out.mono (Nat.le_trans B1.out.size B2.out.size))))
  by_cases i0 : 0 ≤ i
  · by_cases i1 : i < n1
    · obtain ⟨iN, rfl⟩ := Int.eq_ofNat_of_zero_le i0
      obtain ⟨b, off, e, hb, hc, hm⟩ := SW1.out iN (by omega)
      subst e
      have hc' : w3.cell? ⟨b, off + iN, none⟩ = some (.string (st ks iN)) := hc
      have hm' : (st ks iN).size ≤ maxLen := hm
      clear hc hm
      obtain ⟨p, hp⟩ : ∃ p, p = st ks iN := ⟨_, rfl⟩
      rw [← hp] at hc' hm'
      have HPE := hidden hp
      have HPM := hidden hm'
      clear hp hm'
      go_wp2_with fail
      refine (zz_says (some ⟨b, off, none⟩) a2' a4 a5 n1 c1' n2 c2' m c4 c5 ks ps ls cs p _ (by omega) (by omega) hmn HPM.out K1'.out K2'.out SW1.out SW2.out IW4.out IW5.out HLN.out HL.out).mono ?_
      rintro e w4 ⟨⟨r, rfl, hr⟩, hb4⟩
      obtain rfl : r = true := hr.2 (by rw [HPE.out]; exact sel_key ks ps n1 n2 iN (by omega))
      have BZ := hidden (BZ.out.trans (hb4.mono BZ.out.size))
      have SW1 := hidden (SW1.out.below hb4)
      have SW2 := hidden (SW2.out.below hb4)
      have IW4 := hidden (IW4.out.below hb4)
      have IW5 := hidden (IW5.out.below hb4)
      have BW := hidden (BW.out.trans (hb4.mono BW.out.size))
      clear hr hb4 hb hc'
      by_cases j0 : 0 ≤ j
      · by_cases j1 : j < n2
        · obtain ⟨jn, rfl⟩ := Int.eq_ofNat_of_zero_le j0
          obtain ⟨b, off, e, hb, hc, hm⟩ := S2'.out jn (by omega)
          subst e
          have x : w4.cell? ⟨b, off + jn, none⟩ = some (.string (st ps jn)) := (BW.out.cell (p := ⟨b, off + jn, none⟩) hb).trans hc
          clear hc hm
          obtain ⟨p, hp⟩ : ∃ p, p = st ps jn := ⟨_, rfl⟩
          rw [← hp] at x
          have hps : p.size ≤ 1048576 := by
            rcases HR2.out with h | h
            · have h2 : ((st ps jn).size : Int) ≤ t2 := h jn (by omega)
              rw [hp]; omega
            · omega
          have HPE := hidden hp
          clear hp
          go_wp2_with fail
          refine (zz_says _ (some ⟨b, off, none⟩) a4 a5 n1 c1' n2 c2' m c4 c5 ks ps ls cs _ _ (by omega) (by omega) hmn ?_ K1'.out K2'.out SW1.out SW2.out IW4.out IW5.out HLN.out HL.out).mono ?_
          · unfold maxLen; simp; omega
          rintro e w5 ⟨⟨r, rfl, hr⟩, hb5⟩
          obtain rfl : r = true := hr.2 (by rw [HPE.out]; exact sel_prefix ks ps n1 n2 jn suf (by omega))
          go_wp2
          go_ret
          exact ⟨rfl, BZ.out.trans (hb5.mono BZ.out.size)⟩
        · go_wp2
          go_ret
          exact ⟨rfl, BZ.out⟩
      · go_wp2
        go_ret
        exact ⟨rfl, BZ.out⟩
    · skip
      by_cases j0 : 0 ≤ j
      · by_cases j1 : j < n2
        · obtain ⟨jn, rfl⟩ := Int.eq_ofNat_of_zero_le j0
          obtain ⟨b, off, e, hb, hc, hm⟩ := S2'.out jn (by omega)
          subst e
          have x : w3.cell? ⟨b, off + jn, none⟩ = some (.string (st ps jn)) := (BW.out.cell (p := ⟨b, off + jn, none⟩) hb).trans hc
          clear hc hm
          obtain ⟨p, hp⟩ : ∃ p, p = st ps jn := ⟨_, rfl⟩
          rw [← hp] at x
          have hps : p.size ≤ 1048576 := by
            rcases HR2.out with h | h
            · have h2 : ((st ps jn).size : Int) ≤ t2 := h jn (by omega)
              rw [hp]; omega
            · omega
          have HPE := hidden hp
          clear hp
          go_wp2_with fail
          refine (zz_says _ (some ⟨b, off, none⟩) a4 a5 n1 c1' n2 c2' m c4 c5 ks ps ls cs _ _ (by omega) (by omega) hmn ?_ K1'.out K2'.out SW1.out SW2.out IW4.out IW5.out HLN.out HL.out).mono ?_
          · unfold maxLen; simp; omega
          rintro e w5 ⟨⟨r, rfl, hr⟩, hb5⟩
          obtain rfl : r = true := hr.2 (by rw [HPE.out]; exact sel_prefix ks ps n1 n2 jn suf (by omega))
          go_wp2
          go_ret
          exact ⟨rfl, BZ.out.trans (hb5.mono BZ.out.size)⟩
        · go_wp2
          go_ret
          exact ⟨rfl, BZ.out⟩
      · go_wp2
        go_ret
        exact ⟨rfl, BZ.out⟩
  · skip
    by_cases j0 : 0 ≤ j
    · by_cases j1 : j < n2
      · obtain ⟨jn, rfl⟩ := Int.eq_ofNat_of_zero_le j0
        obtain ⟨b, off, e, hb, hc, hm⟩ := S2'.out jn (by omega)
        subst e
        have x : w3.cell? ⟨b, off + jn, none⟩ = some (.string (st ps jn)) := (BW.out.cell (p := ⟨b, off + jn, none⟩) hb).trans hc
        clear hc hm
        obtain ⟨p, hp⟩ : ∃ p, p = st ps jn := ⟨_, rfl⟩
        rw [← hp] at x
        have hps : p.size ≤ 1048576 := by
          rcases HR2.out with h | h
          · have h2 : ((st ps jn).size : Int) ≤ t2 := h jn (by omega)
            rw [hp]; omega
          · omega
        have HPE := hidden hp
        clear hp
        go_wp2_with fail
        refine (zz_says _ (some ⟨b, off, none⟩) a4 a5 n1 c1' n2 c2' m c4 c5 ks ps ls cs _ _ (by omega) (by omega) hmn ?_ K1'.out K2'.out SW1.out SW2.out IW4.out IW5.out HLN.out HL.out).mono ?_
        · unfold maxLen; simp; omega
        rintro e w5 ⟨⟨r, rfl, hr⟩, hb5⟩
        obtain rfl : r = true := hr.2 (by rw [HPE.out]; exact sel_prefix ks ps n1 n2 jn suf (by omega))
        go_wp2
        go_ret
        exact ⟨rfl, BZ.out.trans (hb5.mono BZ.out.size)⟩
      · go_wp2
        go_ret
        exact ⟨rfl, BZ.out⟩
    · go_wp2
      go_ret
      exact ⟨rfl, BZ.out⟩
end Go.Proofs.Qxb6000561a
