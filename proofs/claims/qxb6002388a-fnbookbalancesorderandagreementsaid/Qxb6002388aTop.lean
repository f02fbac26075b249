/- FnBookBalancesOrderAndAgreement (4): the walk. -/
import Derived.Test.Qxb6002388aTopPre
namespace Go.Proofs.Qxb6002388a
open Go.RowKit Go.Maps Go.Sort Go.Shelf Go.Proofs
set_option linter.unusedVariables false
set_option maxRecDepth 100000

set_option maxHeartbeats 4000000 in
theorem book_walk (a1 a2 a3 : Option Addr) (n1 c1 n2 c2 n3 c3 : Nat) (ss1 : List ByteArray) (zs : List Int) (ss3 : List ByteArray) (w : World) (m1 : n1 ≤ maxLen) (m2 : n2 ≤ maxLen) (m3 : n3 ≤ maxLen) (k1 : NilOk a1 n1 c1) (k2 : NilOk a2 n2 c2) (k3 : NilOk a3 n3 c3)
    (s1 : Sa w a1 n1 ss1) (s2 : Ia w a2 n2 zs) (s3 : Sa w a3 n3 ss3) :
    Calls Try.prog 4 #[.slice a1 n1 c1, .slice a2 n2 c2, .slice a3 n3 c3] w fun e w' => e = .returned (.bool true) ∧ Below w.heap.size w w' := by
  have S1 := hidden s1
  have S2 := hidden s2
  have S3 := hidden s3
  have K1 := hidden k1
  have K2 := hidden k2
  have K3 := hidden k3
  have M1 := hidden m1
  have M2 := hidden m2
  have M3 := hidden m3
  unfold maxLen at m1 m2 m3
  clear s1 s2 s3 k1 k2 k3
  go_enter Try.func4, Try.ntmps4
  go_wp2_with fail
  refine (zz_bytes3 a1 n1 c1 ss1 a2 n2 c2 a3 n3 c3 ss3 _ M1.out M2.out M3.out S1.out S3.out).mono ?_
  rintro e w ⟨⟨r, rfl⟩, rfl⟩
  cases r with
  | false =>
    go_wp2
    go_ret
    exact ⟨rfl, Below.refl _ _⟩
  | true =>
  go_wp2_with fail
  refine (g1_bytes a1 n1 c1 ss1 _ M1.out S1.out).mono ?_
  rintro e w ⟨⟨t, rfl⟩, rfl⟩
  go_wp2_with fail
  refine (g1_bytes a3 n3 c3 ss3 _ M3.out S3.out).mono ?_
  rintro e w ⟨⟨u, rfl⟩, rfl⟩
  by_cases g1 : 1048576 < wrap64 (wrap64 (t + u) + n2)
  · go_wp2
    go_ret
    exact ⟨rfl, Below.refl _ _⟩
  by_cases g2 : 8 < n1
  · go_wp2
    go_ret
    exact ⟨rfl, Below.refl _ _⟩
  by_cases g3 : 64 < n2
  · go_wp2
    go_ret
    exact ⟨rfl, Below.refl _ _⟩
  by_cases g4 : 64 < n3
  · go_wp2
    go_ret
    exact ⟨rfl, Below.refl _ _⟩
  by_cases g5 : n1 = 0
  · subst g5
    go_wp2
    go_ret
    exact ⟨rfl, Below.refl _ _⟩
  have g6 : ((n1 : Int) == 0) = false := by simp; omega
  go_wp2_with fail
  refine (clone_strs a1 n1 c1 ss1 _ (by omega) S1.out K1.out).mono ?_
  rintro e w1 ⟨⟨b1, d1, rfl, _, hnc1, t1⟩, hb1⟩
  have T1 := hidden t1
  have B1 := hidden hb1
  clear t1 hb1 g1
  go_wp2_with fail
  refine (clone_bytes a2 n2 c2 zs _ (by omega) (S2.out.below B1.out) K2.out).mono ?_
  rintro e w2 ⟨⟨b2, d2, rfl, t2⟩, hb2⟩
  have T2 := hidden t2
  have B2 := hidden hb2
  clear t2 hb2
  go_wp2_with fail
  refine (clone_strs a3 n3 c3 ss3 _ (by omega) ((S3.out.below B1.out).below (B2.out.mono (Nat.le_refl _))) K3.out).mono ?_
  rintro e w3 ⟨⟨b3, d3, rfl, _, hnc3, t3⟩, hb3⟩
  have T3 := hidden t3
  have T1' := hidden ((T1.out.below B2.out).below hb3)
  have T2' := hidden (T2.out.below hb3)
  have B3 := hidden (B1.out.trans ((B2.out.mono B1.out.size).trans (hb3.mono (Nat.le_trans B1.out.size B2.out.size))))
  clear t3 hb3 T1 T2 B1 B2 S1 S2 S3 K1 K2 K3
  go_wp2_with (first
    | (refine wpList_alloc_row (w3.alloc (.cells #[.map none] 28)) rfl 46 rfl 64 (.string ByteArray.empty) zero46 ?_; intro wx hrx hbx hsx)
    | (refine wpList_alloc_row wx rfl 46 rfl 64 (.string ByteArray.empty) zero46 ?_; intro wy hry hby hsy)
    | fail)
  obtain ⟨K, hKe⟩ : ∃ K, K = w3.heap.size := ⟨_, rfl⟩
  have HS1 : Hid (Scr K (K + 3) (K + 1) (K + 1 + 1) 0 w3 wy 0 (fun _ => (ByteArray.empty, ByteArray.empty))) := by
    rw [World.size_alloc] at hrx hbx hsx
    have hsx' : wx.heap.size = w3.heap.size + 2 := by omega
    rw [hsx'] at hry hby hsy
    rw [hKe]
    exact scr_start hrx hbx hsx' hry hby (by omega)
  clear hrx hbx hsx hry hby hsy
  rw [← hKe]
  have HKE := hidden hKe
  clear hKe
  have HW : Hid (Where K (K + 3) (K + 1) (K + 1 + 1)) := ⟨by omega, by omega, by omega⟩
  refine (script_loop K (K + 3) (K + 1) (K + 1 + 1) HW.out w3 wy HKE.out.symm b1 b2 b3 n1 d1 n2 d2 n3 d3 ss1 zs ss3 (by omega) (by omega) (by omega) (by omega) T1'.out T2'.out T3.out _ HS1.out).mono ?_
  rintro e w5 ⟨m, N, f, rfl, hm, hN, hS⟩
  obtain ⟨rB, nB, DB, hbk⟩ := hS.bk
  have HS5 := hidden hS
  have HBK5 := hidden hbk
  clear hS hbk HS1
  go_wp2_with fail
  refine (book_balances HBK5.out (by omega)).mono ?_
  rintro e w6 ⟨v, R, rfl, hG⟩
  have HG := hidden hG
  clear hG
  have hsl := slice46 m hm
  have HR6 : Hid (∀ W : World, W.heap = w6.heap → Rows2 W (K + 1) (K + 1 + 1) f) := fun W hW => by
    have hx := HS5.out.row.x
    have hy := HS5.out.row.y
    exact ⟨hx.of_block (by rw [hW]; exact HG.out.bel.block _ hx.lt), hy.of_block (by rw [hW]; exact HG.out.bel.block _ hy.lt)⟩
  go_upto_region 16 with fail
  go_cut [] (fun wc => Hid (Sorts w6 wc (K + 1) (K + 1 + 1) m f))
  case first =>
    go_region_with (go_at_call 18; refine (sort_pairs (K + 1) (K + 1 + 1) m f w6.drew hm (by omega) (HR6.out w6.drew rfl)).mono ?_; rintro e w' ⟨rfl, hso⟩)
    all_goals (go_wp2_with fail; go_meet; exact ⟨hso.ex, hso.kept.os, hso.kept.tape, hso.kept.output, hso.kept.size, hso.kept.block⟩)
  case rest =>
  obtain ⟨f', hrow, ⟨hRl, hRf⟩, hB⟩ := aft HS5.out HBK5.out HG.out hcut.out
  obtain ⟨ag, cg, rfl⟩ := own_slice hB.own
  have HROW := hidden hrow
  have HRF := hidden hRf
  have HB := hidden hB
  have HPW := hidden HG.out.sorted
  have HMEM := hidden HG.out.mem
  have HZ : Hid (K + 3 ≤ w5.heap.size ∧ w5.heap.size ≤ wc.heap.size) := ⟨HS5.out.sz, Nat.le_trans HG.out.bel.size hcut.out.kept.size⟩
  obtain ⟨Z, hZe⟩ : ∃ Z, Z = w5.heap.size := ⟨_, rfl⟩
  rw [← hZe] at HB HZ
  clear hZe hrow hRf hB hcut HS5 HBK5 HR6 HG hsl
  rw [hRl] at HB ⊢
  obtain ⟨wo, hwo⟩ : ∃ wo : World, wo = wc := ⟨_, rfl⟩
  rw [← hwo]
  rw [← hwo] at HB HROW HZ
  clear hwo
  have hmm : ((m : Int) != (m : Int)) = false := by simp
  go_wp2
  go_loopw [12] (fun i wr => ∃ k q : Nat, k ≤ m ∧ i = .int .i64 k ∧ wr = wo.drewN q) (fun i _ => m - (intOf i).toNat)
  case atStart => exact ⟨0, 0, Nat.zero_le _, rfl, rfl⟩
  case round =>
    obtain ⟨k, q, hk, rfl, rfl⟩ := hrel
    by_cases hlt : k < m
    · obtain ⟨wq, hwq⟩ : ∃ wq, wq = wo.drewN q := ⟨_, rfl⟩
      have hown : wq.ownsRow Z 40 8 (.slice ag m cg) m (rowsB R) := by
        have := (HB.out.drewN q).own
        rw [hRl, ← hwq] at this
        exact this
      obtain ⟨g, hga, hgl, hc0, hc1⟩ := own_at hown hRl k hlt
      subst hga
      have hx0 : wq.cell? ⟨K + 1, k, none⟩ = some (.string (R[k]!).1) := by
        rw [HRF.out k hlt, hwq]; exact HROW.out.x.cell (i := k) (by omega)
      have hy0 : wq.cell? ⟨K + 1 + 1, k, none⟩ = some (.string (R[k]!).2) := by
        rw [HRF.out k hlt, hwq]; exact HROW.out.y.cell (i := k) (by omega)
      have HWQ := hidden hwq
      rw [← hwq]
      clear hwq hown
      generalize (R[k]!).1 = x1 at *
      generalize (R[k]!).2 = x2 at *
      have e1 : (x1.toList != x1.toList) = false := by simp
      have e2 : (x2.toList != x2.toList) = false := by simp
      go_wp2
      go_quiet (fail)
      go_wp2
      exact ⟨⟨k + 1, q + nq, by omega, by go_num, by rw [HWQ.out, World.drewN_drewN]⟩, by simp [intOf]; omega⟩
    · obtain rfl : k = m := by omega
      have HB0 := hidden (HB.out.drewN q)
      have HZ0 : Hid (K + 3 ≤ Z ∧ Z ≤ (wo.drewN q).heap.size) := HZ.out
      obtain ⟨wq, hwq⟩ : ∃ wq, wq = wo.drewN q := ⟨_, rfl⟩
      rw [← hwq] at HB0 HZ0 ⊢
      clear hwq HB HROW HRF HZ
      go_wp2
      go_loopw [13, 14, 15, 16, 17] (fun i _ _ _ _ wr => ∃ x N : Nat, x ≤ n1 ∧ i = .int .i64 x ∧ N ≤ 128 + x ∧ Hid (Bft K Z w3 wr k N f (.slice ag k cg) R) ∧ Hid (K + 3 ≤ Z ∧ Z ≤ wr.heap.size)) (fun i _ _ _ _ _ => n1 - (intOf i).toNat)
      case atStart => exact ⟨0, N, Nat.zero_le _, rfl, by omega, HB0, HZ0⟩
      case round =>
        clear HB0 HZ0
        obtain ⟨x, N, hx, rfl, hN, HB, HZ⟩ := hrel
        by_cases hlx : x < n1
        · obtain ⟨bt, offt, e, hbt, hct, hmt⟩ := T1'.out x hlx
          subst e
          have hcx : wr.cell? ⟨bt, offt + x, none⟩ = some (.string (st ss1 x)) := (HB.out.bel.cell (p := ⟨bt, offt + x, none⟩) (show bt < K by have := HKE.out; omega)).trans hct
          have STX : Hid (Sa wr (some ⟨bt, offt, none⟩) n1 ss1) := T1'.out.below (by have := HB.out.bel; rw [HKE.out] at this; exact this)
          obtain ⟨t0, ht0⟩ : ∃ t0, t0 = st ss1 x := ⟨_, rfl⟩
          have HM : Hid (t0.size ≤ maxLen) := by rw [ht0]; exact hmt
          rw [← ht0] at hcx
          clear ht0 hmt hct
          have hsk : x ≤ d1 := by omega
          cases hin : inB ss1 x t0 with
          | true =>
            have HIN := hidden hin
            clear hin
            go_wp2_with fail
            refine (g1_has _ x d1 ss1 t0 _ (by omega) (STX.out.mono (by omega))).mono ?_
            rintro e wz ⟨rfl, rfl⟩
            rw [HIN.out]
            go_wp2
            exact ⟨⟨x + 1, N, by omega, by go_num, by omega, HB, HZ⟩, by simp [intOf]; omega⟩
          | false =>
            have HIN := hidden hin
            clear hin
            go_wp2_with fail
            refine (g1_has _ x d1 ss1 t0 _ (by omega) (STX.out.mono (by omega))).mono ?_
            rintro e wz ⟨rfl, rfl⟩
            rw [HIN.out]
            go_wp2_with fail
            obtain ⟨rB, nB, DB, hbk⟩ := HB.out.bk
            refine (book_any hbk HB.out.sz (by omega) t0 HM.out).mono ?_
            rintro e wa ⟨L, rfl, hA⟩
            obtain ⟨rB', nB', DB', hbk', ht', hat'⟩ := hA.ex
            obtain ⟨L', r, n, D, ha', hl⟩ := hbk'.led t0 ht'
            have e2 : L' = L := by
              have e := (ha' .nil).symm.trans (hat' .nil)
              injection e with e; injection e with _ e; omega
            subst e2
            have HLG := hidden hl
            have HA := hidden hA
            clear hl hA hbk hbk' ht' hat' ha' hcx
            go_wp2_with fail
            refine (balances_own t0 L' wa r n D HLG.out.led (by have := HLG.out.n; omega)).mono ?_
            rintro e wb ⟨G, mm, T, rfl, ho, hlT, hmm', hSO, hbb⟩
            have HL := hidden ((HB.out.asked HZ.out.1 HA.out).listed (Nat.le_trans HZ.out.2 HA.out.kept.size) HPW.out HMEM.out hSO HLG.out.has ho hlT hmm' hbb)
            have HZb : Hid (K + 3 ≤ Z ∧ Z ≤ wb.heap.size) := ⟨HZ.out.1, Nat.le_trans HZ.out.2 (Nat.le_trans HA.out.kept.size hbb.size)⟩
            clear ho hlT hSO hbb HLG HA HB HZ STX
            go_wp2
            go_loopw [16, 17] (fun jv iv wr => ∃ i q : Nat, i ≤ k ∧ iv = .int .i64 i ∧ jv = .int .i64 (cnt t0 R i) ∧ wr = wb.drewN q) (fun _ iv _ => k - (intOf iv).toNat)
            case atStart => exact ⟨0, 0, Nat.zero_le _, rfl, rfl, rfl⟩
            case round =>
              obtain ⟨i, q, hi, rfl, rfl, rfl⟩ := hrel
              by_cases hli : i < k
              · obtain ⟨wq, hwq⟩ : ∃ wq, wq = wb.drewN q := ⟨_, rfl⟩
                have HLq := hidden (HL.out.drewN q)
                rw [← hwq] at HLq ⊢
                have HWQ := hidden hwq
                clear hwq
                have hown : wq.ownsRow Z 40 8 (.slice ag k cg) k (rowsB R) := by
                  have := HLq.out.bft.own
                  rw [hRl] at this
                  exact this
                obtain ⟨g, hga, hgl, hc0, hc1⟩ := own_at hown hRl i hli
                subst hga
                clear hown
                by_cases hxt : (R[i]!).1 = t0
                · obtain ⟨q1, q2, q3⟩ := cnt_yes (t := t0) (R := R) (by omega) hxt
                  rw [HLq.out.len] at q2
                  obtain ⟨g', hg', hgl', hd0, hd1⟩ := own_at HLq.out.own HLq.out.len (cnt t0 R i) q2
                  cases hg'
                  rw [q3] at hd0 hd1
                  rw [hxt] at hc1 hd1
                  have HQ1 := hidden q1
                  clear q1 q3 hxt
                  generalize (R[i]!).2 = x2 at *
                  obtain ⟨j, hj⟩ : ∃ j, j = cnt t0 R i := ⟨_, rfl⟩
                  rw [← hj] at hd0 hd1 q2 HQ1 ⊢
                  clear hj
                  have hjm : decide ((mm : Int) ≤ (j : Int)) = false := by simp; omega
                  have e1 : (t0.toList != t0.toList) = false := by simp
                  have e2 : (x2.toList != x2.toList) = false := by simp
                  go_wp2
                  go_quiet (fail)
                  go_wp2
                  exact ⟨⟨i + 1, q + nq, by omega, by go_num, by rw [HQ1.out]; go_num, by rw [HWQ.out, World.drewN_drewN]⟩, by simp [intOf]; omega⟩
                · have HQ1 := hidden (cnt_no (t := t0) (R := R) (i := i) (by omega) hxt)
                  have e1 : ((R[i]!).1.toList != t0.toList) = true := by
                    have := (Lib.bytes_beq_false_iff (R[i]!).1 t0).2 hxt
                    simp only [bne, this]
                    rfl
                  have e3 : ((R[i]!).1.toList == t0.toList) = false := (Lib.bytes_beq_false_iff (R[i]!).1 t0).2 hxt
                  have HX := hidden hxt
                  clear hxt
                  clear HX
                  generalize (R[i]!).1 = x1 at *
                  obtain ⟨j, hj⟩ : ∃ j, j = cnt t0 R i := ⟨_, rfl⟩
                  rw [← hj] at HQ1 ⊢
                  clear hj
                  go_wp2
                  all_goals first
                    | exact ⟨⟨i + 1, q, by omega, by go_num, by rw [HQ1.out], HWQ.out⟩, by simp [intOf]; omega⟩
                    | (exfalso; simp_all; done)
              · obtain rfl : i = k := by omega
                have hcm : cnt t0 R i = mm := by
                  have := cnt_all t0 R
                  rw [hRl, HL.out.len] at this
                  exact this
                rw [hcm]
                clear hcm
                have e0 : ((mm : Int) != (mm : Int)) = false := by simp
                have HN := hidden (HL.out.drewN q).bft
                have HZq : Hid (K + 3 ≤ Z ∧ Z ≤ (wb.drewN q).heap.size) := HZb.out
                go_wp2
                exact ⟨⟨x + 1, N + 1, by omega, by go_num, by omega, HN, HZq⟩, by simp [intOf]; omega⟩
        · go_wp2
          go_ret
          exact ⟨rfl, B3.out.trans (HB.out.bel.mono (by rw [HKE.out]; exact B3.out.size))⟩
end Go.Proofs.Qxb6002388a
