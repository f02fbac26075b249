/- FnLedgerBalancesSortedAndComplete (3): the walk. -/
import Derived.Test.Qxb6002388aBal
import Derived.Test.Qxb6002388aBook
import Derived.Sort.Walk0
import Derived.BigQuiet
import Derived.Deep.QuietTactic
namespace Go.Proofs.Qxb6002388a
open Go.RowKit Go.Maps Go.Sort Go.Proofs
set_option linter.unusedVariables false

/-- the ledger behind the first k names -/
structure Step (tok : ByteArray) (L B : Nat) (w0 w : World) (r : Option Nat) (n : Nat) (D : DataW Unit) (ss : List ByteArray) (k : Nat) : Prop where
  led : Led tok L w r n D
  n : n ≤ k
  has : ∀ s, Maps.has D (ky s) = inB ss k s
  size : Maps.size D = dist ss k
  bel : Below B w0 w
  r : ∀ b, r = some b → B ≤ b

theorem inB_succ (ss : List ByteArray) (k : Nat) (s : ByteArray) : inB ss (k + 1) s = (inB ss k s || decide (s = st ss k)) := by
  unfold inB
  rw [List.range_succ]
  simp [eq_comm]

theorem Step.open {tok : ByteArray} {L B : Nat} {w0 w w' : World} {r r' : Option Nat} {n n' : Nat} {D D' : DataW Unit} {ss : List ByteArray} {k : Nat} (h : Step tok L B w0 w r n D ss k) (hL : B ≤ L) (hB : B ≤ w.heap.size) (o : Opened tok L w w' r r' n n' D D' (st ss k)) :
    Step tok L B w0 w' r' n' D' ss (k + 1) := by
  refine ⟨o.led, by have := o.n; have := h.n; omega, fun s => ?_, ?_, h.bel.trans (o.kept.below B hB (fun j hj hS => ?_)), fun b hb => ?_⟩
  · rw [o.has, h.has, inB_succ]
  · rw [o.size, h.size, h.has]; rfl
  · rcases hS with e | e
    · omega
    · exact h.r j e
  · cases hr : r with
    | none => obtain ⟨b', e, hb'⟩ := o.r.2 hr; rw [e] at hb; cases hb; omega
    | some b' => have e := o.r.1 b' hr; rw [e] at hb; cases hb; exact h.r b hr

theorem sorted_less {T : List (List UInt8)} (h : T.Pairwise (· < ·)) (y : Nat) (hy : y + 1 < T.length) : Op.bytesLess (st (nms T) y).toList (st (nms T) (y + 1)).toList = true := by
  rw [nms_at T y (by omega), nms_at T (y + 1) hy, bytesLess_eq, ByteArray.toList_eq, ByteArray.toList_eq]
  have := List.pairwise_iff_getElem.1 h y (y + 1) (by omega) hy (by omega)
  simp [List.getElem?_eq_getElem (show y < T.length by omega), List.getElem?_eq_getElem hy, this]
theorem Bals.drewN {w : World} {a : Option Addr} {m c : Nat} {T : List (List UInt8)} {tok : ByteArray} (h : Bals w a m c T tok) (q : Nat) : Bals (w.drewN q) a m c T tok :=
  ⟨by obtain ⟨G, h1, h2, h3⟩ := h.adr; exact ⟨G, h1, h2, fun i hi j v hv => h3 i hi j v hv⟩, h.len⟩
theorem Rw.at {w : World} {G : Nat} {N : List ByteArray} {tok : ByteArray} {m : Nat} (h : Rw w G N tok m) (i : Nat) (hi : i < m) :
    w.cell? ⟨G, i * 8, none⟩ = some (.string (st N i)) ∧ w.cell? ⟨G, i * 8 + 1, none⟩ = some (.string tok) ∧ w.cell? ⟨G, i * 8 + 2, none⟩ = some (.pointer none) ∧ w.cell? ⟨G, i * 8 + 3, none⟩ = some (.int .i64 0) ∧ w.cell? ⟨G, i * 8 + 4, none⟩ = some (.int .i64 0) ∧
      w.cell? ⟨G, i * 8 + 5, none⟩ = some (.pointer none) ∧ w.cell? ⟨G, i * 8 + 6, none⟩ = some (.int .i64 0) ∧ w.cell? ⟨G, i * 8 + 7, none⟩ = some (.int .i64 0) :=
  ⟨h i hi 0 _ rfl, h i hi 1 _ rfl, h i hi 2 _ rfl, h i hi 3 _ rfl, h i hi 4 _ rfl, h i hi 5 _ rfl, h i hi 6 _ rfl, h i hi 7 _ rfl⟩
theorem Rw.below {w w' : World} {G : Nat} {N : List ByteArray} {tok : ByteArray} {m : Nat} (h : Rw w G N tok m) (hb : Below w.heap.size w w') (hG : G < w.heap.size) : Rw w' G N tok m :=
  fun i hi j v hv => (hb.cell (p := ⟨G, i * 8 + j, none⟩) hG).trans (h i hi j v hv)

set_option maxHeartbeats 2000000 in
set_option maxRecDepth 100000 in
theorem led_walk (tok : ByteArray) (a1 : Option Addr) (n1 c1 : Nat) (ss : List ByteArray) (w : World) (m0 : tok.size ≤ maxLen) (m1 : n1 ≤ maxLen) (k1 : NilOk a1 n1 c1) (s1 : Sa w a1 n1 ss) :
    Calls Try.prog 3 #[.string tok, .slice a1 n1 c1] w fun e w' => e = .returned (.bool true) ∧ Below w.heap.size w w' := by
  have S1 := hidden s1
  have K1 := hidden k1
  have M0 := hidden m0
  have M1 := hidden m1
  unfold maxLen at m0 m1
  clear s1 k1
  go_enter Try.func3, Try.ntmps3
  go_wp2_with fail
  refine (zz_bytes tok a1 n1 c1 ss _ M0.out M1.out S1.out).mono ?_
  rintro e w ⟨⟨r, rfl⟩, rfl⟩
  cases r with
  | false =>
    go_wp2
    go_ret
    exact ⟨rfl, Below.refl _ _⟩
  | true =>
  go_wp2_with fail
  refine (g1_bytes a1 n1 c1 ss _ M1.out S1.out).mono ?_
  rintro e w ⟨⟨t, rfl⟩, rfl⟩
  by_cases g1 : 1048576 < wrap64 ((tok.size : Int) + t)
  · go_wp2
    go_ret
    exact ⟨rfl, Below.refl _ _⟩
  by_cases g2 : 64 < n1
  · go_wp2
    go_ret
    exact ⟨rfl, Below.refl _ _⟩
  go_wp2_with fail
  refine (clone_strs a1 n1 c1 ss _ (by omega) S1.out K1.out).mono ?_
  rintro e w1 ⟨⟨a1', c1', rfl, k1', hnc, s1'⟩, hb1⟩
  have S1' := hidden s1'
  have B1 := hidden hb1
  clear s1' k1' hb1 g1
  go_wp2_with fail
  refine (book_first w1.heap.size tok _ M0.out (Deep.blk_alloc_new w1 _)).mono ?_
  rintro e w3 ⟨L, rfl, hL, hK, hLs⟩
  rw [World.size_alloc] at hLs
  have HST : Hid (Step tok L w1.heap.size w1 w3 none 0 (.map []) ss 0) := by
    refine ⟨hL, Nat.le_refl _, fun s => rfl, rfl, ((Below.refl _ w1).alloc (Nat.le_refl _) _).trans (hK.below _ (by simp) (fun k _ e => by omega)), fun b hb => by cases hb⟩
  clear hL hK
  go_wp2
  go_loopw [7] (fun i wr => ∃ (k n : Nat) (r : Option Nat) (D : DataW Unit), k ≤ n1 ∧ i = .int .i64 k ∧ Hid (Step tok L w1.heap.size w1 wr r n D ss k)) (fun i _ => n1 - (intOf i).toNat)
  case atStart => exact ⟨0, 0, none, _, Nat.zero_le _, rfl, HST⟩
  case round =>
    clear HST
    obtain ⟨k, n, r, D, hk, rfl, HST⟩ := hrel
    by_cases hlt : k < n1
    · obtain ⟨b, off, e, hb, hc, hmx⟩ := S1'.out k hlt
      subst e
      have hcx : wr.cell? ⟨b, off + k, none⟩ = some (.string (st ss k)) := (HST.out.bel.cell (p := ⟨b, off + k, none⟩) hb).trans hc
      obtain ⟨s, hs⟩ : ∃ s, s = st ss k := ⟨_, rfl⟩
      have hmx' : (st ss k).size ≤ maxLen := hmx
      rw [← hs] at hcx hmx'
      have HS := hidden hs
      have HM := hidden hmx'
      clear hs hmx hmx' hc
      go_wp2_with fail
      refine (zz_open tok L wr r n D s HM.out (by have := HST.out.n; unfold maxLen; omega) HST.out.led).mono ?_
      rintro e w4 ⟨⟨g, rfl⟩, r', n', D', hO⟩
      have HN := hidden (HST.out.open (by omega) HST.out.bel.size (by rw [← HS.out]; exact hO))
      clear hO
      go_wp2
      exact ⟨⟨k + 1, n', r', D', by omega, by go_num, HN⟩, by simp [intOf]; omega⟩
    · obtain rfl : k = n1 := by omega
      obtain ⟨wo, hwo⟩ : ∃ wo : World, wo = wr := ⟨_, rfl⟩
      rw [← hwo]
      rw [← hwo] at HST
      clear hwo
      go_wp2_with fail
      refine (balances_any tok L wo r n D HST.out.led (by have := HST.out.n; omega)).mono ?_
      rintro e w4 ⟨ab, m, cb, T, rfl, hBL, hSO, hb4⟩
      have HBL := hidden hBL
      have HSO := hidden hSO
      have B4 := hidden hb4
      have hmd : m = dist ss k := by rw [← hBL.len, hSO.len, HST.out.size]
      have hmk : m ≤ k := by rw [hmd]; exact dist_le ss k
      have HMD := hidden hmd
      have S4 := hidden ((S1'.out.below HST.out.bel).below B4.out)
      clear hBL hSO hb4 hmd
      go_wp2_with fail
      refine (g1_distinct a1' k c1' ss _ (by omega) hnc S4.out).mono ?_
      rintro e w5 ⟨rfl, q, rfl⟩
      rw [← HMD.out]
      obtain ⟨w6, hw6⟩ : ∃ w6 : World, w6 = w4.drewN q := ⟨_, rfl⟩
      rw [← hw6]
      have HB6 : Hid (Bals w6 ab m cb T tok) := by rw [hw6]; exact HBL.out.drewN q
      have S6 : Hid (Sa w6 a1' k ss) := by rw [hw6]; exact S4.out
      have B6 : Hid (Below w.heap.size w w6) := by
        rw [hw6]
        exact below_drewN (B1.out.trans ((HST.out.bel.mono B1.out.size).trans (B4.out.mono (Nat.le_trans B1.out.size HST.out.bel.size)))) q
      clear hw6
      have hne : ((m : Int) != (m : Int)) = false := by simp
      obtain ⟨G, hab, hG6, hRw6⟩ := HB6.out.adr
      subst hab
      have HRW := hidden hRw6
      clear hRw6
      go_wp2
      go_loopw [9] (fun i wr => ∃ t : Nat, t ≤ m ∧ i = .int .i64 t ∧ Hid (Below w6.heap.size w6 wr)) (fun i _ => m - (intOf i).toNat)
      case atStart => exact ⟨0, Nat.zero_le _, rfl, Below.refl _ _⟩
      case round =>
        obtain ⟨x, hx, rfl, BX⟩ := hrel
        by_cases hlx : x < m
        · have HRX := hidden (HRW.out.below BX.out hG6)
          obtain ⟨d0, d1, d2, d3, d4, d5, d6, d7⟩ := HRX.out.at x hlx
          have hGx : G < wr.heap.size := by have := BX.out.size; omega
          have SX := hidden (S6.out.below BX.out)
          have hin : inB ss k (st (nms T) x) = true := by
            rw [← HST.out.has, nms_at T x (by have := HB6.out.len; omega)]
            refine (HSO.out.mem _).1 ?_
            have hkl : x < T.length := by have := HB6.out.len; omega
            rw [List.getD_eq_getElem?_getD, List.getElem?_eq_getElem hkl]
            exact List.getElem_mem _
          obtain ⟨s, hs⟩ : ∃ s, s = st (nms T) x := ⟨_, rfl⟩
          rw [← hs] at d0 hin
          have HS := hidden hs
          have HIN := hidden hin
          clear hs hin
          have htt : (tok.toList != tok.toList) = false := by simp
          go_wp2_with fail
          refine (g1_has a1' k c1' ss s _ (by omega) SX.out).mono ?_
          rintro e wy ⟨rfl, rfl⟩
          rw [HIN.out]
          go_wp2_with fail
          refine (sign_zero _).mono ?_
          rintro e wy ⟨rfl, rfl⟩
          go_wp2_with fail
          refine (sign_zero _).mono ?_
          rintro e wy ⟨rfl, rfl⟩
          by_cases hx0 : 0 < x
          · obtain ⟨y, rfl⟩ : ∃ y, x = y + 1 := ⟨x - 1, by omega⟩
            have f0 := (HRX.out.at y (by omega)).1
            have hless : Op.bytesLess (st (nms T) y).toList s.toList = true := by
              rw [HS.out]
              exact sorted_less HSO.out.sorted y (by have := HB6.out.len; omega)
            obtain ⟨s', hs'⟩ : ∃ s', s' = st (nms T) y := ⟨_, rfl⟩
            rw [← hs'] at f0 hless
            clear hs'
            have hy0 : (0 : Int) < (y : Int) + 1 := by omega
            go_wp2
            go_quiet (fail)
            go_wp2
            exact ⟨⟨y + 2, by omega, by go_num, below_drewN ((BX.out.alloc BX.out.size _).alloc (by have := BX.out.size; simp; omega) _) nq⟩, by simp [intOf]; omega⟩
          · have hd : decide ((0 : Int) < (x : Int)) = false := by simpa using hx0
            go_wp2
            go_quiet (fail)
            go_wp2
            exact ⟨⟨x + 1, by omega, by go_num, below_drewN ((BX.out.alloc BX.out.size _).alloc (by have := BX.out.size; simp; omega) _) nq⟩, by simp [intOf]; omega⟩
        · go_wp2
          go_ret
          exact ⟨rfl, B6.out.trans (BX.out.mono B6.out.size)⟩
end Go.Proofs.Qxb6002388a
