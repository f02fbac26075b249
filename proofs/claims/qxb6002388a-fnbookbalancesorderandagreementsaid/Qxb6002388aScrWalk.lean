/- g1Script (16): the walk. -/
import Derived.Test.Qxb6002388aScript
namespace Go.Proofs.Qxb6002388a
open Go.RowKit Go.Maps Go.Proofs
set_option linter.unusedVariables false
set_option maxRecDepth 100000

theorem len46 : Try.prog.arrayLen 46 = 64 := by kernel_rfl
theorem elem46 : Try.prog.elem 46 = 9 := by kernel_rfl
theorem und46 : Try.prog.underlying 46 = some (.array (Try.prog.arrayLen 46) (Try.prog.elem 46)) := by rw [len46, elem46]; exact Try.underlying46
theorem slice46 (m : Nat) (hm : m ≤ 64) (b : Nat) (w : World) : (Instr.sliceAt 46 (.pointer (some ⟨b, 0, none⟩)) none (some (.int .i64 (m : Int))) none).run Try.prog w = .ok (.slice (some ⟨b, 0, none⟩) m 64) w := by
  rw [run_sliceAt_array_h w 46 _ und46 .i64 m (by omega) (by rw [len46]; omega), elem46, Try.sizeOf9, len46]
  simp [slicedAt, Result.andThen, Addr.add_lit]

set_option maxHeartbeats 2000000 in
theorem script_loop (K B X Y : Nat) (hW : Where K B X Y) (w0 w : World) (hK : w0.heap.size = K) (a1 a2 a3 : Option Addr) (n1 c1 n2 c2 n3 c3 : Nat) (ss1 : List ByteArray) (zs : List Int) (ss3 : List ByteArray)
    (h1 : 0 < n1) (h8 : n1 ≤ 8) (h2 : n2 ≤ 64) (h3 : n3 ≤ 64) (s1 : Sa w0 a1 n1 ss1) (s2 : Ia w0 a2 n2 zs) (s3 : Sa w0 a3 n3 ss3) (f0 : Nat → Pr) (hS : Scr K B X Y 0 w0 w 0 f0) :
    Calls Try.prog 16 #[.pointer (some ⟨K, 0, none⟩), .slice a1 n1 c1, .slice a2 n2 c2, .slice a3 n3 c3, .pointer (some ⟨X, 0, none⟩), .pointer (some ⟨Y, 0, none⟩)] w
      fun e w' => ∃ (m N : Nat) (f : Nat → Pr), e = .returned (.int .i64 m) ∧ m ≤ 64 ∧ N ≤ 128 ∧ Scr K B X Y N w0 w' m f := by
  have S1 := hidden s1
  have S2 := hidden s2
  have S3 := hidden s3
  have HS := hidden hS
  have hw1 := hW.kx
  have hw2 := hW.xy
  have hw3 := hW.yb
  clear s1 s2 s3 hS
  by_cases hb : n3 < n2
  · go_enter Try.func16, Try.ntmps16
    go_wp2
    go_loopw [14, 15, 16, 17] (fun mv i _ _ wr => ∃ (k m : Nat) (f : Nat → Pr), k ≤ n3 ∧ i = .int .i64 k ∧ mv = .int .i64 m ∧ m ≤ k ∧ Hid (Scr K B X Y (2 * k) w0 wr m f)) (fun _ i _ _ _ => n3 - (intOf i).toNat)
    case atStart => exact ⟨0, 0, f0, Nat.zero_le _, rfl, rfl, Nat.le_refl _, HS⟩
    case round =>
      clear HS
      obtain ⟨k, m, f, hk, rfl, rfl, hmk, HS⟩ := hrel
      by_cases hlt : k < n3
      · obtain ⟨b3, off3, e3, hb3, hc3, hm3⟩ := S3.out k hlt
        subst e3
        obtain ⟨b2, off2, e2, hb2, hc2, hz0, hz1⟩ := S2.out k (by omega)
        subst e2
        obtain ⟨z, hz⟩ : ∃ z, z = zs.getD k 0 := ⟨_, rfl⟩
        rw [← hz] at hc2 hz0 hz1
        clear hz
        obtain ⟨j, hj⟩ : ∃ j : Nat, z.tmod n1 = j := ⟨(z.tmod n1).toNat, by rw [Int.toNat_of_nonneg (Int.tmod_nonneg _ hz0)]⟩
        have hj1 : j < n1 := by
          have := Int.tmod_lt_of_pos z (show (0 : Int) < n1 by omega)
          omega
        obtain ⟨b1, off1, e1, hb1, hc1, hm1⟩ := S1.out j hj1
        subst e1
        have hy2 : wr.cell? ⟨b2, off2 + k, none⟩ = some (.int .u8 z) := (HS.out.bel.cell (p := ⟨b2, off2 + k, none⟩) (show b2 < K by omega)).trans hc2
        have hy1 : wr.cell? ⟨b1, off1 + j, none⟩ = some (.string (ss1.getD j ByteArray.empty)) := (HS.out.bel.cell (p := ⟨b1, off1 + j, none⟩) (show b1 < K by omega)).trans hc1
        have hy3 : wr.cell? ⟨b3, off3 + k, none⟩ = some (.string (ss3.getD k ByteArray.empty)) := (HS.out.bel.cell (p := ⟨b3, off3 + k, none⟩) (show b3 < K by omega)).trans hc3
        have HM1 := hidden hm1
        have HM3 := hidden hm3
        clear hc1 hc2 hc3 hm1 hm3
        generalize ss1.getD j ByteArray.empty = t at hy1 HM1
        generalize ss3.getD k ByteArray.empty = a at hy3 HM3
        have hn0 : ((n1 : Int) == 0) = false := by simp; omega
        go_wp2_with fail
        obtain ⟨rB, nB, DB, hbk⟩ := HS.out.bk
        refine (book_any hbk HS.out.sz (by omega) t HM1.out).mono ?_
        rintro e wa ⟨L, rfl, hA⟩
        obtain ⟨rB', nB', DB', hbk', ht', hat'⟩ := hA.ex
        go_wp2_with fail
        refine (zz_open_bk hbk' (Nat.le_trans HS.out.sz hA.kept.size) (by omega) HM3.out ht' hat').mono ?_
        rintro e wb ⟨⟨g, rfl⟩, hbk2, hk2⟩
        have HMID := hidden (HS.out.mid hW hA hbk2 hk2)
        clear hA hbk hbk' hbk2 hk2 ht' hat' hy1 hy2 hy3
        have hsx : m ≤ 64 := by omega
        have hsl := slice46 m hsx
        have HRW := hidden HMID.out.row
        have hXb := HMID.out.row.x.lt
        have hYb := HMID.out.row.y.lt
        cases hin : inP (fstL f) (sndL f) m t a with
        | true =>
          have HHAS : Hid (∀ q, Calls Try.prog 24 #[.slice (some ⟨X, 0, none⟩) m 64, .slice (some ⟨Y, 0, none⟩) m 64, .string t, .string a] (wb.drewN q) fun e w' => e = .returned (.bool true) ∧ w' = wb.drewN q) := fun q => has_pair_pp HRW.out hsx t a true hin q
          have HN : Hid (∀ q, Scr K B X Y (2 * k + 2) w0 (wb.drewN q) m f) := fun q => HMID.out.old ((inP_pp hsx t a).1 hin) q
          clear hin HMID
          go_wp2
          go_quiet ((go_at_call 24; exact Calls.quiet_of_same (HHAS.out _)))
          go_wp2
          exact ⟨⟨k + 1, m, f, by omega, by go_num, rfl, by omega, HN.out _⟩, by simp [intOf]; omega⟩
        | false =>
          have HHAS : Hid (∀ q, Calls Try.prog 24 #[.slice (some ⟨X, 0, none⟩) m 64, .slice (some ⟨Y, 0, none⟩) m 64, .string t, .string a] (wb.drewN q) fun e w' => e = .returned (.bool false) ∧ w' = wb.drewN q) := fun q => has_pair_pp HRW.out hsx t a false hin q
          have HN : Hid (∀ q, Scr K B X Y (2 * k + 2) w0 (((wb.drewN q).setCell ⟨X, m, none⟩ (.string t)).setCell ⟨Y, m, none⟩ (.string a)) (m + 1) (pushed f m (t, a))) := fun q => HMID.out.new hW (fun h => by rw [(inP_pp hsx t a).2 h] at hin; cases hin) q
          have x1 := HMID.out.row.x.cell (i := m) (by omega)
          have y1 := HMID.out.row.y.cell (i := m) (by omega)
          have fx := HMID.out.row.x.frozen m
          have fy := HMID.out.row.y.frozen m
          have hXY : X ≠ Y := by omega
          have hYX : Y ≠ X := by omega
          clear hin HMID
          go_wp2
          go_quiet ((go_at_call 24; exact Calls.quiet_of_same (HHAS.out _)))
          go_wp2
          exact ⟨⟨k + 1, m + 1, pushed f m (t, a), by omega, by go_num, by go_num, by omega, HN.out _⟩, by simp [intOf]; omega⟩
      · go_wp2
        go_ret
        exact ⟨m, 2 * k, f, rfl, by omega, by omega, HS.out⟩
  · go_enter Try.func16, Try.ntmps16
    go_wp2
    go_loopw [14, 15, 16, 17] (fun mv i _ _ wr => ∃ (k m : Nat) (f : Nat → Pr), k ≤ n2 ∧ i = .int .i64 k ∧ mv = .int .i64 m ∧ m ≤ k ∧ Hid (Scr K B X Y (2 * k) w0 wr m f)) (fun _ i _ _ _ => n2 - (intOf i).toNat)
    case atStart => exact ⟨0, 0, f0, Nat.zero_le _, rfl, rfl, Nat.le_refl _, HS⟩
    case round =>
      clear HS
      obtain ⟨k, m, f, hk, rfl, rfl, hmk, HS⟩ := hrel
      by_cases hlt : k < n2
      · obtain ⟨b3, off3, e3, hb3, hc3, hm3⟩ := S3.out k (by omega)
        subst e3
        obtain ⟨b2, off2, e2, hb2, hc2, hz0, hz1⟩ := S2.out k hlt
        subst e2
        obtain ⟨z, hz⟩ : ∃ z, z = zs.getD k 0 := ⟨_, rfl⟩
        rw [← hz] at hc2 hz0 hz1
        clear hz
        obtain ⟨j, hj⟩ : ∃ j : Nat, z.tmod n1 = j := ⟨(z.tmod n1).toNat, by rw [Int.toNat_of_nonneg (Int.tmod_nonneg _ hz0)]⟩
        have hj1 : j < n1 := by
          have := Int.tmod_lt_of_pos z (show (0 : Int) < n1 by omega)
          omega
        obtain ⟨b1, off1, e1, hb1, hc1, hm1⟩ := S1.out j hj1
        subst e1
        have hy2 : wr.cell? ⟨b2, off2 + k, none⟩ = some (.int .u8 z) := (HS.out.bel.cell (p := ⟨b2, off2 + k, none⟩) (show b2 < K by omega)).trans hc2
        have hy1 : wr.cell? ⟨b1, off1 + j, none⟩ = some (.string (ss1.getD j ByteArray.empty)) := (HS.out.bel.cell (p := ⟨b1, off1 + j, none⟩) (show b1 < K by omega)).trans hc1
        have hy3 : wr.cell? ⟨b3, off3 + k, none⟩ = some (.string (ss3.getD k ByteArray.empty)) := (HS.out.bel.cell (p := ⟨b3, off3 + k, none⟩) (show b3 < K by omega)).trans hc3
        have HM1 := hidden hm1
        have HM3 := hidden hm3
        clear hc1 hc2 hc3 hm1 hm3
        generalize ss1.getD j ByteArray.empty = t at hy1 HM1
        generalize ss3.getD k ByteArray.empty = a at hy3 HM3
        have hn0 : ((n1 : Int) == 0) = false := by simp; omega
        go_wp2_with fail
        obtain ⟨rB, nB, DB, hbk⟩ := HS.out.bk
        refine (book_any hbk HS.out.sz (by omega) t HM1.out).mono ?_
        rintro e wa ⟨L, rfl, hA⟩
        obtain ⟨rB', nB', DB', hbk', ht', hat'⟩ := hA.ex
        go_wp2_with fail
        refine (zz_open_bk hbk' (Nat.le_trans HS.out.sz hA.kept.size) (by omega) HM3.out ht' hat').mono ?_
        rintro e wb ⟨⟨g, rfl⟩, hbk2, hk2⟩
        have HMID := hidden (HS.out.mid hW hA hbk2 hk2)
        clear hA hbk hbk' hbk2 hk2 ht' hat' hy1 hy2 hy3
        have hsx : m ≤ 64 := by omega
        have hsl := slice46 m hsx
        have HRW := hidden HMID.out.row
        have hXb := HMID.out.row.x.lt
        have hYb := HMID.out.row.y.lt
        cases hin : inP (fstL f) (sndL f) m t a with
        | true =>
          have HHAS : Hid (∀ q, Calls Try.prog 24 #[.slice (some ⟨X, 0, none⟩) m 64, .slice (some ⟨Y, 0, none⟩) m 64, .string t, .string a] (wb.drewN q) fun e w' => e = .returned (.bool true) ∧ w' = wb.drewN q) := fun q => has_pair_pp HRW.out hsx t a true hin q
          have HN : Hid (∀ q, Scr K B X Y (2 * k + 2) w0 (wb.drewN q) m f) := fun q => HMID.out.old ((inP_pp hsx t a).1 hin) q
          clear hin HMID
          go_wp2
          go_quiet ((go_at_call 24; exact Calls.quiet_of_same (HHAS.out _)))
          go_wp2
          exact ⟨⟨k + 1, m, f, by omega, by go_num, rfl, by omega, HN.out _⟩, by simp [intOf]; omega⟩
        | false =>
          have HHAS : Hid (∀ q, Calls Try.prog 24 #[.slice (some ⟨X, 0, none⟩) m 64, .slice (some ⟨Y, 0, none⟩) m 64, .string t, .string a] (wb.drewN q) fun e w' => e = .returned (.bool false) ∧ w' = wb.drewN q) := fun q => has_pair_pp HRW.out hsx t a false hin q
          have HN : Hid (∀ q, Scr K B X Y (2 * k + 2) w0 (((wb.drewN q).setCell ⟨X, m, none⟩ (.string t)).setCell ⟨Y, m, none⟩ (.string a)) (m + 1) (pushed f m (t, a))) := fun q => HMID.out.new hW (fun h => by rw [(inP_pp hsx t a).2 h] at hin; cases hin) q
          have x1 := HMID.out.row.x.cell (i := m) (by omega)
          have y1 := HMID.out.row.y.cell (i := m) (by omega)
          have fx := HMID.out.row.x.frozen m
          have fy := HMID.out.row.y.frozen m
          have hXY : X ≠ Y := by omega
          have hYX : Y ≠ X := by omega
          clear hin HMID
          go_wp2
          go_quiet ((go_at_call 24; exact Calls.quiet_of_same (HHAS.out _)))
          go_wp2
          exact ⟨⟨k + 1, m + 1, pushed f m (t, a), by omega, by go_num, by go_num, by omega, HN.out _⟩, by simp [intOf]; omega⟩
      · go_wp2
        go_ret
        exact ⟨m, 2 * k, f, rfl, by omega, by omega, HS.out⟩
end Go.Proofs.Qxb6002388a
