/- buildLengths (16): the contract. -/
import Derived.Test.Qxb6000561aStrs
import Derived.Test.Qxb6000561aPlain
import Derived.Maps.AppendAt
import Derived.OneCell
namespace Go.Proofs.Qxb6000561a
open Go.RowKit
set_option linter.unusedVariables false

theorem info3 : (Try.prog.info? 3).map (fun i => (i.zero, i.size, i.bytes)) = some (some (.int .i64 0), 1, 8) := by kernel_rfl

/-- a slice of the call's own, of ints -/
def Ow (B : Nat) (w : World) (a : Option Addr) (m c : Nat) (xs : List Int) : Prop := w.ownsRow B 3 1 (.slice a m c) m (xs.map (Value.int .i64))

theorem Ow.length {B : Nat} {w : World} {a : Option Addr} {m c : Nat} {xs : List Int} (h : Ow B w a m c xs) : xs.length = m := by
  have := h.1; simpa using this
theorem Ow.addr {B : Nat} {w : World} {a : Option Addr} {m c : Nat} {xs : List Int} (h : Ow B w a m c xs) (hm : 0 < m) : ∃ g, a = some ⟨g, 0, none⟩ ∧ B ≤ g ∧ g < w.heap.size := by
  rcases h.2 with ⟨_, h0⟩ | ⟨g, cap, cur, hv, hb, hg, _⟩
  · omega
  · injection hv with h1
    exact ⟨g, h1, hb, (Array.getElem?_eq_some_iff.1 hg).1⟩
theorem Ow.cell {B : Nat} {w : World} {g m c : Nat} {xs : List Int} (h : Ow B w (some ⟨g, 0, none⟩) m c xs) (j : Nat) (hj : j < m) : w.cell? ⟨g, j, none⟩ = some (.int .i64 (xs.getD j 0)) := by
  have hl := h.length
  rw [World.ownsRow.cellAt h j (by omega)]
  simp [List.getElem?_eq_getElem (show j < xs.length by omega)]
theorem Ow.frozen {B : Nat} {w : World} {g m c : Nat} {xs : List Int} (h : Ow B w (some ⟨g, 0, none⟩) m c xs) (j : Nat) : w.frozen? ⟨g, j, none⟩ = false := World.ownsRow.frozenAt h j
theorem Ow.stored {B : Nat} {w : World} {g m c : Nat} {xs : List Int} (h : Ow B w (some ⟨g, 0, none⟩) m c xs) (j : Nat) (y : Int) : Ow B (w.setCell ⟨g, j, none⟩ (.int .i64 y)) (some ⟨g, 0, none⟩) m c (xs.set j y) := by
  have := World.ownsRow.stored h j (.int .i64 y)
  unfold Ow
  rw [List.map_set]
  exact this.1
theorem Ow.other {B : Nat} {w : World} {g m c : Nat} {xs : List Int} (h : Ow B w (some ⟨g, 0, none⟩) m c xs) (p : Addr) (hp : g ≠ p.block) (u : Value) : Ow B (w.setCell p u) (some ⟨g, 0, none⟩) m c xs :=
  ownsRow_setCell_other h (by simpa [Value.ownBlock] using hp) u

/-- the two slices lie apart -/
def Apart (a b : Option Addr) : Prop := ∀ g h : Nat, a = some ⟨g, 0, none⟩ → b = some ⟨h, 0, none⟩ → g ≠ h

/-- what the outer loop keeps -/
structure Two (B : Nat) (w0 w : World) (a4 a5 : Option Addr) (m c4 c5 : Nat) (ls cs : List Int) : Prop where
  o4 : Ow B w a4 m c4 ls
  o5 : Ow B w a5 m c5 cs
  ap : Apart a4 a5
  bel : Below B w0 w

theorem ownBlock_some {g : Nat} {m c : Nat} : (Value.slice (some ⟨g, 0, none⟩) m c).ownBlock = some g := rfl
theorem own_form {B : Nat} {w : World} {a : Option Addr} {m c : Nat} {xs : List Value} (h : w.ownsRow B 3 1 (.slice a m c) m xs) : a = none ∨ ∃ g, a = some ⟨g, 0, none⟩ ∧ g < w.heap.size := by
  rcases h.2 with ⟨h1, _⟩ | ⟨g, cap, cur, hv, _, hg, _⟩
  · injection h1 with h1; exact .inl h1
  · injection hv with h1; exact .inr ⟨g, h1, (Array.getElem?_eq_some_iff.1 hg).1⟩
theorem own_shape {B : Nat} {w : World} {v : Value} {m : Nat} {xs : List Value} (h : w.ownsRow B 3 1 v (m + 1) xs) : ∃ g cap, v = .slice (some ⟨g, 0, none⟩) (m + 1) cap := by
  rcases h.2 with ⟨_, h1⟩ | ⟨g, cap, cur, hv, _⟩
  · omega
  · exact ⟨g, cap, hv⟩

/-- behind the first append -/
structure Half (B : Nat) (w0 w : World) (g4 : Nat) (a5 : Option Addr) (m c4 c5 : Nat) (ls cs : List Int) : Prop where
  o4 : Ow B w (some ⟨g4, 0, none⟩) (m + 1) c4 (ls ++ [0])
  o5 : Ow B w a5 m c5 cs
  ap : ∀ h : Nat, a5 = some ⟨h, 0, none⟩ → g4 ≠ h
  bel : Below B w0 w

theorem Two.app1 {B : Nat} {w0 wo w1 : World} {a4 a5 : Option Addr} {m c4 c5 : Nat} {ls cs : List Int} {v4 : Value} (T : Two B w0 wo a4 a5 m c4 c5 ls cs) (hB : B ≤ wo.heap.size) (X : Obj)
    (own4 : w1.ownsRow B 3 1 v4 (m + 1) (ls.map (Value.int .i64) ++ [.int .i64 0])) (gr : (wo.alloc X).grownBy w1 (Value.slice a4 m c4).ownBlock) (at4 : v4.ownBlock = (Value.slice a4 m c4).ownBlock ∨ v4.ownBlock = some (wo.alloc X).heap.size) :
    ∃ g cap, v4 = .slice (some ⟨g, 0, none⟩) (m + 1) cap ∧ Half B w0 w1 g a5 m cap c5 ls cs := by
  obtain ⟨g, cap, rfl⟩ := own_shape own4
  have hbel : Below B w0 w1 := by
    refine (T.bel.alloc hB X).grown gr (by simp; omega) (fun j hj => ?_)
    exact (World.ownsRow.lt T.o4 j hj).1
  refine ⟨g, cap, rfl, ⟨?_, ?_, ?_, hbel⟩⟩
  · unfold Ow; simpa using own4
  · refine World.ownsRow.kept (World.ownsRow.alloc T.o5 X) gr ?_
    rcases own_form T.o5 with rfl | ⟨h5, rfl, _⟩
    · exact .inl rfl
    · refine .inr ?_
      rcases own_form T.o4 with rfl | ⟨h4, rfl, _⟩
      · simp [Value.ownBlock]
      · have := T.ap h4 h5 rfl rfl
        simp [Value.ownBlock]; omega
  · intro h5 e5
    subst e5
    have hlt := (World.ownsRow.lt T.o5 h5 rfl).2
    rcases at4 with e | e
    · rcases own_form T.o4 with rfl | ⟨h4, rfl, _⟩
      · simp [Value.ownBlock] at e
      · have := T.ap h4 h5 rfl rfl
        simp [Value.ownBlock] at e; omega
    · simp [Value.ownBlock] at e; omega

theorem Half.app2 {B : Nat} {w0 wo w1 : World} {g4 : Nat} {a5 : Option Addr} {m c4 c5 : Nat} {ls cs : List Int} {v5 : Value} (T : Half B w0 wo g4 a5 m c4 c5 ls cs) (hB : B ≤ wo.heap.size) (X : Obj)
    (own5 : w1.ownsRow B 3 1 v5 (m + 1) (cs.map (Value.int .i64) ++ [.int .i64 0])) (gr : (wo.alloc X).grownBy w1 (Value.slice a5 m c5).ownBlock) (at5 : v5.ownBlock = (Value.slice a5 m c5).ownBlock ∨ v5.ownBlock = some (wo.alloc X).heap.size) :
    ∃ g cap, v5 = .slice (some ⟨g, 0, none⟩) (m + 1) cap ∧ Two B w0 w1 (some ⟨g4, 0, none⟩) (some ⟨g, 0, none⟩) (m + 1) c4 cap (ls ++ [0]) (cs ++ [0]) := by
  obtain ⟨g, cap, rfl⟩ := own_shape own5
  have hbel : Below B w0 w1 := by
    refine (T.bel.alloc hB X).grown gr (by simp; omega) (fun j hj => ?_)
    exact (World.ownsRow.lt T.o5 j hj).1
  have hlt4 := (World.ownsRow.lt T.o4 g4 rfl).2
  refine ⟨g, cap, rfl, ⟨?_, ?_, ?_, hbel⟩⟩
  · refine World.ownsRow.kept (World.ownsRow.alloc T.o4 X) gr (.inr ?_)
    rcases own_form T.o5 with rfl | ⟨h5, rfl, _⟩
    · simp [Value.ownBlock]
    · have := T.ap h5 rfl
      simp [Value.ownBlock]; omega
  · unfold Ow; simpa using own5
  · intro x y ex ey
    have ex : g4 = x := by simpa using ex
    have ey : g = y := by simpa using ey
    subst ex ey
    rcases at5 with e | e
    · rcases own_form T.o5 with rfl | ⟨h5, rfl, _⟩
      · simp [Value.ownBlock] at e
      · have := T.ap h5 rfl
        simp [Value.ownBlock] at e; omega
    · simp [Value.ownBlock] at e; omega

/-- stores into the two -/
theorem Two.set4 {B : Nat} {w0 wo : World} {g4 g5 m c4 c5 : Nat} {ls cs : List Int} (T : Two B w0 wo (some ⟨g4, 0, none⟩) (some ⟨g5, 0, none⟩) m c4 c5 ls cs) (j : Nat) (y : Int) :
    Two B w0 (wo.setCell ⟨g4, j, none⟩ (.int .i64 y)) (some ⟨g4, 0, none⟩) (some ⟨g5, 0, none⟩) m c4 c5 (ls.set j y) cs :=
  ⟨T.o4.stored j y, T.o5.other _ (fun e => T.ap g4 g5 rfl rfl e.symm) _, T.ap, T.bel.setCell (World.ownsRow.lt T.o4 g4 rfl).1 _⟩
theorem Two.set5 {B : Nat} {w0 wo : World} {g4 g5 m c4 c5 : Nat} {ls cs : List Int} (T : Two B w0 wo (some ⟨g4, 0, none⟩) (some ⟨g5, 0, none⟩) m c4 c5 ls cs) (j : Nat) (y : Int) :
    Two B w0 (wo.setCell ⟨g5, j, none⟩ (.int .i64 y)) (some ⟨g4, 0, none⟩) (some ⟨g5, 0, none⟩) m c4 c5 ls (cs.set j y) :=
  ⟨T.o4.other _ (fun e => T.ap g4 g5 rfl rfl e) _, T.o5.stored j y, T.ap, T.bel.setCell (World.ownsRow.lt T.o5 g5 rfl).1 _⟩

theorem Two.shift {B : Nat} {w0 wo : World} {g4 g5 m c4 c5 : Nat} {ls cs : List Int} (r : Nat) (T : Two B w0 wo (some ⟨g4, 0, none⟩) (some ⟨g5, 0, none⟩) m c4 c5 (sh ls (r + 1)) cs) (hr : r + 1 ≤ ls.length) (y d : Int) (hy : ls.getD r 0 = y) :
    Two B w0 ((wo.setCell ⟨g4, r + 1, none⟩ (.int .i64 y)).setCell ⟨g5, r + 1, none⟩ (.int .i64 d)) (some ⟨g4, 0, none⟩) (some ⟨g5, 0, none⟩) m c4 c5 (sh ls r) (cs.set (r + 1) d) := by
  have h := (T.set4 (r + 1) y).set5 (r + 1) d
  have e := sh_step ls (r + 1) (by omega) hr
  rw [show r + 1 - 1 = r from rfl, hy] at e
  rw [e] at h
  exact h
theorem Two.put {B : Nat} {w0 wo : World} {g4 g5 m c4 c5 : Nat} {ls cs : List Int} (q : Nat) (T : Two B w0 wo (some ⟨g4, 0, none⟩) (some ⟨g5, 0, none⟩) m c4 c5 (sh ls q) cs) (hq : q ≤ ls.length) (L : Int) :
    Two B w0 ((wo.setCell ⟨g4, q, none⟩ (.int .i64 L)).setCell ⟨g5, q, none⟩ (.int .i64 1)) (some ⟨g4, 0, none⟩) (some ⟨g5, 0, none⟩) m c4 c5 (ls.take q ++ L :: ls.drop q) (cs.set q 1) := by
  have h := (T.set4 q L).set5 q 1
  rw [sh_end ls q L hq] at h
  exact h

theorem hidden {p : Prop} (h : p) : Hid p := h

/-- the string at place i -/
def st (ss : List ByteArray) (i : Nat) : ByteArray := ss.getD i ByteArray.empty

set_option maxHeartbeats 1000000 in
set_option maxRecDepth 100000 in
theorem build_lengths (a : Option Addr) (n c : Nat) (ss : List ByteArray) (w : World) (hn : n ≤ 4096) (ha : Sa w a n ss) :
    Calls Try.prog 16 #[.slice a n c] w fun e w' => ∃ a4 a5 m c4 c5 ls cs, e = .returned (.tuple #[.slice a4 m c4, .slice a5 m c5]) ∧ Two w.heap.size w w' a4 a5 m c4 c5 ls cs ∧ Lens ls ss n ∧ m ≤ n := by
  go_enter Try.func16, Try.ntmps16
  go_wp2
  go_loopw [4, 5, 6] (fun v4 v5 i wr => ∃ (k m c4 c5 : Nat) (a4 a5 : Option Addr) (ls cs : List Int), k ≤ n ∧ m ≤ k ∧ i = .int .i64 k ∧ v4 = .slice a4 m c4 ∧ v5 = .slice a5 m c5 ∧ Two w.heap.size w wr a4 a5 m c4 c5 ls cs ∧ Lens ls ss k) (fun _ _ i _ => n - (intOf i).toNat)
  case atStart => exact ⟨0, 0, 0, 0, none, none, [], [], Nat.zero_le _, Nat.le_refl _, rfl, rfl, rfl, ⟨World.ownsRow_nil _ _ _ _, World.ownsRow_nil _ _ _ _, (fun _ _ h => by cases h), Below.refl _ _⟩, Lens.zero ss⟩
  case round =>
    obtain ⟨k, m, c4, c5, a4, a5, ls, cs, hk, hm, rfl, rfl, rfl, T, hL⟩ := hrel
    by_cases hlt : k < n
    · obtain ⟨b, off, e, hbl, hc, hmx⟩ := ha k hlt
      subst e
      have hcw : wr.cell? ⟨b, off + k, none⟩ = some (.string (st ss k)) := (T.bel.cell (p := ⟨b, off + k, none⟩) hbl).trans hc
      have HA : Hid (Sa w (some ⟨b, off, none⟩) n ss) := ha
      clear ha hc
      unfold maxLen at hmx
      obtain ⟨p, hp⟩ : ∃ p, p = st ss k := ⟨_, rfl⟩
      rw [← hp] at hcw
      have hmx : p.size ≤ 9223372036854775807 := by rw [hp]; exact hmx
      have HP : Hid (p = st ss k) := hp
      clear hp
      obtain ⟨wo, hwo⟩ : ∃ wo : World, wo = wr := ⟨_, rfl⟩
      rw [← hwo]
      rw [← hwo] at hcw T
      clear hwo
      go_wp2
      go_loop [8, 9] (fun d j => ∃ jn : Nat, jn ≤ k ∧ j = .int .i64 jn ∧ d = .bool false) (fun _ j => k - (intOf j).toNat)
      case atStart => exact ⟨0, Nat.zero_le _, rfl, rfl⟩
      case round =>
        obtain ⟨j, hj, rfl, rfl⟩ := hrel
        by_cases hjk : j < k
        · have hq : wo.cell? ⟨b, off + j, none⟩ = some (.string (st ss j)) := (T.bel.cell (p := ⟨b, off + j, none⟩) hbl).trans (HA.out.at j (by omega)).2.1
          obtain ⟨q, hqe⟩ : ∃ q, q = st ss j := ⟨_, rfl⟩
          rw [← hqe] at hq
          have HQ : Hid (q = st ss j) := hqe
          clear hqe
          by_cases hz : q.size = p.size
          · have hz1 : ((q.size : Int) == p.size) = true := by simp [hz]
            have HZ : Hid (q.size = p.size) := hz
            clear hz
            go_wp2
            · exact ⟨⟨k + 1, m, c4, c5, a4, a5, ls, cs, by omega, by omega, by go_num, rfl, rfl, T, hL.dup j hjk (by have h1 := HZ.out; rw [HQ.out, HP.out] at h1; exact h1)⟩, by simp [intOf]; omega⟩
            · exact ⟨⟨j + 1, by omega, by go_num, rfl⟩, by simp [intOf]; omega⟩
          · have hz1 : ((q.size : Int) == p.size) = false := by rw [beq_eq_false_iff_ne]; omega
            clear hz
            go_wp2
            exact ⟨⟨j + 1, by omega, by go_num, rfl⟩, by simp [intOf]; omega⟩
        · have hmb : m ≤ 4096 := by omega
          go_wp2
          go_loop [11] (fun x => ∃ pos : Nat, pos ≤ m ∧ x = .int .i64 pos ∧ Hid (∀ i, i < pos → ls.getD i 0 < (p.size : Int))) (fun x => m - (intOf x).toNat)
          case atStart => exact ⟨0, Nat.zero_le _, rfl, fun i hi => absurd hi (Nat.not_lt_zero i)⟩
          case round =>
            obtain ⟨pos, hpos, rfl, HLO⟩ := hrel
            by_cases hpm : pos < m
            · obtain ⟨g4, e4, hg4, hg4'⟩ := T.o4.addr (by omega)
              obtain ⟨g5, e5, hg5, hg5'⟩ := T.o5.addr (by omega)
              subst e4 e5
              have x4 := T.o4.cell pos hpm
              have x5 := T.o5.cell pos hpm
              have y5 := T.o5.frozen pos
              generalize hy : ls.getD pos 0 = y at x4
              generalize hy5 : cs.getD pos 0 = yc at x5
              have HY : Hid (ls.getD pos 0 = y) := hy
              clear hy hy5
              by_cases hyl : y < p.size
              · go_wp2
                refine ⟨⟨pos + 1, by omega, by go_num, fun i hi => ?_⟩, by simp [intOf]; omega⟩
                by_cases e : i = pos
                · subst e; rw [HY.out]; exact hyl
                · exact HLO.out i (by omega)
              · by_cases hye : y = p.size
                · have he : (y == (p.size : Int)) = true := by simp [hye]
                  have HE : Hid (y = p.size) := hye
                  clear hye
                  go_wp2
                  refine ⟨⟨k + 1, m, c4, c5, _, _, ls, _, by omega, by omega, by go_num, rfl, rfl, T.set5 pos _, hL.same ?_⟩, by simp [intOf]; omega⟩
                  show ((st ss k).size : Int) ∈ ls
                  rw [← HP.out, ← HE.out, ← HY.out, List.getD_eq_getElem?_getD, List.getElem?_eq_getElem (show pos < ls.length by have := T.o4.length; omega)]
                  exact List.getElem_mem _
                · have he : (y == (p.size : Int)) = false := by simp [hye]
                  have hgt : (p.size : Int) < y := by omega
                  clear hye
                  obtain ⟨i0, hi, hz0, hz1, hz2⟩ := info_parts info3
                  have hB := T.bel.size
                  go_wp2_with (first
                    | (at_builtin; refine wpList_append_own_at _ rfl (.tmp 81) (.tmp 82) 34 rfl w.heap.size 3 i0 (.int .i64 0) 1 8 Try.underlying34 hi hz0 hz1 hz2 rfl (by decide) _ m _ rfl (World.ownsRow.alloc T.o4 _) ⟨wo.heap.size, 0, none⟩ 1 1 [.int .i64 0] rfl rfl (cell_one_new _ _ _) (ints_oneCell .i64 [0]) (by unfold maxLen; omega) (by omega) (by simp; omega) ?_; intro v4 w1 own4 gr4 nil4 at4; obtain ⟨g4', c4', hv4, TH⟩ := T.app1 hB _ own4 gr4 at4; rw [hv4]; clear own4 gr4 nil4 at4 hv4; have hB1 := TH.bel.size)
                    | (at_builtin; refine wpList_append_own_at _ rfl (.tmp 84) (.tmp 85) 34 rfl w.heap.size 3 i0 (.int .i64 0) 1 8 Try.underlying34 hi hz0 hz1 hz2 rfl (by decide) _ m _ rfl (World.ownsRow.alloc TH.o5 _) ⟨w1.heap.size, 0, none⟩ 1 1 [.int .i64 0] rfl rfl (cell_one_new _ _ _) (ints_oneCell .i64 [0]) (by unfold maxLen; omega) (by omega) (by simp; omega) ?_; intro v5 w2 own5 gr5 nil5 at5; obtain ⟨g5', c5', hv5, T2⟩ := TH.app2 hB1 _ own5 gr5 at5; rw [hv5]; clear own5 gr5 nil5 at5 hv5))
                  clear hi hz0 hz1 hz2
                  have hlen : ls.length = m := T.o4.length
                  go_loopw [12] (fun x wr => ∃ (q : Nat) (ds : List Int), pos ≤ q ∧ q ≤ m ∧ x = .int .i64 q ∧ Two w.heap.size w wr (some ⟨g4', 0, none⟩) (some ⟨g5', 0, none⟩) (m + 1) c4' c5' (sh ls q) ds) (fun x _ => (intOf x).toNat)
                  case atStart => exact ⟨m, _, hpos, Nat.le_refl _, rfl, by rw [← hlen, sh_start, hlen]; exact T2⟩
                  case round =>
                    clear T2 TH
                    obtain ⟨q, ds, hq1, hq2, rfl, TQ⟩ := hrel
                    by_cases hq : pos < q
                    · obtain ⟨r, rfl⟩ : ∃ r, q = r + 1 := ⟨q - 1, by omega⟩
                      have x1 := TQ.o4.cell r (by omega)
                      have x2 := TQ.o4.cell (r + 1) (by omega)
                      have x3 := TQ.o4.frozen (r + 1)
                      have hg := sh_get ls (r + 1) (by omega) (by omega)
                      rw [show r + 1 - 1 = r from rfl] at hg
                      rw [hg] at x1
                      generalize hyr : ls.getD r 0 = yr at x1
                      generalize (sh ls (r + 1)).getD (r + 1) 0 = yz at x2
                      have T4 := TQ.set4 (r + 1) yr
                      have x5 := T4.o5.cell r (by omega)
                      have x6 := T4.o5.cell (r + 1) (by omega)
                      have x7 := T4.o5.frozen (r + 1)
                      generalize ds.getD r 0 = dr at x5
                      generalize ds.getD (r + 1) 0 = dz at x6
                      have HT := hidden (TQ.shift r (by omega) yr dr hyr)
                      clear hg hyr T4 TQ
                      go_wp2
                      exact ⟨⟨r, _, by omega, by omega, rfl, HT.out⟩, by simp [intOf]⟩
                    · obtain rfl : q = pos := by omega
                      have x2 := TQ.o4.cell q (by omega)
                      have x3 := TQ.o4.frozen q
                      have T4 := TQ.set4 q p.size
                      have x6 := T4.o5.cell q (by omega)
                      have x7 := T4.o5.frozen q
                      generalize ds.getD q 0 = dz at x6
                      generalize (sh ls q).getD q 0 = yz at x2
                      have HT := hidden (TQ.put q (by omega) p.size)
                      clear T4 TQ
                      go_wp2
                      exact ⟨⟨k + 1, m + 1, c4', c5', _, _, _, _, by omega, by omega, by go_num, rfl, rfl, HT.out, hL.ins q p.size (by rw [HP.out]; rfl) (by omega) HLO.out (fun _ => by rw [HY.out]; omega)⟩, by simp [intOf]; omega⟩
            · skip
              obtain ⟨i0, hi, hz0, hz1, hz2⟩ := info_parts info3
              have hB := T.bel.size
              go_wp2_with (first
                | (at_builtin; refine wpList_append_own_at _ rfl (.tmp 81) (.tmp 82) 34 rfl w.heap.size 3 i0 (.int .i64 0) 1 8 Try.underlying34 hi hz0 hz1 hz2 rfl (by decide) _ m _ rfl (World.ownsRow.alloc T.o4 _) ⟨wo.heap.size, 0, none⟩ 1 1 [.int .i64 0] rfl rfl (cell_one_new _ _ _) (ints_oneCell .i64 [0]) (by unfold maxLen; omega) (by omega) (by simp; omega) ?_; intro v4 w1 own4 gr4 nil4 at4; obtain ⟨g4', c4', hv4, TH⟩ := T.app1 hB _ own4 gr4 at4; rw [hv4]; clear own4 gr4 nil4 at4 hv4; have hB1 := TH.bel.size)
                | (at_builtin; refine wpList_append_own_at _ rfl (.tmp 84) (.tmp 85) 34 rfl w.heap.size 3 i0 (.int .i64 0) 1 8 Try.underlying34 hi hz0 hz1 hz2 rfl (by decide) _ m _ rfl (World.ownsRow.alloc TH.o5 _) ⟨w1.heap.size, 0, none⟩ 1 1 [.int .i64 0] rfl rfl (cell_one_new _ _ _) (ints_oneCell .i64 [0]) (by unfold maxLen; omega) (by omega) (by simp; omega) ?_; intro v5 w2 own5 gr5 nil5 at5; obtain ⟨g5', c5', hv5, T2⟩ := TH.app2 hB1 _ own5 gr5 at5; rw [hv5]; clear own5 gr5 nil5 at5 hv5))
              clear hi hz0 hz1 hz2
              have hlen : ls.length = m := T.o4.length
              go_loopw [12] (fun x wr => ∃ (q : Nat) (ds : List Int), pos ≤ q ∧ q ≤ m ∧ x = .int .i64 q ∧ Two w.heap.size w wr (some ⟨g4', 0, none⟩) (some ⟨g5', 0, none⟩) (m + 1) c4' c5' (sh ls q) ds) (fun x _ => (intOf x).toNat)
              case atStart => exact ⟨m, _, hpos, Nat.le_refl _, rfl, by rw [← hlen, sh_start, hlen]; exact T2⟩
              case round =>
                clear T2 TH
                obtain ⟨q, ds, hq1, hq2, rfl, TQ⟩ := hrel
                by_cases hq : pos < q
                · omega
                · obtain rfl : q = pos := by omega
                  have x2 := TQ.o4.cell q (by omega)
                  have x3 := TQ.o4.frozen q
                  have T4 := TQ.set4 q p.size
                  have x6 := T4.o5.cell q (by omega)
                  have x7 := T4.o5.frozen q
                  generalize ds.getD q 0 = dz at x6
                  generalize (sh ls q).getD q 0 = yz at x2
                  have HT := hidden (TQ.put q (by omega) p.size)
                  clear T4 TQ
                  go_wp2
                  exact ⟨⟨k + 1, m + 1, c4', c5', _, _, _, _, by omega, by omega, by go_num, rfl, rfl, HT.out, hL.ins q p.size (by rw [HP.out]; rfl) (by omega) HLO.out (fun h => by omega)⟩, by simp [intOf]; omega⟩
    · obtain rfl : k = n := by omega
      go_wp2
      go_ret2
      exact ⟨a4, a5, m, c4, c5, ls, cs, rfl, T, hL, hm⟩
end Go.Proofs.Qxb6000561a
