/- store.ZZMatches (17): the contract. -/
import Derived.Test.Qxb6000561aZZM
namespace Go.Proofs.Qxb6000561a
open Go.RowKit Go.Maps
set_option linter.unusedVariables false

/-- the first m ints lie at a -/
def Il (w : World) (a : Option Addr) (m : Nat) (ls : List Int) : Prop :=
  ∀ i, i < m → ∃ b off, a = some ⟨b, off, none⟩ ∧ b < w.heap.size ∧ w.cell? ⟨b, off + i, none⟩ = some (.int .i64 (ls.getD i 0))

/-- what the set says -/
def inSet (ss : List ByteArray) (n : Nat) (s : ByteArray) : Bool := Maps.has (Sm ss n) (.string s.data.toList)

theorem info54 : (Try.prog.info? 54).map (fun i => (i.zero, i.size, i.bytes)) = some (some (.agg #[.int .i64 0, .int .i64 0]), 2, 16) := by kernel_rfl

theorem look_of {G : Nat} {w : World} {r : Option Nat} {ss : List ByteArray} {n : Nat} (h : Ms G w r n (Sm ss n)) : Look w r (inSet ss n) := by
  intro wx hb s hs
  have hkey := WideMaps.keyOf_string_mk (P := Try.prog) Try.underlying9 hs
  rcases h with ⟨rfl, rfl⟩ | ⟨b, rfl, _, ho⟩
  · rw [Maps.look_nil true law9 Try.underlying48 (zero52 wx) hkey]
    rfl
  · have ho' : wx.ownsMap Try.prog 9 unitElem b n (Sm ss n) := by
      have hlt := ho.lt
      obtain ⟨es, clock, hbb, F, hs, hD⟩ := ho
      exact ⟨es, clock, (hb.block b hlt).trans hbb, F, hs, hD⟩
    obtain ⟨v, p, hrun, hv⟩ := ho'.look_ok law9 Try.underlying48 (zero52 wx) unitElem_mk hkey
    obtain ⟨rfl, _⟩ := unitElem_inv hv
    exact hrun

theorem prs_length (ls cs : List Int) (k : Nat) : (prs ls cs k).length = k * 2 := by
  induction k with
  | zero => rfl
  | succ k ih => simp [prs, ih]; omega
theorem prs_at (ls cs : List Int) (k i : Nat) (h : i < k) : (prs ls cs k)[i * 2]? = some (.int .i64 (ls.getD i 0)) ∧ (prs ls cs k)[i * 2 + 1]? = some (.int .i64 (cs.getD i 0)) := by
  induction k with
  | zero => omega
  | succ k ih =>
    have hl := prs_length ls cs k
    by_cases e : i = k
    · subst e
      simp only [prs]
      rw [List.getElem?_append_right (by omega), List.getElem?_append_right (by omega), hl, Nat.sub_self, show i * 2 + 1 - i * 2 = 1 from by omega]
      exact ⟨rfl, rfl⟩
    · have := ih (by omega)
      simp only [prs]
      rw [List.getElem?_append_left (by omega), List.getElem?_append_left (by omega)]
      exact this
theorem pl_of {B : Nat} {w : World} {a : Option Addr} {m c : Nat} {ls cs : List Int} (h : w.ownsRow B 54 2 (.slice a m c) m (prs ls cs m)) (hp : ∀ i, i < m → 0 ≤ ls.getD i 0) : Pl w a m ls := by
  intro i hi
  rcases h.2 with ⟨_, h0⟩ | ⟨g, cap, cur, hv, hb, hg, _⟩
  · omega
  · injection hv with h1 h2 h3
    subst h1 h3
    have hx := prs_at ls cs m i hi
    refine ⟨g, 0, cs.getD i 0, rfl, (Array.getElem?_eq_some_iff.1 hg).1, ?_, ?_, hp i hi⟩
    · rw [Nat.zero_add, h.cellAt (i * 2) (by omega)]; exact hx.1
    · rw [Nat.zero_add, h.cellAt (i * 2 + 1) (by omega)]; exact hx.2
theorem two_new (w : World) (x y : Int) : ∀ j u, [Value.int .i64 x, .int .i64 y][j]? = some u → (w.alloc (.cells #[.int .i64 x, .int .i64 y] 54)).drew.cell? ((⟨w.heap.size, 0, none⟩ : Addr).add j) = some u :=
  World.news_of_block (cs := #[.int .i64 x, .int .i64 y]) (t := 54) (fr := (0, 0)) (Deep.blk_alloc_new w _)

set_option maxHeartbeats 4000000 in
set_option maxRecDepth 100000 in
theorem zz_matches (a1 a2 a3 a4 : Option Addr) (n1 c1 n2 c2 m c3 c4 : Nat) (ks ps : List ByteArray) (ls cs : List Int) (key : ByteArray) (w : World) (h1 : n1 ≤ 4096) (h2 : n2 ≤ 4096) (hm : m ≤ 4096) (hk : key.size ≤ maxLen)
    (k1 : NilOk a1 n1 c1) (k2 : NilOk a2 n2 c2) (s1 : Sa w a1 n1 ks) (s2 : Sa w a2 n2 ps) (l3 : Il w a3 m ls) (l4 : Il w a4 m cs) (hlen : ls.length = m) (hpos : ∀ i, i < m → 0 ≤ ls.getD i 0) :
    Calls Try.prog 17 #[.slice a1 n1 c1, .slice a2 n2 c2, .slice a3 m c3, .slice a4 m c4, .string key] w fun e w' => e = .returned (.bool (inSet ks n1 key || scan (fun l => inSet ps n2 (key.extract 0 l)) key.size ls)) ∧ Below w.heap.size w w' := by
  have hnil := fun (a : Option Addr) (n c : Nat) (w : World) => run_neq_slice_nil_any (P := Try.prog) w 30 9 a n c 0 0 Try.underlying30
  have hmm := @run_makeMap Try.prog
  have H1 := hidden s1
  have H2 := hidden s2
  have H3 := hidden l3
  have H4 := hidden l4
  have HP := hidden hpos
  have HKK := hidden hk
  have HLN := hidden hlen
  clear s1 s2 l3 l4 hpos hk hlen
  rcases a1 with _ | p1
  · obtain ⟨rfl, rfl⟩ := k1 rfl
    rcases a2 with _ | p2
    · obtain ⟨rfl, rfl⟩ := k2 rfl
      have HS := St.start w ks ps
      go_enter Try.func17, Try.ntmps17
      go_wp2
      go_loopw [14] (fun i wr => ∃ (t c : Nat) (a : Option Addr), t ≤ m ∧ i = .int .i64 t ∧ St w.heap.size w wr none none a t c ks ps 0 0 (prs ls cs t)) (fun i _ => m - (intOf i).toNat)
      case atStart => exact ⟨0, 0, none, Nat.zero_le _, rfl, HS⟩
      case round =>
        clear HS
        obtain ⟨t, cp, av, htm, rfl, HS⟩ := hrel
        by_cases hlt : t < m
        · obtain ⟨b3, o3, e3, hb3, x3⟩ := H3.out t hlt
          obtain ⟨b4, o4, e4, hb4, x4⟩ := H4.out t hlt
          subst e3 e4
          have y3 := (HS.bel.cell (p := ⟨b3, o3 + t, none⟩) hb3).trans x3
          have y4 := (HS.bel.cell (p := ⟨b4, o4 + t, none⟩) hb4).trans x4
          have z2 := HS.cell2
          have hGs := HS.lt
          obtain ⟨i0, hi, hz0, hz1, hz2⟩ := info_parts info54
          have HSH := hidden HS
          clear x3 x4 HS
          go_wp2
          go_region_law (refine step_append_lies _ rfl (.tmp 75) (.tmp 85) 49 rfl (w.heap.size + 1) 54 i0 (.agg #[.int .i64 0, .int .i64 0]) 2 16 Try.underlying49 hi hz0 hz1 hz2 rfl (by decide) (.slice av t cp) t (prs ls cs t) (by simp [Act.eval]) (World.ownsRow.drew (World.ownsRow.alloc HSH.out.own _)) ⟨wr.heap.size, 0, none⟩ 1 1 [.int .i64 (ls.getD t 0), .int .i64 (cs.getD t 0)] (by simp [Act.eval]) rfl (two_new _ _ _) (ints_oneCell .i64 [ls.getD t 0, cs.getD t 0]) (by omega) (by unfold maxLen; omega) (by omega) (by simp; omega) _ rfl ?_; intro g cap w1 hown' hgrow hat hlt'; obtain ⟨ca, cf, HS2⟩ := HSH.out.appended _ hown' hgrow)
          all_goals go_wp2
          all_goals exact ⟨⟨t + 1, _, _, by omega, by go_num, HS2⟩, by simp [intOf]; omega⟩
        · obtain rfl : t = m := by omega
          go_wp2_with fail
          refine (matches_any w.heap.size _ _ av t cp ls (inSet ks 0) (inSet ps 0) key _ HKK.out HS.lt HS.cell0 HS.cell1 HS.cell2 (look_of HS.m1) (look_of HS.m2) (pl_of HS.own HP.out) hm HLN.out).mono ?_
          rintro e w5 ⟨rfl, hb5⟩
          go_wp2
          go_ret
          exact ⟨rfl, HS.bel.trans (hb5.mono HS.bel.size)⟩
    · have HS := St.start2' w ks ps
      go_enter Try.func17, Try.ntmps17
      go_wp2
      go_loopw [13] (fun i wr => ∃ t : Nat, t ≤ n2 ∧ i = .int .i64 t ∧ St w.heap.size w wr none (some (w.heap.size + 1)) none 0 0 ks ps 0 t []) (fun i _ => n2 - (intOf i).toNat)
      case atStart => exact ⟨0, Nat.zero_le _, rfl, HS⟩
      case round =>
        clear HS
        obtain ⟨t2, ht2, rfl, HS⟩ := hrel
        by_cases hlt : t2 < n2
        · obtain ⟨b, off, e, hb, hc, hmx⟩ := H2.out t2 hlt
          cases e
          have hcx : wr.cell? ⟨b, off + t2, none⟩ = some (.string (st ps t2)) := (HS.bel.cell (p := ⟨b, off + t2, none⟩) hb).trans hc
          obtain ⟨w1, hrun, HS1⟩ := HS.update2 (by unfold maxLen; omega) hmx
          have x0 := HS.cell1
          clear hc hmx HS
          generalize st ps t2 = s at hcx hrun
          go_wp2
          go_region
          all_goals go_wp2
          all_goals exact ⟨⟨t2 + 1, by omega, by go_num, HS1⟩, by simp [intOf]; omega⟩
        · obtain rfl : t2 = n2 := by omega
          obtain ⟨wz, hwz⟩ : ∃ wz : World, wz = wr := ⟨_, rfl⟩
          rw [← hwz]
          rw [← hwz] at HS
          clear hwz
          go_wp2
          go_loopw [14] (fun i wr => ∃ (t c : Nat) (a : Option Addr), t ≤ m ∧ i = .int .i64 t ∧ St w.heap.size w wr none (some (w.heap.size + 1)) a t c ks ps 0 t2 (prs ls cs t)) (fun i _ => m - (intOf i).toNat)
          case atStart => exact ⟨0, 0, none, Nat.zero_le _, rfl, HS⟩
          case round =>
            clear HS
            obtain ⟨t, cp, av, htm, rfl, HS⟩ := hrel
            by_cases hlt : t < m
            · obtain ⟨b3, o3, e3, hb3, x3⟩ := H3.out t hlt
              obtain ⟨b4, o4, e4, hb4, x4⟩ := H4.out t hlt
              subst e3 e4
              have y3 := (HS.bel.cell (p := ⟨b3, o3 + t, none⟩) hb3).trans x3
              have y4 := (HS.bel.cell (p := ⟨b4, o4 + t, none⟩) hb4).trans x4
              have z2 := HS.cell2
              have hGs := HS.lt
              obtain ⟨i0, hi, hz0, hz1, hz2⟩ := info_parts info54
              have HSH := hidden HS
              clear x3 x4 HS
              go_wp2
              go_region_law (refine step_append_lies _ rfl (.tmp 75) (.tmp 85) 49 rfl (w.heap.size + 1) 54 i0 (.agg #[.int .i64 0, .int .i64 0]) 2 16 Try.underlying49 hi hz0 hz1 hz2 rfl (by decide) (.slice av t cp) t (prs ls cs t) (by simp [Act.eval]) (World.ownsRow.drew (World.ownsRow.alloc HSH.out.own _)) ⟨wr.heap.size, 0, none⟩ 1 1 [.int .i64 (ls.getD t 0), .int .i64 (cs.getD t 0)] (by simp [Act.eval]) rfl (two_new _ _ _) (ints_oneCell .i64 [ls.getD t 0, cs.getD t 0]) (by omega) (by unfold maxLen; omega) (by omega) (by simp; omega) _ rfl ?_; intro g cap w1 hown' hgrow hat hlt'; obtain ⟨ca, cf, HS2⟩ := HSH.out.appended _ hown' hgrow)
              all_goals go_wp2
              all_goals exact ⟨⟨t + 1, _, _, by omega, by go_num, HS2⟩, by simp [intOf]; omega⟩
            · obtain rfl : t = m := by omega
              go_wp2_with fail
              refine (matches_any w.heap.size _ _ av t cp ls (inSet ks 0) (inSet ps t2) key _ HKK.out HS.lt HS.cell0 HS.cell1 HS.cell2 (look_of HS.m1) (look_of HS.m2) (pl_of HS.own HP.out) hm HLN.out).mono ?_
              rintro e w5 ⟨rfl, hb5⟩
              go_wp2
              go_ret
              exact ⟨rfl, HS.bel.trans (hb5.mono HS.bel.size)⟩
  · go_enter Try.func17, Try.ntmps17
    go_wp2
    have HS := St.start1 w ks ps
    go_loopw [12] (fun i wr => ∃ t : Nat, t ≤ n1 ∧ i = .int .i64 t ∧ St w.heap.size w wr (some (w.heap.size + 1)) none none 0 0 ks ps t 0 []) (fun i _ => n1 - (intOf i).toNat)
    case atStart => exact ⟨0, Nat.zero_le _, rfl, HS⟩
    case round =>
      clear HS
      obtain ⟨t1, ht1, rfl, HS⟩ := hrel
      by_cases hlt : t1 < n1
      · obtain ⟨b, off, e, hb, hc, hmx⟩ := H1.out t1 hlt
        cases e
        have hcx : wr.cell? ⟨b, off + t1, none⟩ = some (.string (st ks t1)) := (HS.bel.cell (p := ⟨b, off + t1, none⟩) hb).trans hc
        obtain ⟨w1, hrun, HS1⟩ := HS.update1 (by unfold maxLen; omega) hmx
        have x0 := HS.cell0
        clear hc hmx HS
        generalize st ks t1 = s at hcx hrun
        go_wp2
        go_region
        all_goals go_wp2
        all_goals exact ⟨⟨t1 + 1, by omega, by go_num, HS1⟩, by simp [intOf]; omega⟩
      · obtain rfl : t1 = n1 := by omega
        obtain ⟨wo, hwo⟩ : ∃ wo : World, wo = wr := ⟨_, rfl⟩
        rw [← hwo]
        rw [← hwo] at HS
        clear hwo
        rcases a2 with _ | p2
        · obtain ⟨rfl, rfl⟩ := k2 rfl
          go_wp2
          go_loopw [14] (fun i wr => ∃ (t c : Nat) (a : Option Addr), t ≤ m ∧ i = .int .i64 t ∧ St w.heap.size w wr (some (w.heap.size + 1)) none a t c ks ps t1 0 (prs ls cs t)) (fun i _ => m - (intOf i).toNat)
          case atStart => exact ⟨0, 0, none, Nat.zero_le _, rfl, HS⟩
          case round =>
            clear HS
            obtain ⟨t, cp, av, htm, rfl, HS⟩ := hrel
            by_cases hlt : t < m
            · obtain ⟨b3, o3, e3, hb3, x3⟩ := H3.out t hlt
              obtain ⟨b4, o4, e4, hb4, x4⟩ := H4.out t hlt
              subst e3 e4
              have y3 := (HS.bel.cell (p := ⟨b3, o3 + t, none⟩) hb3).trans x3
              have y4 := (HS.bel.cell (p := ⟨b4, o4 + t, none⟩) hb4).trans x4
              have z2 := HS.cell2
              have hGs := HS.lt
              obtain ⟨i0, hi, hz0, hz1, hz2⟩ := info_parts info54
              have HSH := hidden HS
              clear x3 x4 HS
              go_wp2
              go_region_law (refine step_append_lies _ rfl (.tmp 75) (.tmp 85) 49 rfl (w.heap.size + 1) 54 i0 (.agg #[.int .i64 0, .int .i64 0]) 2 16 Try.underlying49 hi hz0 hz1 hz2 rfl (by decide) (.slice av t cp) t (prs ls cs t) (by simp [Act.eval]) (World.ownsRow.drew (World.ownsRow.alloc HSH.out.own _)) ⟨wr.heap.size, 0, none⟩ 1 1 [.int .i64 (ls.getD t 0), .int .i64 (cs.getD t 0)] (by simp [Act.eval]) rfl (two_new _ _ _) (ints_oneCell .i64 [ls.getD t 0, cs.getD t 0]) (by omega) (by unfold maxLen; omega) (by omega) (by simp; omega) _ rfl ?_; intro g cap w1 hown' hgrow hat hlt'; obtain ⟨ca, cf, HS2⟩ := HSH.out.appended _ hown' hgrow)
              all_goals go_wp2
              all_goals exact ⟨⟨t + 1, _, _, by omega, by go_num, HS2⟩, by simp [intOf]; omega⟩
            · obtain rfl : t = m := by omega
              go_wp2_with fail
              refine (matches_any w.heap.size _ _ av t cp ls (inSet ks t1) (inSet ps 0) key _ HKK.out HS.lt HS.cell0 HS.cell1 HS.cell2 (look_of HS.m1) (look_of HS.m2) (pl_of HS.own HP.out) hm HLN.out).mono ?_
              rintro e w5 ⟨rfl, hb5⟩
              go_wp2
              go_ret
              exact ⟨rfl, HS.bel.trans (hb5.mono HS.bel.size)⟩
        · have x0 := HS.lt
          have x1 := HS.cell1
          have x2 := HS.frozen 1
          have HS := HS.start2
          go_wp2
          go_loopw [13] (fun i wr => ∃ t : Nat, t ≤ n2 ∧ i = .int .i64 t ∧ St w.heap.size w wr (some (w.heap.size + 1)) (some wo.heap.size) none 0 0 ks ps t1 t []) (fun i _ => n2 - (intOf i).toNat)
          case atStart => exact ⟨0, Nat.zero_le _, rfl, HS⟩
          case round =>
            clear HS
            obtain ⟨t2, ht2, rfl, HS⟩ := hrel
            by_cases hlt : t2 < n2
            · obtain ⟨b, off, e, hb, hc, hmx⟩ := H2.out t2 hlt
              cases e
              have hcx : wr.cell? ⟨b, off + t2, none⟩ = some (.string (st ps t2)) := (HS.bel.cell (p := ⟨b, off + t2, none⟩) hb).trans hc
              obtain ⟨w1, hrun, HS1⟩ := HS.update2 (by unfold maxLen; omega) hmx
              have x0 := HS.cell1
              clear hc hmx HS
              generalize st ps t2 = s at hcx hrun
              go_wp2
              go_region
              all_goals go_wp2
              all_goals exact ⟨⟨t2 + 1, by omega, by go_num, HS1⟩, by simp [intOf]; omega⟩
            · obtain rfl : t2 = n2 := by omega
              obtain ⟨wz, hwz⟩ : ∃ wz : World, wz = wr := ⟨_, rfl⟩
              rw [← hwz]
              rw [← hwz] at HS
              clear hwz
              go_wp2
              go_loopw [14] (fun i wr => ∃ (t c : Nat) (a : Option Addr), t ≤ m ∧ i = .int .i64 t ∧ St w.heap.size w wr (some (w.heap.size + 1)) (some wo.heap.size) a t c ks ps t1 t2 (prs ls cs t)) (fun i _ => m - (intOf i).toNat)
              case atStart => exact ⟨0, 0, none, Nat.zero_le _, rfl, HS⟩
              case round =>
                clear HS
                obtain ⟨t, cp, av, htm, rfl, HS⟩ := hrel
                by_cases hlt : t < m
                · obtain ⟨b3, o3, e3, hb3, x3⟩ := H3.out t hlt
                  obtain ⟨b4, o4, e4, hb4, x4⟩ := H4.out t hlt
                  subst e3 e4
                  have y3 := (HS.bel.cell (p := ⟨b3, o3 + t, none⟩) hb3).trans x3
                  have y4 := (HS.bel.cell (p := ⟨b4, o4 + t, none⟩) hb4).trans x4
                  have z2 := HS.cell2
                  have hGs := HS.lt
                  obtain ⟨i0, hi, hz0, hz1, hz2⟩ := info_parts info54
                  have HSH := hidden HS
                  clear x3 x4 HS
                  go_wp2
                  go_region_law (refine step_append_lies _ rfl (.tmp 75) (.tmp 85) 49 rfl (w.heap.size + 1) 54 i0 (.agg #[.int .i64 0, .int .i64 0]) 2 16 Try.underlying49 hi hz0 hz1 hz2 rfl (by decide) (.slice av t cp) t (prs ls cs t) (by simp [Act.eval]) (World.ownsRow.drew (World.ownsRow.alloc HSH.out.own _)) ⟨wr.heap.size, 0, none⟩ 1 1 [.int .i64 (ls.getD t 0), .int .i64 (cs.getD t 0)] (by simp [Act.eval]) rfl (two_new _ _ _) (ints_oneCell .i64 [ls.getD t 0, cs.getD t 0]) (by omega) (by unfold maxLen; omega) (by omega) (by simp; omega) _ rfl ?_; intro g cap w1 hown' hgrow hat hlt'; obtain ⟨ca, cf, HS2⟩ := HSH.out.appended _ hown' hgrow)
                  all_goals go_wp2
                  all_goals exact ⟨⟨t + 1, _, _, by omega, by go_num, HS2⟩, by simp [intOf]; omega⟩
                · obtain rfl : t = m := by omega
                  go_wp2_with fail
                  refine (matches_any w.heap.size _ _ av t cp ls (inSet ks t1) (inSet ps t2) key _ HKK.out HS.lt HS.cell0 HS.cell1 HS.cell2 (look_of HS.m1) (look_of HS.m2) (pl_of HS.own HP.out) hm HLN.out).mono ?_
                  rintro e w5 ⟨rfl, hb5⟩
                  go_wp2
                  go_ret
                  exact ⟨rfl, HS.bel.trans (hb5.mono HS.bel.size)⟩
end Go.Proofs.Qxb6000561a
