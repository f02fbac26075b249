/- Book.Balances (17): the contract. -/
import Derived.Test.Qxb6002388aBB
namespace Go.Proofs.Qxb6002388a
open Go.RowKit Go.Maps Go.Sort Go.Shelf Go.Proofs
set_option linter.unusedVariables false
set_option maxRecDepth 100000

theorem got_none {K B N : Nat} {w : World} {nB : Nat} {DB : DataW Unit} {P : Pr → Prop} (h : Bk K B N w none nB DB P) (o : Obj) : Got w (w.alloc o) P (.slice none 0 0) [] := by
  refine ⟨⟨rfl, .inl ⟨rfl, rfl⟩⟩, List.Pairwise.nil, fun p => ⟨(fun h => by cases h), fun hp => ?_⟩, (Below.refl _ _).alloc (Nat.le_refl _) _⟩
  have := h.all p hp
  rcases h.mp with ⟨_, _, h0⟩ | ⟨b, hb, _⟩
  · rw [h0] at this; simp [Maps.has] at this
  · cases hb

set_option maxHeartbeats 1000000 in
theorem book_balances_nil {K B N : Nat} {w : World} {nB : Nat} {DB : DataW Unit} {P : Pr → Prop} (h : Bk K B N w none nB DB P) :
    Calls Try.prog 17 #[.pointer (some ⟨K, 0, none⟩)] w fun e w' => ∃ v R, e = .returned v ∧ Got w w' P v R := by
  have hlt : K < w.heap.size := (Array.getElem?_eq_some_iff.1 h.hd).1
  have c0 : w.cell? ⟨K, 0, none⟩ = some (.map none) := by simp [World.cell?, h.hd]
  have hr := fun w => run_range_nilMap (P := Try.prog) w 26 9 29 Try.underlying26
  have hn := fun w ty => run_next_nilMap (P := Try.prog) w ty 0 0 #[]
  have HG := hidden (got_none h (.mapIter none 0 #[] 0))
  have h40 := info_parts info40
  clear h
  obtain ⟨i40, hi40, hz40, hs40, hb40⟩ := h40
  go_enter Try.func17, Try.ntmps17
  go_wp2
  refine wp_loop_rounds 1 ?_
  rw [rounds_succ]
  go_wp2_with (first
    | (go_at_call 25; refine (sort_none _ _ _).mono ?_; rintro e w' ⟨rfl, rfl⟩)
    | (refine wpList_append_own_none rfl _ _ 33 rfl w.heap.size 40 i40 8 Try.underlying33 hi40 (.slice none 0 0) 0 [] rfl HG.out.own rfl ?_)
    | go_in)
  go_ret
  exact ⟨_, _, rfl, HG.out⟩

theorem BB.start {K B N : Nat} {w w0 : World} {b nB : Nat} {DB : DataW Unit} {P : Pr → Prop} (h : Bk K B N w (some b) nB DB P) (ho : w.ownsMap Try.prog 9 pR b nB DB) (hrg : w0.ranges Try.prog 9 pR b w.heap.size nB DB (Maps.has DB) (Maps.size DB)) (hg : w.grownBy w0 none) (hs : w0.heap.size = w.heap.size + 1) :
    BB w w0 b nB DB P (.slice none 0 0) (.slice none 0 0) [] [] (Maps.has DB) (Maps.size DB) := by
  refine ⟨hrg, (Below.refl _ _).grown hg (Nat.le_refl _) (fun j hj => by cases hj), by omega, fun kl h => h, ⟨rfl, .inl ⟨rfl, rfl⟩⟩, ⟨rfl, .inl ⟨rfl, rfl⟩⟩, (fun g hg => by cases hg), fun p => ?_, List.Pairwise.nil, Nat.zero_le _, fun p => ?_, List.nodup_nil, ?_⟩
  · constructor
    · intro h'; cases h'
    · rintro ⟨hp, _, hl⟩; rw [h.all p hp] at hl; cases hl
  · constructor
    · intro h'; cases h'
    · rintro ⟨hp, _, hl⟩; rw [h.all p hp] at hl; cases hl
  · have := ho.size_le
    show 0 + _ ≤ _
    rw [Nat.zero_add]
    exact Nat.mul_le_mul_right 4096 this

/-- the entry that comes: a token and its ledger -/
theorem BB.come {K B N : Nat} {w wr w1 : World} {b nB : Nat} {DB : DataW Unit} {P : Pr → Prop} {v3 v4 : Value} {U Q : List Pr} {left : Lit → Bool} {cnt : Nat} (h : Bk K B N w (some b) nB DB P) (hB : BB w wr b nB DB P v3 v4 U Q left cnt) (hg1 : wr.grownBy w1 (some w.heap.size)) {x : ByteArray} {c : Value} {kl : Lit} {y : DataW Unit × List MemPlace}
    (hkey : keyOf Try.prog 9 (.string x) = some kl) (hlk : left kl = true) (hv : pR c = some y) (hat : ∀ zd, DB.atKey kl zd = y.1) : kl = ky x ∧ ∃ L r n D, c = .pointer (some ⟨L, 0, none⟩) ∧ Led x L w1 r n D ∧ n ≤ N ∧ ∀ s, Maps.has D (ky s) = true ↔ P (x, s) := by
  obtain ⟨l, e1, e2, _⟩ := Maps.keyOf_str Try.underlying9 hkey
  have e3 : kl = ky x := by
    rw [e2]
    injection e1 with e1
    rw [e1]
  subst e3
  refine ⟨rfl, ?_⟩
  obtain ⟨L, r, n, D, ha, hl⟩ := h.led x (hB.le _ hlk)
  obtain ⟨y1, y2⟩ := y
  have e4 : y1 = .lit (.int .i64 L) := (hat .nil).symm.trans (ha .nil)
  subst e4
  refine ⟨L, r, n, D, pR_inv hv, ?_, hl.n, hl.has⟩
  have hs := hB.sz
  have hblk : ∀ k, k < w.heap.size → w1.heap[k]? = w.heap[k]? := fun k hk => by
    refine (hg1.block k (by omega) (fun e => ?_)).trans (hB.bel.block k hk)
    have e' : k = w.heap.size := by simpa using e
    omega
  exact hl.led.below ⟨hg1.os.trans hB.bel.os, hg1.tape.trans hB.bel.tape, hg1.output.trans hB.bel.output, Nat.le_trans hB.bel.size hg1.size, hblk⟩

theorem BB.got_none {w wr w2 : World} {b nB : Nat} {DB : DataW Unit} {P : Pr → Prop} {v3 : Value} {U Q Q' : List Pr} {left : Lit → Bool} {cnt : Nat} (h : BB w wr b nB DB P v3 (.slice none 0 0) U Q left cnt) (hl : ∀ kl, left kl = false) (hs : Srtd Q Q') (hg : wr.grownBy w2 (Value.ownBlock (.slice none 0 0))) :
    w2.ownsRow (w.heap.size + 1) 40 8 v3 U.length (rowsB U) ∧ Got w w2 P v3 (U ++ Q') := by
  have hQ : Q = [] := by
    rcases h.o4.2 with ⟨_, h0⟩ | ⟨g, cap, cur, h1, _⟩
    · exact List.length_eq_zero_iff.1 h0
    · cases h1
  have hQ' : Q' = [] := by
    have := hs.perm.length_eq
    rw [hQ] at this
    exact List.length_eq_zero_iff.1 this
  have hf := h.fin hl hs
  have ho : w2.ownsRow (w.heap.size + 1) 40 8 v3 U.length (rowsB U) := own_row_kept h.o3 (fun g hg' => hg.block g (own_row_block h.o3 hg').2.1 (fun e => by cases e))
  refine ⟨ho, ?_, hf.1, hf.2, h.bel.grown hg h.bel.size (fun j hj => by cases hj)⟩
  rw [hQ', List.append_nil]
  exact own_row_base ho (by omega)

theorem BB.pre {w wr w2 : World} {b nB : Nat} {DB : DataW Unit} {P : Pr → Prop} {v3 v4 : Value} {U Q : List Pr} {left : Lit → Bool} {cnt : Nat} (h : BB w wr b nB DB P v3 v4 U Q left cnt) (hg : wr.grownBy w2 v4.ownBlock) : w2.ownsRow (w.heap.size + 1) 40 8 v3 U.length (rowsB U) ∧ Below w.heap.size w w2 ∧ w.heap.size < w2.heap.size := by
  refine ⟨own_row_kept h.o3 (fun g hg' => hg.block g (own_row_block h.o3 hg').2.1 (fun e => h.ap g hg' e.symm)), h.bel.grown hg h.bel.size (fun j hj => ?_), by have := h.sz; have := hg.size; omega⟩
  have := (own_row_block h.o4 hj).1
  omega

theorem BB.got_some {w wr w2 w3 : World} {b nB : Nat} {DB : DataW Unit} {P : Pr → Prop} {v3 v4 v' : Value} {U Q Q' : List Pr} {left : Lit → Bool} {cnt : Nat} (h : BB w wr b nB DB P v3 v4 U Q left cnt) (hl : ∀ kl, left kl = false) (hs : Srtd Q Q') (hg : wr.grownBy w2 v4.ownBlock)
    (ho : w3.ownsRow (w.heap.size + 1) 40 8 v' (U.length + Q.length) (rowsB U ++ rowsB Q')) (hg3 : w2.grownBy w3 v3.ownBlock) : Got w w3 P v' (U ++ Q') := by
  have hf := h.fin hl hs
  obtain ⟨k1, k2, k3⟩ := h.pre hg
  refine ⟨?_, hf.1, hf.2, k2.grown hg3 k2.size (fun j hj => by have := (own_row_block k1 hj).1; omega)⟩
  rw [List.length_append, hs.perm.length_eq, rowsB_append]
  exact own_row_base ho (by omega)

set_option maxHeartbeats 2000000 in
theorem book_balances_some {K B N : Nat} {w : World} {b nB : Nat} {DB : DataW Unit} {P : Pr → Prop} (h : Bk K B N w (some b) nB DB P) (hN : N ≤ 4096) :
    Calls Try.prog 17 #[.pointer (some ⟨K, 0, none⟩)] w fun e w' => ∃ v R, e = .returned v ∧ Got w w' P v R := by
  have hlt : K < w.heap.size := (Array.getElem?_eq_some_iff.1 h.hd).1
  have c0 : w.cell? ⟨K, 0, none⟩ = some (.map (some b)) := by simp [World.cell?, h.hd]
  have HBK := hidden h
  have hnb := h.nb
  obtain ⟨ho, hbB⟩ : w.ownsMap Try.prog 9 pR b nB DB ∧ b < w.heap.size := by
    rcases h.mp with ⟨h0, _⟩ | ⟨b', hb', _, ho⟩
    · cases h0
    · cases hb'; exact ⟨ho, ho.lt⟩
  clear h
  obtain ⟨i40, hi40, hz40, hs40, hb40⟩ := info_parts info40
  have he : (ByteArray.mk #[]).toList = [] := by rw [ByteArray.toList_eq]
  go_enter Try.func17, Try.ntmps17
  go_wp2_with (first
    | (at_range; refine wpList_range_own _ rfl _ 26 rfl 9 29 law9 Try.underlying26 pR b nB DB rfl ho ?_; intro w0 hrg0 hg0 hs0)
    | go_in)
  go_frame
  have HST := hidden (BB.start HBK.out ho hrg0 hg0 hs0)
  clear hrg0 hg0 hs0
  go_loopw [3, 4, 5, 6] (fun t3 t4 _ _ wr => ∃ (v3 v4 : Value) (U Q : List Pr) (left : Lit → Bool) (cnt : Nat), t3 = v3 ∧ t4 = v4 ∧ Hid (BB w wr b nB DB P v3 v4 U Q left cnt))
    (fun _ _ _ _ wr => wr.rangeLeft b w.heap.size)
  case atStart => exact ⟨_, _, [], [], _, _, rfl, rfl, HST⟩
  case round =>
    clear HST ho
    obtain ⟨v3, v4, U, Q, left, cnt, rfl, rfl, HB⟩ := hrel
    go_wp2_with (first
      | (at_next; refine wpList_next_ranges _ rfl _ rfl 9 law9 pR Value.string (id : Value → Value) (fun key kl hk => by obtain ⟨l, e, _⟩ := Maps.keyOf_str Try.underlying9 hk; exact ⟨_, e⟩) (fun v y _ => ⟨v, rfl⟩) b w.heap.size nB DB _ _ rfl HB.out.rg ?_ ?_)
      | go_in)
    · intro _ hl0
      have hQl : Q.length ≤ 16777216 := by
        have h1 := HB.out.ql
        have h2 : nB * 4096 ≤ 4096 * 4096 := Nat.mul_le_mul_right 4096 (by omega)
        omega
      have hUl := HB.out.ul
      rcases HB.out.o4.2 with ⟨e4, _⟩ | ⟨g, cap, cur, e4, _⟩
      · subst e4
        go_wp2_with fail
        refine (sort_own _ Q _ _ HB.out.o4 (by omega) HB.out.qn).mono ?_
        rintro e w2 ⟨rfl, hg2, Q', hs', _⟩
        obtain ⟨ho3, hgot⟩ := HB.out.got_none hl0 hs' hg2
        have HG := hidden hgot
        have HO3 := hidden ho3
        clear hgot ho3
        go_wp2_with (first
          | (refine wpList_append_own_none rfl _ _ 33 rfl (w.heap.size + 1) 40 i40 8 Try.underlying33 hi40 _ U.length (rowsB U) rfl HO3.out rfl ?_)
          | go_in)
        go_ret
        exact ⟨_, _, rfl, HG.out⟩
      · subst e4
        go_wp2_with fail
        refine (sort_own _ Q _ _ HB.out.o4 (by omega) HB.out.qn).mono ?_
        rintro e w2 ⟨rfl, hg2, Q', hs', hcell⟩
        obtain ⟨ho3, hbel3, hsz3⟩ := HB.out.pre hg2
        have HO3 := hidden ho3
        have HCL := hidden (hcell g Q.length cap rfl)
        have HLQ := hidden (show (rowsB Q').length = Q.length * 8 by rw [rowsB_len, hs'.perm.length_eq])
        have HFIN : Hid (∀ v' w3, w3.ownsRow (w.heap.size + 1) 40 8 v' (U.length + Q.length) (rowsB U ++ rowsB Q') → w2.grownBy w3 (Value.ownBlock u3) → Got w w3 P v' (U ++ Q')) := fun v' w3 h1 h2 => HB.out.got_some hl0 hs' hg2 h1 h2
        clear ho3 hcell hbel3
        go_wp2_with (first
          | (refine wpList_append_own_at (w := w2) rfl _ _ 33 rfl (w.heap.size + 1) 40 i40 _ 8 80 Try.underlying33 hi40 hz40 hs40 hb40 rfl (by omega) _ U.length (rowsB U) rfl HO3.out ⟨g, 0, none⟩ Q.length cap (rowsB Q') rfl HLQ.out HCL.out (rowsB_one Q') (by unfold maxLen; omega) (by omega) (by omega) ?_; intro v' w3 ho4 hg4 _ _)
          | go_in)
        go_ret
        exact ⟨_, _, rfl, HFIN.out _ _ ho4 hg4⟩
    · intro x c kl y1 y2 w1 cnt1 hkey hlk hv hat hrg1 hlt1 hg1 hs1 hen
      obtain ⟨rfl, L, r, n, D, hc, hled, hn, hP⟩ := BB.come (y := (y1, y2)) HBK.out HB.out hg1 hkey hlk hv hat
      subst hc
      have HLD := hidden hled
      have HP := hidden hP
      have HG1 := hidden hg1
      have HR1 := hidden hrg1
      clear hled hP hg1 hrg1 hv hat hkey
      by_cases hx : x.data.toList = []
      · have hx' : (x.toList == []) = true := by rw [ByteArray.toList_eq, hx]; rfl
        go_wp2_with fail
        refine (balances_own x L w1 r n D HLD.out (by omega)).mono ?_
        rintro e w2 ⟨G, m, T, rfl, ho2, hl2, hm2, hSO, hb2⟩
        have HN := hidden (HB.out.tok0 HG1.out hs1 HR1.out hlt1 hb2 ho2 hl2 hm2 hSO HP.out hx)
        clear ho2 hb2 hSO
        go_wp2
        exact ⟨⟨_, _, _, _, _, cnt1, rfl, rfl, HN⟩, by rw [HN.out.rg.left_eq, HB.out.rg.left_eq]; exact hlt1⟩
      · have hx' : (x.toList == []) = false := by rw [ByteArray.toList_eq]; simpa using hx
        have hQl : Q.length ≤ 16777216 := by
          have h1 := HB.out.ql
          have h2 : nB * 4096 ≤ 4096 * 4096 := Nat.mul_le_mul_right 4096 (by omega)
          omega
        go_wp2_with fail
        refine (balances_own x L w1 r n D HLD.out (by omega)).mono ?_
        rintro e w2 ⟨G, m, T, rfl, ho2, hl2, hm2, hSO, hb2⟩
        obtain ⟨_, hsz2, _, ho4⟩ := HB.out.moved HG1.out hb2
        have HO4 := hidden ho4
        have HCL : Hid (∀ j u, (rowsB (prs x T))[j]? = some u → w2.cell? ((⟨G, 0, none⟩ : Addr).add j) = some u) := fun j u hu => by
          have hj := (List.getElem?_eq_some_iff.1 hu).1
          rw [rowsB_len, prs_len, hl2] at hj
          rw [Addr.add_lit, Nat.zero_add, ho2.cellAt j hj]; exact hu
        have HLQ := hidden (show (rowsB (prs x T)).length = m * 8 by rw [rowsB_len, prs_len, hl2])
        have HNX : Hid (∀ v' w3, w3.ownsRow (w.heap.size + 1) 40 8 v' (Q.length + m) (rowsB Q ++ rowsB (prs x T)) → w2.grownBy w3 u4.ownBlock → (v'.ownBlock = u4.ownBlock ∨ v'.ownBlock = some w2.heap.size) → BB w w3 b nB DB P u3 v' U (Q ++ prs x T) (fun z => left z && !z.sameKey (ky x)) cnt1) := fun v' w3 h1 h2 h3 => HB.out.tok1 hlk HG1.out hs1 HR1.out hlt1 hb2 hl2 hm2 hSO HP.out hx h1 h2 h3 hbB
        clear ho2 ho4 hb2 hSO
        go_wp2_with (first
          | (refine wpList_append_own_at (w := w2) rfl _ _ 33 rfl (w.heap.size + 1) 40 i40 _ 8 80 Try.underlying33 hi40 hz40 hs40 hb40 rfl (by omega) _ Q.length (rowsB Q) rfl HO4.out ⟨G, 0, none⟩ m m (rowsB (prs x T)) rfl HLQ.out HCL.out (rowsB_one _) (by unfold maxLen; omega) (by omega) (by omega) ?_; intro v' w3 ho5 hg5 _ hob5)
          | go_in)
        have HN := hidden (HNX.out _ _ ho5 hg5 hob5)
        exact ⟨⟨_, _, _, _, _, cnt1, rfl, rfl, HN⟩, by rw [HN.out.rg.left_eq, HB.out.rg.left_eq]; exact hlt1⟩

theorem book_balances {K B N : Nat} {w : World} {rB : Option Nat} {nB : Nat} {DB : DataW Unit} {P : Pr → Prop} (h : Bk K B N w rB nB DB P) (hN : N ≤ 4096) :
    Calls Try.prog 17 #[.pointer (some ⟨K, 0, none⟩)] w fun e w' => ∃ v R, e = .returned v ∧ Got w w' P v R := by
  cases rB with
  | none => exact book_balances_nil h
  | some b => exact book_balances_some h hN
end Go.Proofs.Qxb6002388a
