/- Ledger.Balances (10): the contract. -/
import Derived.Test.Qxb6002388aLed
import Derived.Test.Qxb6002388aIter
import Derived.Deep.MidRow
namespace Go.Proofs.Qxb6002388a
open Go.RowKit Go.Maps Go.Sort Go.Shelf Go.Proofs
set_option linter.unusedVariables false

/-- byte lists as strings -/
def nms (T : List (List UInt8)) : List ByteArray := T.map fun l => ⟨l.toArray⟩
theorem nms_at (T : List (List UInt8)) (i : Nat) (h : i < T.length) : st (nms T) i = ⟨(T.getD i []).toArray⟩ := by
  unfold st nms
  simp [List.getElem?_eq_getElem h]

/-- T: the names of the ledger's accounts, strictly ascending -/
structure SortedOf (D : DataW Unit) (T : List (List UInt8)) : Prop where
  sorted : T.Pairwise (· < ·)
  mem : ∀ x, x ∈ T ↔ Maps.has D (.string x) = true
  len : T.length = Maps.size D
  short : ∀ x ∈ T, x.length ≤ maxLen

theorem mem_strKeys {es : List (Lit × DataW Unit)} (hk : ∀ p ∈ es, ∃ x, p.1 = .string x) (x : List UInt8) : x ∈ strKeys (.map es) ↔ Maps.has (.map es) (.string x) = true := by
  rw [has_eq, List.any_eq_true]
  show x ∈ es.map (fun p => strOf p.1) ↔ _
  rw [List.mem_map]
  constructor
  · rintro ⟨p, hp', rfl⟩
    obtain ⟨a, ha⟩ := hk p hp'
    exact ⟨p, hp', by rw [ha]; simp [Lit.sameKey, strOf]⟩
  · rintro ⟨p, hp', hs⟩
    obtain ⟨a, ha⟩ := hk p hp'
    rw [ha] at hs
    exact ⟨p, hp', by rw [ha]; simpa [Lit.sameKey, strOf] using hs⟩

theorem sortedOf_own {w : World} {b n : Nat} {D : DataW Unit} (ho : w.ownsMap Try.prog 9 pR b n D) {ss : List (List UInt8)} (hS : ss.Perm (strKeys D)) : SortedOf D (ss.mergeSort (fun x y => decide (x ≤ y))) := by
  have hle := strKeys_le ho Try.underlying9
  obtain ⟨es, hD, hpw, _⟩ := ho.entries law9
  obtain ⟨es', hD', hko⟩ := ho.keysOf
  obtain rfl : es = es' := by rw [hD] at hD'; simpa using hD'
  subst hD
  have hk : ∀ p ∈ es, ∃ x, p.1 = .string x := fun p hp => by obtain ⟨v, hv⟩ := hko p hp; obtain ⟨x, _, hx, _⟩ := Maps.keyOf_str Try.underlying9 hv; exact ⟨x, hx⟩
  have hperm := (List.mergeSort_perm ss (fun x y => decide (x ≤ y))).trans hS
  have hnd : (strKeys (.map es)).Nodup := by
    show (es.map fun p => strOf p.1).Nodup
    refine List.pairwise_map.2 (hpw.imp_of_mem fun {p q} hp' hq' hne e => hne ?_)
    obtain ⟨a, ha⟩ := hk p hp'
    obtain ⟨b, hb⟩ := hk q hq'
    rw [ha, hb] at e ⊢
    exact congrArg _ e
  have hnd2 : (ss.mergeSort (fun x y => decide (x ≤ y))).Nodup := hperm.nodup_iff.2 hnd
  have tr : ∀ a b c : List UInt8, decide (a ≤ b) = true → decide (b ≤ c) = true → decide (a ≤ c) = true := fun a b c h1 h2 => by simp only [decide_eq_true_eq] at *; exact List.le_trans h1 h2
  have to : ∀ a b : List UInt8, (decide (a ≤ b) || decide (b ≤ a)) = true := fun a b => by simp only [Bool.or_eq_true, decide_eq_true_eq]; exact List.le_total a b
  refine ⟨?_, fun x => ?_, ?_, fun x hx => hle x (hperm.mem_iff.1 hx)⟩
  · have hp := List.pairwise_mergeSort tr to ss
    refine (hp.and hnd2).imp (fun {a b} h => ?_)
    have h1 : a ≤ b := by simpa using h.1
    by_cases hlt : a < b
    · exact hlt
    · exact absurd (List.le_antisymm h1 (List.not_lt.1 hlt)) h.2
  · rw [hperm.mem_iff, mem_strKeys hk]
  · rw [hperm.length_eq]
    show (es.map fun p => strOf p.1).length = es.length
    simp

theorem sa_of_row {B : Nat} {w : World} {v : Value} {m : Nat} {T : List (List UInt8)} (h : w.ownsRow B 9 1 v m (T.map encStr)) (hs : ∀ x ∈ T, x.length ≤ maxLen) : T.length = m ∧ ∃ a c, v = .slice a m c ∧ Sa w a m (nms T) := by
  have hl : T.length = m := by have := h.1; simpa using this
  refine ⟨hl, ?_⟩
  rcases h.2 with ⟨hv, h0⟩ | ⟨g, cap, cur, hv, _, hg, _⟩
  · subst h0
    exact ⟨none, 0, hv, fun i hi => absurd hi (Nat.not_lt_zero i)⟩
  · subst hv
    refine ⟨_, _, rfl, fun i hi => ⟨g, 0, rfl, (Array.getElem?_eq_some_iff.1 hg).1, ?_, ?_⟩⟩
    · rw [Nat.zero_add, h.cellAt i (by omega)]
      show _ = some (Value.string (st (nms T) i))
      rw [nms_at T i (by omega)]
      simp [List.getElem?_eq_getElem (show i < T.length by omega), encStr]
    · show (st (nms T) i).size ≤ maxLen
      rw [nms_at T i (by omega)]
      have hx := hs (T.getD i []) (by rw [List.getD_eq_getElem?_getD, List.getElem?_eq_getElem (show i < T.length by omega)]; exact List.getElem_mem _)
      simpa [ByteArray.size] using hx

/-- slices.Sorted at what maps.Keys handed back -/
theorem sorted_any (tok : ByteArray) (L : Nat) (w : World) (r : Option Nat) (n : Nat) (D : DataW Unit) (h : Led tok L w r n D) (hn : n ≤ 4096) :
    Calls Try.prog 20 #[.func (.func 32) #[] #[.pointer (some ⟨w.heap.size, 0, none⟩)]] (w.alloc (.cells #[.map r] 51)) fun e w' =>
      ∃ a m c T, e = .returned (.slice a m c) ∧ Sa w' a m (nms T) ∧ T.length = m ∧ SortedOf D T ∧ Below w.heap.size w w' := by
  rcases h.mp with ⟨rfl, rfl, rfl⟩ | ⟨b, rfl, ho⟩
  · refine ((callsIn_wide (n := 5)).1 (Lay.slices_Sorted_keys_nil_20_21 w)).mono ?_
    rintro e w' ⟨v, ss, rfl, rfl, hrow, hnil, hb⟩
    obtain rfl := hnil.2 rfl
    exact ⟨none, 0, 0, [], rfl, fun i hi => absurd hi (Nat.not_lt_zero i), rfl, ⟨List.Pairwise.nil, fun x => by simp [Maps.has], rfl, fun x hx => by cases hx⟩, ((Below.refl _ w).alloc (Nat.le_refl _) _).trans (hb.mono (by simp))⟩
  · have hsz := ho.size_le
    refine ((callsIn_wide (n := 5)).1 (Lay.slices_Sorted_keys_20_21 b n D pR w ho (by unfold maxLen; omega) (by omega))).mono ?_
    rintro e w' ⟨v, ss, rfl, hS, hrow, hnil, hb⟩
    have hSO := sortedOf_own ho hS
    obtain ⟨hl, a, c, rfl, hsa⟩ := sa_of_row hrow hSO.short
    exact ⟨a, _, c, _, rfl, hsa, hl, hSO, ((Below.refl _ w).alloc (Nat.le_refl _) _).trans (hb.mono (by simp))⟩

theorem info40 : (Try.prog.info? 40).map (fun i => (i.zero, i.size, i.bytes)) = some (some (.agg (bal ByteArray.empty ByteArray.empty)), 8, 80) := by kernel_rfl
theorem size40 (s t : ByteArray) : (Try.prog.info? 40).map (·.size) = some (bal s t).toList.length := by
  obtain ⟨i, hi, _, hs, _⟩ := info_parts info40
  rw [hi]; simp [hs, bal]
theorem size40' (s t : ByteArray) : (Try.prog.info? 40).map (·.size) = some (bal s t).size := by
  obtain ⟨i, hi, _, hs, _⟩ := info_parts info40
  rw [hi]; simp [hs, bal]
theorem one40 (s t : ByteArray) : (bal s t).all (·.oneCell') = true := by
  unfold bal; simp [Value.oneCell']

theorem make40 (m : Nat) (hm : m ≤ 4096) (w : World) : (Instr.makeSlice 33 (.int .i64 (m : Int)) (.int .i64 (m : Int))).run Try.prog w = .ok (.slice (some ⟨w.heap.size, 0, none⟩) m m) (w.alloc (.cells (madeCells (bal ByteArray.empty ByteArray.empty) (m * 8)) 40)) := by
  obtain ⟨i, hi, hz, hs, hb⟩ := info_parts info40
  have hr := run_make (P := Try.prog) w 33 40 i _ Try.underlying33 hi hz .i64 .i64 m m (by omega) (Int.le_refl _) (by rw [hb]; omega) (by omega)
  simp only [Int.toNat_natCast, hs] at hr
  exact hr
theorem there_made (w : World) (Z : Array Value) (N : Nat) : (w.alloc (.cells (madeCells Z N) 40)).there w.heap.size 0 N := by
  intro j hj
  have hb := Deep.blk_alloc_new w (.cells (madeCells Z N) 40)
  generalize w.alloc (.cells (madeCells Z N) 40) = W at hb ⊢
  generalize w.heap.size = G at hb ⊢
  constructor
  · rw [cell_of_row _ _ _ _ _ _ hb, Nat.zero_add, Array.getElem?_eq_getElem (by rw [size_madeCells]; exact hj)]; rfl
  · simp [World.frozen?, hb]
theorem Below.setCells' {B b : Nat} {w : World} (hb : B ≤ b) : ∀ (vs : List Value) (o : Nat) (w' : World), Below B w w' → Below B w (w'.setCells b o vs)
  | [], _, _, h => h
  | v :: r, o, w', h => Below.setCells' hb r (o + 1) _ (h.setCell hb v)
theorem size_setCells (b : Nat) : ∀ (vs : List Value) (o : Nat) (w : World), (w.setCells b o vs).heap.size = w.heap.size
  | [], _, _ => rfl
  | v :: r, o, w => by rw [World.setCells, size_setCells b r]; simp
theorem Led.below {tok : ByteArray} {L : Nat} {w w' : World} {r : Option Nat} {n : Nat} {D : DataW Unit} (h : Led tok L w r n D) (hb : Below w.heap.size w w') : Led tok L w' r n D :=
  h.kept (Kept.of_below hb (fun _ => False)) id (fun _ _ => id) (fun _ _ _ => id)

/-- the rows of balances at block G -/
def Rw (w : World) (G : Nat) (N : List ByteArray) (tok : ByteArray) (k : Nat) : Prop := ∀ i, i < k → w.rangeAt G (i * 8) (bal (st N i) tok).toList

theorem Rw.succ {w : World} {G : Nat} {N : List ByteArray} {tok : ByteArray} {k m : Nat} (h : Rw w G N tok k) (ht : w.there G 0 (m * 8)) (hk : k < m) (s : ByteArray) (hs : s = st N k) :
    Rw (w.setCells G (k * 8) (bal s tok).toList) G N tok (k + 1) := by
  intro i hi
  by_cases e : i = k
  · subst e
    rw [hs]
    refine World.rangeAt_setCells_same _ _ _ _ (fun j hj => ?_)
    have := ht (i * 8 + j) (by simp [bal] at hj; omega)
    rw [Nat.zero_add] at this
    exact this
  · exact World.rangeAt_setCells_apart (h i (by omega)) _ _ _ (.inr (.inl (by simp [bal]; omega)))

/-- what Balances hands back -/
structure Bals (w : World) (a : Option Addr) (m c : Nat) (T : List (List UInt8)) (tok : ByteArray) : Prop where
  adr : ∃ G, a = some ⟨G, 0, none⟩ ∧ G < w.heap.size ∧ Rw w G (nms T) tok m
  len : T.length = m

/-- the balance that the map leads to -/
theorem Led.find {tok : ByteArray} {L : Nat} {w : World} {b n : Nat} {D : DataW Unit} (h : Led tok L w (some b) n D) (s : ByteArray) (hs : s.size ≤ maxLen) (hh : Maps.has D (ky s) = true) :
    ∃ g, (Instr.lookup 51 (.map (some b)) (.string s) false).run Try.prog w = .ok (.pointer (some ⟨g, 0, none⟩)) w ∧ w.rangeAt g 0 (bal s tok).toList := by
  rcases h.mp with ⟨h0, _⟩ | ⟨b', hb', ho⟩
  · cases h0
  cases hb'
  obtain ⟨v, ps, hrun, hv⟩ := ho.lookup law9 Try.underlying51 (zero31 w) pR_nil (WideMaps.keyOf_string_mk Try.underlying9 hs)
  obtain ⟨g, hg, hc⟩ := h.bl s hh
  rw [hg] at hv
  rw [pR_inv hv] at hrun
  refine ⟨g, hrun, fun j u hu => ?_⟩
  rw [cell_of_row _ _ _ _ _ _ hc, Nat.zero_add]
  simpa using hu

set_option maxHeartbeats 400000 in
theorem balances_any (tok : ByteArray) (L : Nat) (w : World) (r : Option Nat) (n : Nat) (D : DataW Unit) (h : Led tok L w r n D) (hn : n ≤ 4096) :
    Calls Try.prog 10 #[.pointer (some ⟨L, 0, none⟩)] w fun e w' => ∃ a m c T, e = .returned (.slice a m c) ∧ Bals w' a m c T tok ∧ SortedOf D T ∧ Below w.heap.size w w' := by
  have HL := hidden h
  have c1 := h.cell1
  clear h
  go_enter Try.func10, Try.ntmps10
  go_wp2_with fail
  refine (keys_any _ _).mono ?_
  rintro e w1 ⟨rfl, rfl⟩
  go_wp2_with fail
  refine (sorted_any tok L w r n D HL.out hn).mono ?_
  rintro e w1 ⟨a, m, c, T, rfl, hsa, hl, hSO, hb1⟩
  have hm : m ≤ 4096 := by
    have h1 := hSO.len
    rcases HL.out.mp with ⟨_, _, h2⟩ | ⟨b, _, ho⟩
    · rw [h2] at h1
      have h3 : T.length = 0 := h1
      omega
    · have := ho.size_le; omega
  have hmk := make40 m hm
  have HSA := hidden hsa
  have HSO := hidden hSO
  have HB1 := hidden hb1
  have HLN := hidden hl
  clear hsa hSO hb1 hl c1
  go_wp2
  go_loopw [18] (fun i wr => ∃ k : Nat, k ≤ m ∧ i = .int .i64 k ∧ Hid (Below w1.heap.size w1 wr) ∧ Hid (wr.there w1.heap.size 0 (m * 8)) ∧ Hid (Rw wr w1.heap.size (nms T) tok k) ∧ w1.heap.size < wr.heap.size) (fun i _ => m - (intOf i).toNat)
  case atStart => exact ⟨0, Nat.zero_le _, rfl, (Below.refl _ _).alloc (Nat.le_refl _) _, there_made _ _ _, fun i hi => absurd hi (Nat.not_lt_zero i), by simp⟩
  case round =>
    obtain ⟨k, hk, rfl, HB, HT, HR, hgs⟩ := hrel
    by_cases hlt : k < m
    · obtain ⟨gb, off, e, hgb, hc, hmx⟩ := HSA.out k hlt
      subst e
      have hc' : wr.cell? ⟨gb, off + k, none⟩ = some (.string (st (nms T) k)) := (HB.out.cell (p := ⟨gb, off + k, none⟩) hgb).trans hc
      have hled : Led tok L wr r n D := HL.out.below (HB1.out.trans (HB.out.mono HB1.out.size))
      have hhas : Maps.has D (ky (st (nms T) k)) = true := by
        rw [nms_at T k (by have := HLN.out; omega)]
        refine (HSO.out.mem _).1 ?_
        have hkl : k < T.length := by have := HLN.out; omega
        rw [List.getD_eq_getElem?_getD, List.getElem?_eq_getElem hkl]
        exact List.getElem_mem _
      obtain ⟨bm, rfl⟩ : ∃ bm, r = some bm := by
        rcases hled.mp with ⟨_, _, h3⟩ | ⟨bm, h3, _⟩
        · rw [h3] at hhas; simp [Maps.has] at hhas
        · exact ⟨bm, h3⟩
      obtain ⟨g, hrun, hrange⟩ := hled.find (st (nms T) k) hmx hhas
      have c1 := hled.cell1
      have HRG := hidden hrange
      obtain ⟨s, hs⟩ : ∃ s, s = st (nms T) k := ⟨_, rfl⟩
      rw [← hs] at hc' hrun HRG
      have HS := hidden hs
      have HTH : Hid (wr.there w1.heap.size (k * 8) (bal s tok).size) := fun j hj => by
        have := HT.out (k * 8 + j) (by simp [bal] at hj; omega)
        rw [Nat.zero_add] at this
        exact this
      clear hs hc hmx hled hhas hrange
      have hbt : (bal s tok).toList.toArray = bal s tok := by simp
      go_wp2_with (first
        | (have hrg := HRG.out; refine wpList_load_mid rfl 40 (.tmp 31) rfl g 0 rfl (bal s tok).toList _ hrg Try.underlying40 rfl (size40 s tok) ?_; clear hrg HRG; rw [hbt])
        | (have hth := HTH.out; refine wpList_store_mid rfl 40 (.tmp 33) (.tmp 32) rfl w1.heap.size (k * 8) (bal s tok) rfl rfl hth (size40' s tok) (one40 s tok) ?_; clear hth HTH))
      exact ⟨⟨k + 1, by omega, by go_num, Below.setCells' (Nat.le_refl _) _ _ _ HB.out, World.there_setCells HT.out _ _ _, HR.out.succ HT.out hlt s HS.out, by rw [size_setCells]; exact hgs⟩, by simp [intOf]; omega⟩
    · obtain rfl : k = m := by omega
      go_wp2
      go_ret
      exact ⟨_, _, _, T, rfl, ⟨⟨_, rfl, hgs, HR.out⟩, HLN.out⟩, HSO.out, HB1.out.trans (HB.out.mono HB1.out.size)⟩
end Go.Proofs.Qxb6002388a
