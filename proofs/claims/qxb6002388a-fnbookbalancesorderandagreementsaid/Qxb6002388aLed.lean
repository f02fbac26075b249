/- A ledger in memory; Ledger.open (19), ZZOpen (9). -/
import Derived.Test.Qxb6002388aStrs
import Derived.Maps.Own
import Derived.Maps.OwnSet
import Derived.Maps.OwnOps
import Derived.Sort.KeysCollected
import Derived.Deep.Heap
namespace Go.Proofs.Qxb6002388a
open Go.RowKit Go.Maps
set_option linter.unusedVariables false

/-- how a pointer in a map reads: the block that it leads to -/
def pR : Value → Option (DataW Unit × List MemPlace)
  | .pointer none => some (.nil, [])
  | .pointer (some ⟨g, 0, none⟩) => some (.lit (.int .i64 g), [])
  | _ => none
theorem pR_nil : pR (.pointer none) = some (.nil, []) := rfl
theorem pR_mk (g : Nat) : pR (.pointer (some ⟨g, 0, none⟩)) = some (.lit (.int .i64 g), []) := rfl
theorem pR_inv_nil {v : Value} {ps : List MemPlace} (h : pR v = some (.nil, ps)) : v = .pointer none := by
  unfold pR at h
  split at h <;> simp_all
theorem pR_inv {v : Value} {g : Nat} {ps : List MemPlace} (h : pR v = some (.lit (.int .i64 g), ps)) : v = .pointer (some ⟨g, 0, none⟩) := by
  unfold pR at h
  split at h
  · simp at h
  · rename_i g'
    simp at h
    rw [show g' = g from by omega]
  · cases h

theorem law9 : Keyed Try.prog 9 := string_keyed Try.underlying9
theorem zero31 (w : World) : (zeroValue 31).run Try.prog w = .ok (.pointer none) w := by kernel_rfl
theorem zero29 (w : World) : (zeroValue 29).run Try.prog w = .ok (.pointer none) w := by kernel_rfl

/-- what a name is as a key -/
abbrev ky (s : ByteArray) : Lit := .string s.data.toList
theorem ky_inj {s t : ByteArray} (h : ky s = ky t) : s = t := by
  injection h with h
  cases s; cases t
  simp at h
  rw [h]

/-- the cells of a balance that holds nothing -/
def bal (s tok : ByteArray) : Array Value := #[.string s, .string tok, .pointer none, .int .i64 0, .int .i64 0, .pointer none, .int .i64 0, .int .i64 0]

/-- nothing has turned but the blocks of S, and new ones -/
structure Kept (S : Nat → Prop) (w w' : World) : Prop where
  os : w'.os = w.os
  tape : w'.tape = w.tape
  output : w'.output = w.output
  size : w.heap.size ≤ w'.heap.size
  block : ∀ k, k < w.heap.size → ¬ S k → w'.heap[k]? = w.heap[k]?
theorem Kept.refl (S : Nat → Prop) (w : World) : Kept S w w := ⟨rfl, rfl, rfl, Nat.le_refl _, fun _ _ _ => rfl⟩
theorem Kept.trans {S : Nat → Prop} {a b c : World} (h : Kept S a b) (h' : Kept S b c) : Kept S a c :=
  ⟨h'.os.trans h.os, h'.tape.trans h.tape, h'.output.trans h.output, Nat.le_trans h.size h'.size, fun k hk hs => (h'.block k (Nat.lt_of_lt_of_le hk h.size) hs).trans (h.block k hk hs)⟩
theorem Kept.mono {S T : Nat → Prop} {a b : World} (h : Kept S a b) (hST : ∀ k, k < a.heap.size → S k → T k) : Kept T a b :=
  ⟨h.os, h.tape, h.output, h.size, fun k hk hs => h.block k hk (fun hh => hs (hST k hk hh))⟩
theorem Kept.below {S : Nat → Prop} {w w' : World} (h : Kept S w w') (B : Nat) (hB : B ≤ w.heap.size) (hS : ∀ k, k < w.heap.size → S k → B ≤ k) : Below B w w' :=
  ⟨h.os, h.tape, h.output, h.size, fun k hk => h.block k (by omega) (fun hh => by have := hS k (by omega) hh; omega)⟩
theorem Kept.of_below {w w' : World} (h : Below w.heap.size w w') (S : Nat → Prop) : Kept S w w' :=
  ⟨h.os, h.tape, h.output, h.size, fun k hk _ => h.block k hk⟩
theorem Kept.of_grown {w w' : World} {row : Option Nat} (h : w.grownBy w' row) : Kept (fun k => row = some k) w w' :=
  ⟨h.os, h.tape, h.output, h.size, fun k hk hs => h.block k hk (fun e => hs e.symm)⟩

/-- a ledger of the token tok at block L, its accounts at r reading as D -/
structure Led (tok : ByteArray) (L : Nat) (w : World) (r : Option Nat) (n : Nat) (D : DataW Unit) : Prop where
  hd : w.heap[L]? = some (.cells #[.string tok, .map r] 53 (0, 0))
  mp : (r = none ∧ n = 0 ∧ D = .map []) ∨ ∃ b, r = some b ∧ w.ownsMap Try.prog 9 pR b n D
  bl : ∀ s, Maps.has D (ky s) = true → ∃ g : Nat, (∀ zd, D.atKey (ky s) zd = .lit (.int .i64 g)) ∧ w.heap[g]? = some (.cells (bal s tok) 40 (0, 0))

section
variable {tok : ByteArray} {L : Nat} {w w' : World} {r : Option Nat} {n : Nat} {D : DataW Unit}

theorem Led.cell0 (h : Led tok L w r n D) : w.cell? ⟨L, 0, none⟩ = some (.string tok) := by simp [World.cell?, h.hd]
theorem Led.cell1 (h : Led tok L w r n D) : w.cell? ⟨L, 1, none⟩ = some (.map r) := by simp [World.cell?, h.hd]
theorem Led.frozen (h : Led tok L w r n D) (i : Nat) : w.frozen? ⟨L, i, none⟩ = false := by simp [World.frozen?, h.hd]
theorem Led.lt (h : Led tok L w r n D) : L < w.heap.size := (Array.getElem?_eq_some_iff.1 h.hd).1

/-- a ledger stays what it is while other blocks turn -/
theorem Led.kept {S : Nat → Prop} (h : Led tok L w r n D) (hk : Kept S w w') (h1 : ¬ S L) (h2 : ∀ b, r = some b → ¬ S b) (h3 : ∀ g cs, w.heap[g]? = some (.cells cs 40 (0, 0)) → ¬ S g) : Led tok L w' r n D := by
  refine ⟨(hk.block L h.lt h1).trans h.hd, ?_, fun s hs => ?_⟩
  · rcases h.mp with hm | ⟨b, rfl, ho⟩
    · exact .inl hm
    · refine .inr ⟨b, rfl, ?_⟩
      have hlt := ho.lt
      obtain ⟨es, clock, hb, F, hs, hD⟩ := ho
      exact ⟨es, clock, (hk.block b hlt (h2 b rfl)).trans hb, F, hs, hD⟩
  · obtain ⟨g, hg, hc⟩ := h.bl s hs
    exact ⟨g, hg, (hk.block g (Array.getElem?_eq_some_iff.1 hc).1 (h3 g _ hc)).trans hc⟩

theorem Led.isMap (h : Led tok L w r n D) : Tidy D := by
  rcases h.mp with ⟨_, _, rfl⟩ | ⟨b, _, ho⟩
  · exact tidy_empty
  · exact ho.tidy law9
end

/-- what opening a name does -/
structure Opened (tok : ByteArray) (L : Nat) (w w' : World) (r r' : Option Nat) (n n' : Nat) (D D' : DataW Unit) (name : ByteArray) : Prop where
  led : Led tok L w' r' n' D'
  n : n' ≤ n + 1
  has : ∀ s, Maps.has D' (ky s) = (Maps.has D (ky s) || decide (s = name))
  size : Maps.size D' = Maps.size D + (if Maps.has D (ky name) then 0 else 1)
  kept : Kept (fun k => k = L ∨ r = some k) w w'
  r : (∀ b, r = some b → r' = some b) ∧ (r = none → ∃ b, r' = some b ∧ w.heap.size ≤ b)

set_option maxHeartbeats 400000 in
theorem open_there (tok : ByteArray) (L : Nat) (w : World) (b n : Nat) (D : DataW Unit) (name : ByteArray) (hs : name.size ≤ maxLen) (h : Led tok L w (some b) n D) (hh : Maps.has D (ky name) = true) :
    Calls Try.prog 19 #[.pointer (some ⟨L, 0, none⟩), .string name] w fun e w' => (∃ g : Nat, e = .returned (.pointer (some ⟨g, 0, none⟩))) ∧ w' = w := by
  have hnil := fun (r : Option Nat) (w : World) => run_eql_map_nil (P := Try.prog) w 51 9 31 r Try.underlying51
  rcases h.mp with ⟨h0, _⟩ | ⟨b', hb', ho⟩
  · cases h0
  cases hb'
  obtain ⟨v, ps, hrun, hv⟩ := ho.lookup law9 Try.underlying51 (zero31 w) pR_nil (WideMaps.keyOf_string_mk Try.underlying9 hs)
  obtain ⟨g, hg, _⟩ := h.bl name hh
  rw [hg] at hv
  rw [pR_inv hv] at hrun
  have c1 := h.cell1
  clear h ho hv hg hh
  go_enter Try.func19, Try.ntmps19
  go_wp2
  go_ret
  exact ⟨⟨g, rfl⟩, rfl⟩

theorem grown_setCell (w : World) (p : Addr) (v : Value) : w.grownBy (w.setCell p v) (some p.block) :=
  ⟨rfl, rfl, rfl, by simp, fun k _ hne => Deep.blk_setCell_other w p v k (fun e => hne (by rw [e]))⟩

/-- the map's part of opening a new name: a balance in a new block, then the store -/
theorem put_new {w : World} {b n : Nat} {D : DataW Unit} {tok name : ByteArray} (ho : w.ownsMap Try.prog 9 pR b n D) (hn : n < maxLen) (hs : name.size ≤ maxLen) :
    ∃ w1, (Instr.mapUpdate 51 (.map (some b)) (.string name) (.pointer (some ⟨w.heap.size, 0, none⟩))).run Try.prog (w.alloc (.cells (bal name tok) 40)) = .ok () w1 ∧
      w1.ownsMap Try.prog 9 pR b (n + 1) (D.put (ky name) (.lit (.int .i64 (w.heap.size : Nat)))) ∧ (w.alloc (.cells (bal name tok) 40)).grownBy w1 (some b) :=
  (ho.alloc _).update law9 Try.underlying51 hn (WideMaps.keyOf_string_mk Try.underlying9 hs) (pR_mk _)

theorem opened_new {tok : ByteArray} {L : Nat} {w w1 : World} {b n : Nat} {D : DataW Unit} {name : ByteArray} (h : Led tok L w (some b) n D) (hno : Maps.has D (ky name) = false)
    (ho1 : w1.ownsMap Try.prog 9 pR b (n + 1) (D.put (ky name) (.lit (.int .i64 (w.heap.size : Nat))))) (hg1 : (w.alloc (.cells (bal name tok) 40)).grownBy w1 (some b)) :
    Opened tok L w w1 (some b) (some b) n (n + 1) D (D.put (ky name) (.lit (.int .i64 (w.heap.size : Nat)))) name := by
  rcases h.mp with ⟨h0, _⟩ | ⟨b', hb', ho⟩
  · cases h0
  cases hb'
  have hT := h.isMap
  have hbm : ∀ g cs t fr, w.heap[g]? = some (.cells cs t fr) → g ≠ b := by
    intro g cs t fr hg e
    obtain ⟨es, cl, hb, _⟩ := ho
    rw [e, hb] at hg
    cases hg
  have hblk : ∀ g, g < w.heap.size → g ≠ b → w1.heap[g]? = w.heap[g]? := fun g hg hne => (hg1.block g (by simp; omega) (by simpa using hne)).trans (Deep.blk_alloc_lt w _ g hg)
  have hblt := ho.lt
  have hhas : ∀ s, Maps.has (D.put (ky name) (.lit (.int .i64 (w.heap.size : Nat)))) (ky s) = (Maps.has D (ky s) || decide (s = name)) := by
    intro s
    by_cases e : s = name
    · subst e
      rw [has_put_same (k := ky s) hT.isMap trivial]; simp
    · rw [has_put_other (fun h => e (ky_inj h))]; simp [e]
  refine ⟨⟨?_, .inr ⟨b, rfl, ho1⟩, fun s hs => ?_⟩, Nat.le_refl _, hhas, ?_, ⟨hg1.os, hg1.tape, hg1.output, Nat.le_trans (by simp) hg1.size, fun k hk hS => hblk k hk (fun e => hS (.inr (by rw [e])))⟩, ⟨fun _ h => h, fun h => by cases h⟩⟩
  · rw [hblk L h.lt (hbm L _ _ _ h.hd)]; exact h.hd
  · by_cases e : s = name
    · subst e
      refine ⟨w.heap.size, fun zd => atKey_put_same (k := ky s) hT.isMap trivial _ _, ?_⟩
      rw [hg1.block w.heap.size (by simp) (by simp; omega)]
      exact Deep.blk_alloc_new w _
    · have hs' : Maps.has D (ky s) = true := by rw [hhas s] at hs; simpa [e] using hs
      obtain ⟨g, hg, hc⟩ := h.bl s hs'
      refine ⟨g, fun zd => (atKey_put_other (fun h => e (ky_inj h)) _ _).trans (hg zd), ?_⟩
      rw [hblk g (Array.getElem?_eq_some_iff.1 hc).1 (hbm g _ _ _ hc)]; exact hc
  · rw [size_put hT, hno]; rfl

set_option maxHeartbeats 400000 in
theorem open_new (tok : ByteArray) (L : Nat) (w : World) (b n : Nat) (D : DataW Unit) (name : ByteArray) (hs : name.size ≤ maxLen) (hn : n < maxLen) (h : Led tok L w (some b) n D) (hh : Maps.has D (ky name) = false) :
    Calls Try.prog 19 #[.pointer (some ⟨L, 0, none⟩), .string name] w fun e w' => (∃ g : Nat, e = .returned (.pointer (some ⟨g, 0, none⟩))) ∧ ∃ D', Opened tok L w w' (some b) (some b) n (n + 1) D D' name := by
  have hnil := fun (r : Option Nat) (w : World) => run_eql_map_nil (P := Try.prog) w 51 9 31 r Try.underlying51
  have hmp := h.mp
  rcases hmp with ⟨h0, _⟩ | ⟨b', hb', ho⟩
  · cases h0
  cases hb'
  obtain ⟨v, ps, hrun, hv⟩ := ho.lookup law9 Try.underlying51 (zero31 w) pR_nil (WideMaps.keyOf_string_mk Try.underlying9 hs)
  rw [atKey_of_not_has hh] at hv
  rw [pR_inv_nil hv] at hrun
  obtain ⟨w1, hup, ho1, hg1⟩ := put_new (tok := tok) (name := name) ho hn hs
  have HO := hidden (opened_new h hh ho1 hg1)
  have c0 := h.cell0
  have c1 := h.cell1
  have hL := h.lt
  unfold bal at hup
  clear h ho hv hh ho1 hg1
  go_enter Try.func19, Try.ntmps19
  go_wp2
  go_ret
  exact ⟨⟨_, rfl⟩, _, HO.out⟩

theorem led_made {tok : ByteArray} {L : Nat} {w : World} {n : Nat} {D : DataW Unit} (h : Led tok L w none n D) :
    Led tok L ((w.setCell ⟨L, 1, none⟩ (.map (some w.heap.size))).alloc (.map #[] 0)) (some w.heap.size) 0 (.map []) ∧ Kept (fun k => k = L) w ((w.setCell ⟨L, 1, none⟩ (.map (some w.heap.size))).alloc (.map #[] 0)) := by
  have hm := World.ownsMap_made (H := Unit) (w.setCell ⟨L, 1, none⟩ (.map (some w.heap.size))) Try.prog 9 pR
  rw [World.size_setCell] at hm
  have hlt := h.lt
  refine ⟨⟨?_, .inr ⟨_, rfl, hm⟩, fun s hs => by simp [Maps.has] at hs⟩, ⟨rfl, rfl, rfl, by simp, fun k hk hS => ?_⟩⟩
  · rw [Deep.blk_alloc_lt _ _ _ (by simpa using hlt)]
    show (w.heap.modify _ _)[L]? = _
    rw [Array.getElem?_modify, if_pos rfl, h.hd]
    rfl
  · rw [Deep.blk_alloc_lt _ _ _ (by simpa using hk), Deep.blk_setCell_other _ _ _ _ hS]

set_option maxHeartbeats 400000 in
theorem open_first (tok : ByteArray) (L : Nat) (w : World) (n : Nat) (D : DataW Unit) (name : ByteArray) (hs : name.size ≤ maxLen) (h : Led tok L w none n D) :
    Calls Try.prog 19 #[.pointer (some ⟨L, 0, none⟩), .string name] w fun e w' => (∃ g : Nat, e = .returned (.pointer (some ⟨g, 0, none⟩))) ∧ ∃ D', Opened tok L w w' none (some w.heap.size) n 1 D D' name := by
  have hnil := fun (r : Option Nat) (w : World) => run_eql_map_nil (P := Try.prog) w 51 9 31 r Try.underlying51
  have hmm := @run_makeMap Try.prog
  obtain ⟨hL0, hK0⟩ := led_made h
  obtain ⟨rfl, rfl⟩ : n = 0 ∧ D = .map [] := by
    rcases h.mp with ⟨_, h1, h2⟩ | ⟨b, hb, _⟩
    · exact ⟨h1, h2⟩
    · cases hb
  have hmp := hL0.mp
  rcases hmp with ⟨h0, _⟩ | ⟨b', hb', ho⟩
  · cases h0
  cases hb'
  obtain ⟨v, ps, hrun, hv⟩ := ho.lookup law9 Try.underlying51 (zero31 _) pR_nil (WideMaps.keyOf_string_mk Try.underlying9 hs)
  have hh : Maps.has (DataW.map [] : DataW Unit) (ky name) = false := rfl
  rw [atKey_of_not_has hh] at hv
  rw [pR_inv_nil hv] at hrun
  obtain ⟨w1, hup, ho1, hg1⟩ := put_new (tok := tok) (name := name) ho (by unfold maxLen; omega) hs
  have HO := opened_new hL0 hh ho1 hg1
  have esz : ((w.setCell ⟨L, 1, none⟩ (.map (some w.heap.size))).alloc (.map #[] 0)).heap.size = w.heap.size + 1 := by simp
  have hK : Kept (fun k => k = L ∨ none = some k) w w1 :=
    ⟨HO.kept.os.trans hK0.os, HO.kept.tape.trans hK0.tape, HO.kept.output.trans hK0.output, Nat.le_trans hK0.size HO.kept.size, fun k hk hS => by
      have hkL : ¬ k = L := fun e => hS (.inl e)
      refine (HO.kept.block k (Nat.lt_of_lt_of_le hk hK0.size) (fun e => ?_)).trans (hK0.block k hk hkL)
      rcases e with e | e
      · exact hkL e
      · have : w.heap.size = k := by simpa using e
        omega⟩
  have HF := hidden (show Opened tok L w w1 none (some w.heap.size) 0 1 (.map []) _ name from
    ⟨HO.led, HO.n, HO.has, HO.size, hK, ⟨(fun b hb => by cases hb), fun _ => ⟨_, rfl, Nat.le_refl _⟩⟩⟩)
  rw [esz] at hup
  have c0 := h.cell0
  have c1 := h.cell1
  have hf1 := h.frozen 1
  have hL := h.lt
  unfold bal at hup
  clear h ho hv hh ho1 hg1 HO hL0 hK0 esz hK
  go_enter Try.func19, Try.ntmps19
  go_wp2
  go_ret
  exact ⟨⟨_, rfl⟩, _, HF.out⟩

/-- Ledger.open, whatever the ledger and the name -/
theorem open_any (tok : ByteArray) (L : Nat) (w : World) (r : Option Nat) (n : Nat) (D : DataW Unit) (name : ByteArray) (hs : name.size ≤ maxLen) (hn : n < maxLen) (h : Led tok L w r n D) :
    Calls Try.prog 19 #[.pointer (some ⟨L, 0, none⟩), .string name] w fun e w' => (∃ g : Nat, e = .returned (.pointer (some ⟨g, 0, none⟩))) ∧ ∃ r' n' D', Opened tok L w w' r r' n n' D D' name := by
  rcases r with _ | b
  · refine (open_first tok L w n D name hs h).mono ?_
    rintro e w' ⟨he, D', hO⟩
    obtain ⟨rfl, _⟩ : n = 0 ∧ D = .map [] := by
      rcases h.mp with ⟨_, h1, h2⟩ | ⟨b, hb, _⟩
      · exact ⟨h1, h2⟩
      · cases hb
    exact ⟨he, _, _, D', hO⟩
  · cases hh : Maps.has D (ky name) with
    | false =>
      refine (open_new tok L w b n D name hs hn h hh).mono ?_
      rintro e w' ⟨he, D', hO⟩
      exact ⟨he, _, _, D', hO⟩
    | true =>
      refine (open_there tok L w b n D name hs h hh).mono ?_
      rintro e w' ⟨he, rfl⟩
      refine ⟨he, some b, n, D, ⟨h, Nat.le_succ _, fun s => ?_, by rw [hh]; rfl, Kept.refl _ _, ⟨fun _ h => h, fun h => by cases h⟩⟩⟩
      by_cases e : s = name
      · subst e; rw [hh]; rfl
      · simp [e]

theorem zz_open (tok : ByteArray) (L : Nat) (w : World) (r : Option Nat) (n : Nat) (D : DataW Unit) (name : ByteArray) (hs : name.size ≤ maxLen) (hn : n < maxLen) (h : Led tok L w r n D) :
    Calls Try.prog 9 #[.pointer (some ⟨L, 0, none⟩), .string name] w fun e w' => (∃ g : Nat, e = .returned (.pointer (some ⟨g, 0, none⟩))) ∧ ∃ r' n' D', Opened tok L w w' r r' n n' D D' name := by
  have H := hidden h
  clear h
  go_enter Try.func9, Try.ntmps9
  go_wp2_with fail
  refine (open_any tok L w r n D name hs hn H.out).mono ?_
  rintro e w' ⟨⟨g, rfl⟩, hO⟩
  have HO := hidden hO
  clear hO
  go_wp2
  go_ret
  exact ⟨⟨g, rfl⟩, HO.out⟩
end Go.Proofs.Qxb6002388a
