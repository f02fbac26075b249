/- FnBookBalancesOrderAndAgreement (4): what the walk leans on. -/
import Derived.Test.Qxb6002388aPlain
import Derived.Test.Qxb6002388aBookBal
import Derived.Test.Qxb6002388aScrWalk
import Derived.Deep.DeepCutAuto
import Derived.BigQuiet
import Derived.Deep.QuietTactic
namespace Go.Proofs.Qxb6002388a
open Go.RowKit Go.Maps Go.Sort Go.Shelf Go.Proofs
set_option linter.unusedVariables false
set_option maxRecDepth 100000

/-- a variable of an array type, laid by one law -/
theorem wpList_alloc_row {P : Program} (w : World) {ops : Array Oper} {rest : List Oper} {o : Oper} {a : Act} {Q : Exit → Act → World → Prop}
    (hg : o.guard = none) (t : TypeId) (hop : o.op = Op.alloc t) (n : Nat) (z : Value) (hz : (P.info? t).map (·.zero) = some (some (.agg (Array.replicate n z))))
    (hK : ∀ w', w'.rowIs w.heap.size t n (fun _ => z) → Below w.heap.size w w' → w'.heap.size = w.heap.size + 1 → wpList P ops Q rest (a.put o.dst (.pointer (some ⟨w.heap.size, 0, none⟩))) w') :
    wpList P ops Q (o :: rest) a w := by
  refine wpList_plain hg fun K hK' => ?_
  have hrun : (Instr.alloc t true (.tuple #[])).run P w = .ok (.pointer (some ⟨w.heap.size, 0, none⟩)) (w.alloc (.cells (Array.replicate n z) t)) := by
    obtain ⟨i, hi, hzz⟩ := Option.map_eq_some_iff.1 hz
    simp [Instr.alloc, zeroValue, typeInfo, hi, hzz, newVar, newRow, Value.cells, go_sem]
  unfold Oper.wp
  simp [execOp, hop, hrun, Result.andThen]
  refine hK' _ _ (hK _ ?_ ((Below.refl _ _).alloc (Nat.le_refl _) _) (by simp))
  have h := World.rowIs_alloc w (Array.replicate n z) t (fun _ => z) (fun i hi => by simp at hi; simp [hi])
  simpa using h

theorem zero46 : (Try.prog.info? 46).map (·.zero) = some (some (.agg (Array.replicate 64 (.string ByteArray.empty)))) := by kernel_rfl

/-- the script's start -/
theorem scr_start {w wx wy : World} (hx : wx.rowIs (w.heap.size + 1) 46 64 (fun _ => .string ByteArray.empty)) (hbx : Below (w.heap.size + 1) (w.alloc (.cells #[.map none] 28)) wx) (hsx : wx.heap.size = w.heap.size + 2)
    (hy : wy.rowIs (w.heap.size + 2) 46 64 (fun _ => .string ByteArray.empty)) (hby : Below (w.heap.size + 2) wx wy) (hsy : wy.heap.size = w.heap.size + 3) :
    Scr w.heap.size (w.heap.size + 3) (w.heap.size + 1) (w.heap.size + 2) 0 w wy 0 (fun _ => (ByteArray.empty, ByteArray.empty)) := by
  have hK : wy.heap[w.heap.size]? = some (.cells #[.map none] 28 (0, 0)) := by
    rw [hby.block _ (by omega), hbx.block _ (by omega)]
    exact Deep.blk_alloc_new w _
  refine ⟨⟨none, 0, .map [], hK, .inl ⟨rfl, rfl, rfl⟩, fun t ht => by simp [Maps.has] at ht, fun p hp => ?_, Nat.le_refl _⟩, ⟨hx.of_block (hby.block _ (by omega)), hy⟩, fun i j hi => absurd hi (Nat.not_lt_zero i), ?_, by omega⟩
  · obtain ⟨i, hi, _⟩ := hp; exact absurd hi (Nat.not_lt_zero i)
  · exact ((Below.refl _ w).alloc (Nat.le_refl _) _).trans ((hbx.mono (by omega)).trans (hby.mono (by omega)))


/-- behind the script, the book's list and the sort -/
structure Bft (K Z : Nat) (w3 wr : World) (m N : Nat) (f : Nat → Pr) (v : Value) (R : List Pr) : Prop where
  own : wr.ownsRow Z 40 8 v R.length (rowsB R)
  bk : ∃ rB nB DB, Bk K (K + 3) N wr rB nB DB (PP m f)
  bel : Below K w3 wr
  sz : K + 3 ≤ wr.heap.size

theorem Bft.drewN {K Z : Nat} {w3 wr : World} {m N : Nat} {f : Nat → Pr} {v : Value} {R : List Pr} (h : Bft K Z w3 wr m N f v R) (q : Nat) : Bft K Z w3 (wr.drewN q) m N f v R := by
  obtain ⟨rB, nB, DB, hb⟩ := h.bk
  exact ⟨h.own, ⟨rB, nB, DB, hb.kept (S := fun _ => False) ⟨rfl, rfl, rfl, Nat.le_refl _, fun _ _ _ => rfl⟩ (fun _ h => h.elim) (fun _ _ _ => id)⟩, below_drewN h.bel q, h.sz⟩

theorem aft {K N : Nat} {w3 w5 w6 wc : World} {m : Nat} {f : Nat → Pr} {v : Value} {R : List Pr} {rB : Option Nat} {nB : Nat} {DB : DataW Unit} (hS : Scr K (K + 3) (K + 1) (K + 1 + 1) N w3 w5 m f) (hbk : Bk K (K + 3) N w5 rB nB DB (PP m f)) (hG : Got w5 w6 (PP m f) v R) (hso : Sorts w6 wc (K + 1) (K + 1 + 1) m f) :
    ∃ f', Rows2 wc (K + 1) (K + 1 + 1) f' ∧ (R.length = m ∧ ∀ i, i < m → R[i]! = f' i) ∧ Bft K w5.heap.size w3 wc m N f v R := by
  obtain ⟨f', hrow, hsame, hord⟩ := hso.ex
  have hsz := hS.sz
  have hsz6 := hG.bel.size
  have hszc := hso.kept.size
  refine ⟨f', hrow, got_rows hS.inj hsame hord hG.sorted hG.mem, own_row_kept hG.own (fun g hg => ?_), ⟨rB, nB, DB, ?_⟩, ?_, by omega⟩
  · obtain ⟨h1, h2, _⟩ := own_row_block hG.own hg
    exact hso.kept.block g h2 (by omega)
  · have h6 := hbk.kept (S := fun _ => False) (Kept.of_below hG.bel _) (fun _ h => h.elim) (fun _ _ _ => id)
    refine h6.kept hso.kept (fun k hk => by rcases hk with e | e <;> omega) (fun g cs hg e => ?_)
    rcases e with e | e
    · subst e
      obtain ⟨c, hc, _⟩ := hS.row.x
      have := (hG.bel.block _ hS.row.x.lt).trans hc
      have := this.symm.trans hg
      simp at this
    · subst e
      obtain ⟨c, hc, _⟩ := hS.row.y
      have := (hG.bel.block _ hS.row.y.lt).trans hc
      have := this.symm.trans hg
      simp at this
  · exact hS.bel.trans ((hG.bel.mono (by omega)).trans (hso.kept.below K (by omega) (fun k _ e => by rcases e with e | e <;> omega)))

/-- a cell of the list -/
theorem own_at {w : World} {Z : Nat} {a : Option Addr} {n c : Nat} {R : List Pr} (h : w.ownsRow Z 40 8 (.slice a n c) n (rowsB R)) (hl : R.length = n) (i : Nat) (hi : i < n) : ∃ g, a = some ⟨g, 0, none⟩ ∧ g < w.heap.size ∧ w.cell? ⟨g, i * 8, none⟩ = some (.string (R[i]!).2) ∧ w.cell? ⟨g, i * 8 + 1, none⟩ = some (.string (R[i]!).1) := by
  rcases h.2 with ⟨h0, h1⟩ | ⟨g, cap, cur, e, _, h3, _⟩
  · omega
  · cases e
    refine ⟨g, rfl, (Array.getElem?_eq_some_iff.1 h3).1, ?_, ?_⟩
    · rw [h.cellAt (i * 8) (by omega)]
      have := rowsB_get R i 0 (by omega) (by omega)
      rw [Nat.add_zero] at this
      rw [this]; rfl
    · rw [h.cellAt (i * 8 + 1) (by omega), rowsB_get R i 1 (by omega) (by omega)]
      rfl
theorem own_slice {w : World} {Z n : Nat} {v : Value} {xs : List Value} (h : w.ownsRow Z 40 8 v n xs) : ∃ a c, v = .slice a n c := by
  rcases h.2 with ⟨h0, h1⟩ | ⟨g, cap, cur, e, _⟩
  · exact ⟨none, 0, by rw [h0, h1]⟩
  · exact ⟨_, _, e⟩

/-- behind asking for a ledger and listing it -/
structure Lst (K Z : Nat) (w3 wr : World) (m N : Nat) (f : Nat → Pr) (v : Value) (R : List Pr) (t : ByteArray) (G mm : Nat) : Prop where
  bft : Bft K Z w3 wr m N f v R
  own : wr.ownsRow Z 40 8 (.slice (some ⟨G, 0, none⟩) mm mm) mm (rowsB (ofT t R))
  len : (ofT t R).length = mm
  mm : mm ≤ 4096

theorem Bft.asked {K Z : Nat} {w3 wr wa : World} {m N : Nat} {f : Nat → Pr} {v : Value} {R : List Pr} (h : Bft K Z w3 wr m N f v R) (hZ : K + 3 ≤ Z) {t : ByteArray} {L : Nat} (o : Asked K (K + 3) (N + 1) wr wa t L (PP m f)) : Bft K Z w3 wa m (N + 1) f v R := by
  obtain ⟨rB, nB, DB, hb, _⟩ := o.ex
  have hs := h.sz
  refine ⟨own_row_kept h.own (fun g hg => ?_), ⟨rB, nB, DB, hb⟩, h.bel.trans (o.kept.below K (by omega) (fun k _ e => by rcases e with e | e <;> omega)), Nat.le_trans hs o.kept.size⟩
  obtain ⟨h1, h2, cur, h3⟩ := own_row_block h.own hg
  exact o.cells g _ _ _ (by omega) h3

theorem Bft.listed {K Z : Nat} {w3 wa wb : World} {m N : Nat} {f : Nat → Pr} {v : Value} {R : List Pr} (h : Bft K Z w3 wa m N f v R) (hZ : Z ≤ wa.heap.size) (hR : R.Pairwise (fun p q => pl p q = true)) (hm : ∀ p, p ∈ R ↔ PP m f p) {t : ByteArray} {D : DataW Unit} {T : List (List UInt8)} {G mm : Nat} (hSO : SortedOf D T) (hP : ∀ s, Maps.has D (ky s) = true ↔ PP m f (t, s))
    (ho : wb.ownsRow wa.heap.size 40 8 (.slice (some ⟨G, 0, none⟩) mm mm) mm (rowsB (prs t T))) (hl : T.length = mm) (hmm : mm ≤ 4096) (hb : Below wa.heap.size wa wb) : Lst K Z w3 wb m N f v R t G mm := by
  have e := ofT_eq hR hm hSO hP
  obtain ⟨rB, nB, DB, hbk⟩ := h.bk
  have hs := h.sz
  refine ⟨⟨own_row_kept h.own (fun g hg => hb.block g (own_row_block h.own hg).2.1), ⟨rB, nB, DB, hbk.kept (S := fun _ => False) (Kept.of_below hb _) (fun _ h => h.elim) (fun _ _ _ => id)⟩, h.bel.trans (hb.mono (by omega)), Nat.le_trans hs hb.size⟩, ?_, by rw [e, prs_len, hl], hmm⟩
  rw [e]
  exact own_row_base ho hZ
theorem Lst.drewN {K Z : Nat} {w3 wr : World} {m N : Nat} {f : Nat → Pr} {v : Value} {R : List Pr} {t : ByteArray} {G mm : Nat} (h : Lst K Z w3 wr m N f v R t G mm) (q : Nat) : Lst K Z w3 (wr.drewN q) m N f v R t G mm :=
  ⟨h.bft.drewN q, h.own, h.len, h.mm⟩
end Go.Proofs.Qxb6002388a
