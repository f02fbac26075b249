/- store.ZZMatches (17): what its loops keep. -/
import Derived.Test.Qxb6000561aMatches
import Derived.Test.Qxb6000561aBuild
import Derived.Deep.AppendLies
import Derived.Deep.RegionLaw
namespace Go.Proofs.Qxb6000561a
open Go.RowKit Go.Maps
set_option linter.unusedVariables false

theorem law9 : Keyed Try.prog 9 := string_keyed Try.underlying9
theorem zero52 (w : World) : (zeroValue 52).run Try.prog w = .ok (.agg #[]) w := by kernel_rfl

/-- a set of the first k strings -/
def Sm (ss : List ByteArray) : Nat → DataW Unit
  | 0 => .map []
  | k + 1 => (Sm ss k).put (.string (st ss k).data.toList) (.agg [])

/-- a field that is nil, or leads to a set -/
def Ms (G : Nat) (w : World) (r : Option Nat) (n : Nat) (D : DataW Unit) : Prop :=
  (r = none ∧ n = 0) ∨ ∃ b, r = some b ∧ G < b ∧ w.ownsMap Try.prog 9 unitElem b n D

/-- the cells of the first k pairs -/
def prs (ls cs : List Int) : Nat → List Value
  | 0 => []
  | k + 1 => prs ls cs k ++ [.int .i64 (ls.getD k 0), .int .i64 (cs.getD k 0)]

structure St (G : Nat) (w0 w : World) (r1 r2 : Option Nat) (a3 : Option Addr) (m c3 : Nat) (ks ps : List ByteArray) (n1 n2 : Nat) (xs : List Value) : Prop where
  hd : w.heap[G]? = some (.cells #[.map r1, .map r2, .slice a3 m c3] 51 (0, 0))
  m1 : Ms G w r1 n1 (Sm ks n1)
  m2 : Ms G w r2 n2 (Sm ps n2)
  own : w.ownsRow (G + 1) 54 2 (.slice a3 m c3) m xs
  ap : ∀ b, r1 = some b → r2 ≠ some b
  bel : Below G w0 w

section
variable {G : Nat} {w0 w : World} {r1 r2 : Option Nat} {a3 : Option Addr} {m c3 : Nat} {ks ps : List ByteArray} {n1 n2 : Nat} {xs : List Value}

theorem St.cell0 (h : St G w0 w r1 r2 a3 m c3 ks ps n1 n2 xs) : w.cell? ⟨G, 0, none⟩ = some (.map r1) := by simp [World.cell?, h.hd]
theorem St.cell1 (h : St G w0 w r1 r2 a3 m c3 ks ps n1 n2 xs) : w.cell? ⟨G, 1, none⟩ = some (.map r2) := by simp [World.cell?, h.hd]
theorem St.cell2 (h : St G w0 w r1 r2 a3 m c3 ks ps n1 n2 xs) : w.cell? ⟨G, 2, none⟩ = some (.slice a3 m c3) := by simp [World.cell?, h.hd]
theorem St.frozen (h : St G w0 w r1 r2 a3 m c3 ks ps n1 n2 xs) (i : Nat) : w.frozen? ⟨G, i, none⟩ = false := by simp [World.frozen?, h.hd]
theorem St.lt (h : St G w0 w r1 r2 a3 m c3 ks ps n1 n2 xs) : G < w.heap.size := (Array.getElem?_eq_some_iff.1 h.hd).1

theorem Ms.kept {w' : World} {r : Option Nat} {n : Nat} {D : DataW Unit} {row : Option Nat} (h : Ms G w r n D) (hg : w.grownBy w' row) (hne : ∀ b, r = some b → some b ≠ row) : Ms G w' r n D := by
  rcases h with h | ⟨b, rfl, hb, ho⟩
  · exact .inl h
  · exact .inr ⟨b, rfl, hb, ho.kept hg (hne b rfl)⟩

theorem St.update1 {b k : Nat} (h : St G w0 w (some b) r2 a3 m c3 ks ps k n2 xs) (hk : k < maxLen) (hs : (st ks k).size ≤ maxLen) :
    ∃ w1, (Instr.mapUpdate 48 (.map (some b)) (.string (st ks k)) (.agg #[])).run Try.prog w.drew = .ok () w1 ∧ St G w0 w1 (some b) r2 a3 m c3 ks ps (k + 1) n2 xs := by
  rcases h.m1 with ⟨h0, _⟩ | ⟨b', hb, hgb, ho⟩
  · cases h0
  cases hb
  obtain ⟨w1, hrun, ho1, hg1⟩ := ho.drew.update law9 Try.underlying48 hk (WideMaps.keyOf_string_mk Try.underlying9 hs) unitElem_mk
  have hg : w.grownBy w1 (some b) := ⟨hg1.os, hg1.tape, hg1.output, hg1.size, hg1.block⟩
  have hbm := ho
  refine ⟨w1, hrun, ⟨?_, .inr ⟨b, rfl, hgb, ho1⟩, h.m2.kept hg (fun c hc e => h.ap b rfl (by rw [hc, e])), ?_, h.ap, h.bel.grown hg (by have := h.lt; omega) (fun j hj => by cases hj; omega)⟩⟩
  · rw [hg.block G h.lt (by simp; omega)]; exact h.hd
  · refine h.own.kept hg ?_
    rcases h.own.2 with ⟨hv, _⟩ | ⟨g, cap, cur, hv, _, hgg, _⟩
    · rw [hv]; exact .inl rfl
    · rw [hv]
      refine .inr (fun e => ?_)
      have e : g = b := by simpa [Value.ownBlock] using e
      obtain ⟨es, cl, hbb, _⟩ := hbm
      rw [e, hbb] at hgg
      cases hgg
theorem St.update2 {b k : Nat} (h : St G w0 w r1 (some b) a3 m c3 ks ps n1 k xs) (hk : k < maxLen) (hs : (st ps k).size ≤ maxLen) :
    ∃ w1, (Instr.mapUpdate 48 (.map (some b)) (.string (st ps k)) (.agg #[])).run Try.prog w.drew = .ok () w1 ∧ St G w0 w1 r1 (some b) a3 m c3 ks ps n1 (k + 1) xs := by
  rcases h.m2 with ⟨h0, _⟩ | ⟨b', hb, hgb, ho⟩
  · cases h0
  cases hb
  obtain ⟨w1, hrun, ho1, hg1⟩ := ho.drew.update law9 Try.underlying48 hk (WideMaps.keyOf_string_mk Try.underlying9 hs) unitElem_mk
  have hg : w.grownBy w1 (some b) := ⟨hg1.os, hg1.tape, hg1.output, hg1.size, hg1.block⟩
  have hbm := ho
  refine ⟨w1, hrun, ⟨?_, h.m1.kept hg (fun c hc e => h.ap c hc (by rw [e])), .inr ⟨b, rfl, hgb, ho1⟩, ?_, h.ap, h.bel.grown hg (by have := h.lt; omega) (fun j hj => by cases hj; omega)⟩⟩
  · rw [hg.block G h.lt (by simp; omega)]; exact h.hd
  · refine h.own.kept hg ?_
    rcases h.own.2 with ⟨hv, _⟩ | ⟨g, cap, cur, hv, _, hgg, _⟩
    · rw [hv]; exact .inl rfl
    · rw [hv]
      refine .inr (fun e => ?_)
      have e : g = b := by simpa [Value.ownBlock] using e
      obtain ⟨es, cl, hbb, _⟩ := hbm
      rw [e, hbb] at hgg
      cases hgg
end

theorem St.start (w : World) (ks ps : List ByteArray) : St w.heap.size w (w.alloc (.cells #[.map none, .map none, .slice none 0 0] 51)) none none none 0 0 ks ps 0 0 [] :=
  ⟨heap_alloc_new w _, .inl ⟨rfl, rfl⟩, .inl ⟨rfl, rfl⟩, World.ownsRow_nil _ _ _ _, fun b h => (by cases h), (Below.refl _ _).alloc (Nat.le_refl _) _⟩
theorem St.start1 (w : World) (ks ps : List ByteArray) : St w.heap.size w ((w.alloc (.cells #[.map (some (w.heap.size + 1)), .map none, .slice none 0 0] 51)).alloc (.map #[] 0)) (some (w.heap.size + 1)) none none 0 0 ks ps 0 0 [] := by
  have hm := World.ownsMap_made (H := Unit) (w.alloc (.cells #[.map (some (w.heap.size + 1)), .map none, .slice none 0 0] 51)) Try.prog 9 unitElem
  rw [World.size_alloc] at hm
  refine ⟨?_, .inr ⟨_, rfl, by omega, hm⟩, .inl ⟨rfl, rfl⟩, World.ownsRow_nil _ _ _ _, fun b _ h => (by cases h), ((Below.refl _ _).alloc (Nat.le_refl _) _).alloc (by simp) _⟩
  rw [heap_alloc_old _ _ (by simp)]
  exact heap_alloc_new w _

theorem grown_of_drew {w w1 : World} {X : Obj} {row : Option Nat} (h : (w.alloc X).drew.grownBy w1 row) : w.grownBy w1 row :=
  ⟨h.os, h.tape, h.output, Nat.le_trans (by simp) h.size, fun k hk hne => (h.block k (show k < (w.alloc X).heap.size by simp; omega) hne).trans (Deep.blk_alloc_lt w X k hk)⟩
theorem grown_setCell (w : World) (p : Addr) (v : Value) : w.grownBy (w.setCell p v) (some p.block) :=
  ⟨rfl, rfl, rfl, by simp, fun k _ hne => Deep.blk_setCell_other w p v k (fun e => hne (by rw [e]))⟩

section
variable {G : Nat} {w0 w : World} {r1 r2 : Option Nat} {a3 : Option Addr} {m c3 : Nat} {ks ps : List ByteArray} {n1 n2 : Nat} {xs : List Value}

theorem Ms.cell_ne {r : Option Nat} {n : Nat} {D : DataW Unit} {b g : Nat} {cs : Array Value} {t : TypeId} {fr : Nat × Nat} (h : Ms G w r n D) (hg : w.heap[g]? = some (.cells cs t fr)) (hb : r = some b) : b ≠ g := by
  rcases h with ⟨h, _⟩ | ⟨b', hb', _, ho⟩
  · rw [h] at hb; cases hb
  · obtain rfl : b' = b := by rw [hb'] at hb; simpa using hb
    obtain ⟨es, cl, hbb, _⟩ := ho
    rintro rfl
    rw [hbb] at hg
    cases hg

theorem St.appended {g cap : Nat} {w1 : World} {ys : List Value} (h : St G w0 w r1 r2 a3 m c3 ks ps n1 n2 xs) (X : Obj)
    (own' : w1.ownsRow (G + 1) 54 2 (.slice (some ⟨g, 0, none⟩) (m + 1) cap) (m + 1) ys) (gr0 : (w.alloc X).drew.grownBy w1 (Value.slice a3 m c3).ownBlock) :
    w1.cell? ⟨G, 2, none⟩ = some (.slice a3 m c3) ∧ w1.frozen? ⟨G, 2, none⟩ = false ∧ St G w0 (w1.setCell ⟨G, 2, none⟩ (.slice (some ⟨g, 0, none⟩) (m + 1) cap)) r1 r2 (some ⟨g, 0, none⟩) (m + 1) cap ks ps n1 n2 ys := by
  have gr := grown_of_drew gr0
  have hrow : ∀ b, (Value.slice a3 m c3).ownBlock = some b → G + 1 ≤ b ∧ ∃ cur, w.heap[b]? = some (.cells cur 54 (0, 0)) := by
    intro b hb
    refine ⟨(h.own.lt b hb).1, ?_⟩
    rcases h.own.2 with ⟨hv, _⟩ | ⟨g', cap', cur, hv, _, hgg, _⟩
    · rw [hv] at hb; simp [Value.ownBlock] at hb
    · rw [hv] at hb
      have : g' = b := by simpa [Value.ownBlock] using hb
      subst this
      exact ⟨cur, hgg⟩
  have hG : w1.heap[G]? = some (.cells #[.map r1, .map r2, .slice a3 m c3] 51 (0, 0)) := by
    rw [gr.block G h.lt (fun e => by have := (hrow G e.symm).1; omega)]; exact h.hd
  have hmap : ∀ (r : Option Nat) (n : Nat) (D : DataW Unit), Ms G w r n D → Ms G w1 r n D := fun r n D hM => hM.kept gr (fun b hb e => by
    obtain ⟨_, cur, hc⟩ := hrow b e.symm
    exact hM.cell_ne hc hb rfl)
  have gs := grown_setCell w1 ⟨G, 2, none⟩ (.slice (some ⟨g, 0, none⟩) (m + 1) cap)
  have hlt1 : G < w1.heap.size := (Array.getElem?_eq_some_iff.1 hG).1
  refine ⟨by simp [World.cell?, hG], by simp [World.frozen?, hG], ⟨?_, ?_, ?_, ?_, h.ap, ?_⟩⟩
  · show (w1.heap.modify _ _)[G]? = _
    rw [Array.getElem?_modify, if_pos rfl, hG]
    rfl
  · exact (hmap _ _ _ h.m1).kept gs (fun b hb e => (hmap _ _ _ h.m1).cell_ne hG hb (by simpa using e))
  · exact (hmap _ _ _ h.m2).kept gs (fun b hb e => (hmap _ _ _ h.m2).cell_ne hG hb (by simpa using e))
  · exact ownsRow_setCell_below own' (by show G < G + 1; omega) _
  · exact (h.bel.grown gr (by have := h.lt; omega) (fun j hj => by have := (hrow j hj).1; omega)).setCell (Nat.le_refl _) _

/-- a new set in the second field -/
theorem St.start2 (h : St G w0 w r1 none a3 m c3 ks ps n1 0 xs) : St G w0 ((w.setCell ⟨G, 1, none⟩ (.map (some w.heap.size))).alloc (.map #[] 0)) r1 (some w.heap.size) a3 m c3 ks ps n1 0 xs := by
  have gs := grown_setCell w ⟨G, 1, none⟩ (.map (some w.heap.size))
  have hm := World.ownsMap_made (H := Unit) (w.setCell ⟨G, 1, none⟩ (.map (some w.heap.size))) Try.prog 9 unitElem
  rw [World.size_setCell] at hm
  have hlt := h.lt
  refine ⟨?_, ?_, .inr ⟨_, rfl, hlt, hm⟩, ?_, ?_, ?_⟩
  · rw [Deep.blk_alloc_lt _ _ _ (by simpa using hlt)]
    show (w.heap.modify _ _)[G]? = _
    rw [Array.getElem?_modify, if_pos rfl, h.hd]
    rfl
  · exact (h.m1.kept gs (fun b hb e => h.m1.cell_ne h.hd hb (by simpa using e))).kept (World.grownBy_alloc _ _ none) (fun b _ => by simp)
  · exact (ownsRow_setCell_below h.own (by show G < G + 1; omega) _).alloc _
  · intro b hb e
    have e : w.heap.size = b := by simpa using e
    rcases h.m1 with ⟨h0, _⟩ | ⟨b', hb', _, ho⟩
    · rw [h0] at hb; cases hb
    · have := ho.lt
      obtain rfl : b' = b := by rw [hb'] at hb; simpa using hb
      omega
  · exact (h.bel.setCell (Nat.le_refl _) _).alloc (by simp; omega) _
end
theorem St.start2' (w : World) (ks ps : List ByteArray) : St w.heap.size w ((w.alloc (.cells #[.map none, .map (some (w.heap.size + 1)), .slice none 0 0] 51)).alloc (.map #[] 0)) none (some (w.heap.size + 1)) none 0 0 ks ps 0 0 [] := by
  have hm := World.ownsMap_made (H := Unit) (w.alloc (.cells #[.map none, .map (some (w.heap.size + 1)), .slice none 0 0] 51)) Try.prog 9 unitElem
  rw [World.size_alloc] at hm
  refine ⟨?_, .inl ⟨rfl, rfl⟩, .inr ⟨_, rfl, by omega, hm⟩, World.ownsRow_nil _ _ _ _, fun b h => (by cases h), ((Below.refl _ _).alloc (Nat.le_refl _) _).alloc (by simp) _⟩
  rw [heap_alloc_old _ _ (by simp)]
  exact heap_alloc_new w _
end Go.Proofs.Qxb6000561a
