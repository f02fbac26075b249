/- selection.matches (23): the contract. -/
import Derived.Test.Qxb6000561aStrs
import Derived.Maps.OwnSet
import Derived.Maps.Own
import Derived.Maps.OwnOps
import Derived.RegionTactic
import Derived.BigRegion
import Derived.Lib.Strings
namespace Go.Proofs.Qxb6000561a
open Go.RowKit Go.Maps
set_option linter.unusedVariables false

/-- what 'm[s]' says of a set, in this world and in every later one -/
def Look (w : World) (r : Option Nat) (f : ByteArray → Bool) : Prop :=
  ∀ wx, Below w.heap.size w wx → ∀ s : ByteArray, s.size ≤ maxLen → (Instr.lookup 48 (.map r) (.string s) true).run Try.prog wx = .ok (.tuple #[.agg #[], .bool (f s)]) wx

/-- the prefixLength pairs that lie at a -/
def Pl (w : World) (a : Option Addr) (m : Nat) (ls : List Int) : Prop :=
  ∀ i, i < m → ∃ b off d, a = some ⟨b, off, none⟩ ∧ b < w.heap.size ∧ w.cell? ⟨b, off + i * 2, none⟩ = some (.int .i64 (ls.getD i 0)) ∧ w.cell? ⟨b, off + i * 2 + 1, none⟩ = some (.int .i64 d) ∧ 0 ≤ ls.getD i 0

/-- the loop over the lengths -/
def scan (f : Nat → Bool) (sz : Nat) : List Int → Bool
  | [] => false
  | l :: r => if (sz : Int) < l then false else if f l.toNat then true else scan f sz r

theorem scan_cons {f : Nat → Bool} {sz : Nat} (ls : List Int) (k : Nat) {m : Nat} (hl : ls.length = m) (hk : k < m) :
    scan f sz (ls.drop k) = if (sz : Int) < ls.getD k 0 then false else if f (ls.getD k 0).toNat then true else scan f sz (ls.drop (k + 1)) := by
  have h : k < ls.length := by omega
  rw [List.drop_eq_getElem_cons h, scan, List.getD_eq_getElem?_getD, List.getElem?_eq_getElem h]
  rfl
theorem hidden' {p : Prop} (h : p) : Hid p := h

set_option maxHeartbeats 1000000 in
set_option maxRecDepth 100000 in
theorem matches_any (g : Nat) (r1 r2 : Option Nat) (a3 : Option Addr) (m c3 : Nat) (ls : List Int) (f1 f2 : ByteArray → Bool) (key : ByteArray) (w : World) (hk : key.size ≤ maxLen) (hg : g < w.heap.size)
    (k0 : w.cell? ⟨g, 0, none⟩ = some (.map r1)) (k1 : w.cell? ⟨g, 1, none⟩ = some (.map r2)) (k2 : w.cell? ⟨g, 2, none⟩ = some (.slice a3 m c3)) (L1 : Look w r1 f1) (L2 : Look w r2 f2) (hP : Pl w a3 m ls) (hm : m ≤ 4096) (hlen : ls.length = m) :
    Calls Try.prog 23 #[.pointer (some ⟨g, 0, none⟩), .string key] w fun e w' => e = .returned (.bool (f1 key || scan (fun l => f2 (key.extract 0 l)) key.size ls)) ∧ Below w.heap.size w w' := by
  have hl1 := L1 w (Below.refl _ _) key hk
  cases hf1 : f1 key with
  | true =>
    rw [hf1] at hl1
    go_enter Try.func23, Try.ntmps23
    go_wp2
    go_ret
    exact ⟨rfl, (Below.refl _ _).alloc (Nat.le_refl _) _⟩
  | false =>
    rw [hf1] at hl1
    rw [Bool.false_or]
    have HL2 : Hid (Look w r2 f2) := L2
    have HK : Hid (key.size ≤ maxLen) := hk
    unfold maxLen at hk
    clear L1 L2
    go_enter Try.func23, Try.ntmps23
    go_wp2
    go_loopw [26] (fun i wr => ∃ k : Nat, k ≤ m ∧ i = .int .i64 k ∧ Hid (scan (fun l => f2 (key.extract 0 l)) key.size ls = scan (fun l => f2 (key.extract 0 l)) key.size (ls.drop k)) ∧ Below w.heap.size w wr) (fun i _ => m - (intOf i).toNat)
    case atStart => exact ⟨0, Nat.zero_le _, rfl, rfl, (Below.refl _ _).alloc (Nat.le_refl _) _⟩
    case round =>
      clear hl1
      obtain ⟨k, hkm, rfl, HS, hbel⟩ := hrel
      have q1 : wr.cell? ⟨g, 1, none⟩ = some (.map r2) := (hbel.cell (p := ⟨g, 1, none⟩) hg).trans k1
      by_cases hlt : k < m
      · obtain ⟨b, off, d, e, hb, x1, x2, hnn⟩ := hP k hlt
        subst e
        have y1 := (hbel.cell (p := ⟨b, off + k * 2, none⟩) hb).trans x1
        have y2 := (hbel.cell (p := ⟨b, off + k * 2 + 1, none⟩) hb).trans x2
        generalize hl : ls.getD k 0 = l at y1 hnn
        have HLe : Hid (ls.getD k 0 = l) := hl
        clear hl x1 x2 hP k0 k1 k2
        by_cases hsz : (key.size : Int) < l
        · have HF : Hid (scan (fun l => f2 (key.extract 0 l)) key.size ls = false) := by
            rw [Hid, HS.out, scan_cons ls k hlen hlt, HLe.out, if_pos hsz]
          go_wp2
          go_ret
          exact ⟨by rw [HF.out]; rfl, hbel.alloc hbel.size _⟩
        · obtain ⟨ln, rfl⟩ := Int.eq_ofNat_of_zero_le hnn
          have hsz' : ln ≤ key.size := by omega
          have hb1 : Below w.heap.size w (wr.alloc (Obj.cells #[Value.int IntKind.i64 ln, Value.int IntKind.i64 d] 54)).drew := (hbel.alloc hbel.size _).drew
          have hb2 : Below w.heap.size w ((wr.alloc (Obj.cells #[Value.int IntKind.i64 ln, Value.int IntKind.i64 d] 54)).alloc (.cells #[] 52)).drew := ((hbel.alloc hbel.size _).alloc (by simp; have := hbel.size; omega) _).drew
          have hes : (key.extract 0 ln).size ≤ maxLen := by have := HK.out; simp; omega
          have z1 := HL2.out _ hb1 _ hes
          have z2 := HL2.out _ hb2 _ hes
          have HB2 := hidden' hb2
          have hgw : g < wr.heap.size := by have := hbel.size; omega
          clear hb1 hb2 hes
          cases hf : f2 (key.extract 0 ln) with
          | true =>
            rw [hf] at z1 z2
            have HF : Hid (scan (fun l => f2 (key.extract 0 l)) key.size ls = true) := by
              rw [Hid, HS.out, scan_cons ls k hlen hlt, HLe.out, if_neg hsz, if_pos (by simpa using hf)]
            go_wp2
            go_region
            all_goals go_wp2
            all_goals go_ret
            all_goals exact ⟨by rw [HF.out]; rfl, HB2.out⟩
          | false =>
            rw [hf] at z1 z2
            have HF : Hid (scan (fun l => f2 (key.extract 0 l)) key.size ls = scan (fun l => f2 (key.extract 0 l)) key.size (ls.drop (k + 1))) := by
              rw [Hid, HS.out, scan_cons ls k hlen hlt, HLe.out, if_neg hsz, if_neg (by simpa using hf)]
            go_wp2
            go_region
            all_goals go_wp2
            all_goals exact ⟨⟨k + 1, by omega, by go_num, HF, HB2.out⟩, by simp [intOf]; omega⟩
      · have HF : Hid (scan (fun l => f2 (key.extract 0 l)) key.size ls = false) := by
          rw [Hid, HS.out, List.drop_eq_nil_of_le (by omega)]; rfl
        go_wp2
        go_ret
        exact ⟨by rw [HF.out]; rfl, hbel⟩
end Go.Proofs.Qxb6000561a
