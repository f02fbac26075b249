/- store.ZZDone (11): the contract. -/
import Derived.Test.Qxb6000561aDone
import Derived.RegionTactic
import Derived.BigRegion
namespace Go.Proofs.Qxb6000561a
open Go.RowKit Go.Maps
set_option linter.unusedVariables false

/-- the count that stands at kind x after the first k pairs -/
def lastTo (ks cs : List Int) : Nat → Int → Int
  | 0, _ => 0
  | k + 1, x => if x = ks.getD k 0 then cs.getD k 0 else lastTo ks cs k x
/-- the map after the first k pairs -/
def Dm (ks cs : List Int) : Nat → DataW Unit
  | 0 => .map []
  | k + 1 => (Dm ks cs k).put (.int .u8 (ks.getD k 0)) (.lit (.int .u64 (cs.getD k 0)))
/-- nothing is pending after the first n pairs -/
def nought (ks cs : List Int) (n : Nat) : Bool := (List.range 256).all (fun j => lastTo ks cs n (j : Int) == 0)

theorem Dm_isMap (ks cs : List Int) (k : Nat) : IsMap (Dm ks cs k) := by
  induction k with
  | zero => exact isMap_empty
  | succ k ih => exact ih.put _ _

theorem Dm_at (ks cs : List Int) (x : Int) (k : Nat) : (Maps.has (Dm ks cs k) (.int .u8 x) = true → (∃ i, i < k ∧ ks.getD i 0 = x) ∧ ∀ zd, (Dm ks cs k).atKey (.int .u8 x) zd = .lit (.int .u64 (lastTo ks cs k x))) ∧ (Maps.has (Dm ks cs k) (.int .u8 x) = false → lastTo ks cs k x = 0) := by
  induction k with
  | zero => simp [Dm, Maps.has, lastTo]
  | succ k ih =>
    by_cases e : x = ks.getD k 0
    · refine ⟨fun _ => ⟨⟨k, by omega, e.symm⟩, fun zd => ?_⟩, fun h => ?_⟩
      · simp only [Dm, lastTo]
        rw [if_pos e, e]
        exact atKey_put_same (k := .int .u8 (ks.getD k 0)) (Dm_isMap ks cs k) trivial _ _
      · simp only [Dm] at h
        rw [e, has_put_same (k := .int .u8 (ks.getD k 0)) (Dm_isMap ks cs k) trivial] at h
        cases h
    · have hne : (Lit.int .u8 x) ≠ .int .u8 (ks.getD k 0) := fun h => e (by simpa using h)
      have h1 : Maps.has (Dm ks cs (k + 1)) (.int .u8 x) = Maps.has (Dm ks cs k) (.int .u8 x) := has_put_other hne _
      have h2 : lastTo ks cs (k + 1) x = lastTo ks cs k x := by simp only [lastTo]; rw [if_neg e]
      rw [h1, h2]
      refine ⟨fun h => ?_, ih.2⟩
      obtain ⟨⟨i, hi, hx⟩, hz⟩ := ih.1 h
      refine ⟨⟨i, by omega, hx⟩, fun zd => ?_⟩
      rw [← hz zd]
      exact atKey_put_other hne _ _

theorem nought_iff (ks cs : List Int) (n : Nat) : nought ks cs n = true ↔ ∀ j : Nat, j < 256 → lastTo ks cs n (j : Int) = 0 := by
  unfold nought; simp

theorem nought_of_all (ks cs : List Int) (n : Nat) (h : AllNought (Dm ks cs n)) : nought ks cs n = true := by
  rw [nought_iff]
  intro j hj
  have h2 := Dm_at ks cs (j : Int) n
  cases hh : Maps.has (Dm ks cs n) (.int .u8 (j : Int)) with
  | false => exact h2.2 hh
  | true =>
    have a := (h2.1 hh).2 .nil
    have b := h _ hh .nil
    rw [a] at b
    simpa using b

theorem nought_of_some (ks cs : List Int) (n : Nat) (hk : ∀ i, i < n → 0 ≤ ks.getD i 0 ∧ ks.getD i 0 < 256) (h : SomeMore (Dm ks cs n)) : nought ks cs n = false := by
  obtain ⟨x, c, hc, hh, hz⟩ := h
  have h2 := (Dm_at ks cs x n).1 hh
  obtain ⟨⟨i, hi, hx⟩, ha⟩ := h2
  have hb := hk i hi
  have e := ha .nil
  rw [hz .nil] at e
  have e2 : c = lastTo ks cs n x := by simpa using e
  cases hno : nought ks cs n with
  | false => rfl
  | true =>
    have h3 := (nought_iff ks cs n).1 hno x.toNat (by omega)
    rw [show ((x.toNat : Nat) : Int) = x from by omega] at h3
    omega

theorem bounds_u8' {n : Int} (h : (Lit.int .u8 n).wf = true) : 0 ≤ n ∧ n < 256 := by
  simp [Lit.wf, IntKind.min, IntKind.max, IntKind.signed, IntKind.bits] at h
  omega
theorem grown_drew {w w1 : World} {row : Option Nat} (h : w.drew.grownBy w1 row) : w.grownBy w1 row := ⟨h.os, h.tape, h.output, h.size, h.block⟩

/-- done at a nil map -/
theorem done_nil (g : Nat) (w : World) (hm : w.cell? ⟨g, 1, none⟩ = some (.map none)) :
    Calls Try.prog 22 #[.pointer (some ⟨g, 0, none⟩)] w fun e w' => e = .returned (.bool true) ∧ w' = w.alloc (.mapIter none 0 #[] 0) := by
  have hrg := run_range_nilMap (P := Try.prog) w 42 45 27 Try.underlying42
  have hnx : ∀ ty, (Instr.next (.pointer (some ⟨w.heap.size, 0, none⟩)) false ty).run Try.prog (w.alloc (.mapIter none 0 #[] 0)) = _ := fun ty => run_next_nilMap w ty 0 0 #[]
  go_enter Try.func22, Try.ntmps22
  go_wp2
  refine wp_loop_rounds 1 ?_
  rw [rounds_succ]
  go_wp2
  go_ret
  exact ⟨rfl, rfl⟩

/-- kinds nil -/
theorem zzdone_nil (r : Int) (a2 : Option Addr) (n2 c2 : Nat) (w : World) :
    Calls Try.prog 11 #[.int .i64 r, .slice none 0 0, .slice a2 n2 c2] w fun e w' => e = .returned (.bool true) ∧ Below w.heap.size w w' := by
  have hnil := fun (a : Option Addr) (n c : Nat) (w : World) => run_neq_slice_nil_any (P := Try.prog) w 22 5 a n c 0 0 Try.underlying22
  go_enter Try.func11, Try.ntmps11
  go_wp2_with fail
  refine wp_loop_rounds 1 ?_
  rw [rounds_succ]
  go_wp2_with fail
  refine (done_nil w.heap.size _ (by simp)).mono ?_
  rintro e w1 ⟨rfl, rfl⟩
  go_wp2
  go_ret
  exact ⟨rfl, ((Below.refl _ _).alloc (Nat.le_refl _) _).alloc (by simp) _⟩

/-- counts nil, kinds not -/
theorem zzdone_none (r : Int) (p1 : Addr) (n1 c1 : Nat) (w : World) :
    Calls Try.prog 11 #[.int .i64 r, .slice (some p1) n1 c1, .slice none 0 0] w fun e w' => e = .returned (.bool true) ∧ Below w.heap.size w w' := by
  have hnil := fun (a : Option Addr) (n c : Nat) (w : World) => run_neq_slice_nil_any (P := Try.prog) w 22 5 a n c 0 0 Try.underlying22
  have hmm := @run_makeMap Try.prog
  have hd := nought_of_some [] [] 0 (fun i hi => by omega)
  by_cases h1 : 0 < n1
  all_goals
    go_enter Try.func11, Try.ntmps11
    go_wp2_with fail
    refine wp_loop_rounds 1 ?_
    rw [rounds_succ]
    go_wp2_with fail
    refine (done_any w.heap.size (w.heap.size + 1) 0 (Dm [] [] 0) _ (by simp) ?_).mono ?_
    · have := World.ownsMap_made (H := Unit) (w.alloc (Obj.cells #[Value.int IntKind.i64 r, Value.map (some (w.heap.size + 1))] 44)) Try.prog 45 (plainElem Try.prog 27)
      rw [World.size_alloc] at this
      exact this
    rintro e w1 ⟨he, hbel⟩
    obtain rfl : e = .returned (.bool true) := by
      rcases he with ⟨rfl, _⟩ | ⟨rfl, h⟩
      · rfl
      · exact absurd (hd h) (by rw [show nought [] [] 0 = true from (nought_iff _ _ _).2 (fun _ _ => rfl)]; simp)
    go_wp2
    go_ret
    refine ⟨rfl, (((Below.refl _ _).alloc (Nat.le_refl _) _).alloc (by simp) _).trans (hbel.mono (by simp; omega))⟩

set_option maxHeartbeats 400000 in
set_option maxRecDepth 100000 in
theorem zzdone_some (r : Int) (b1 o1 n1 c1 b2 o2 n2 c2 n : Nat) (ks cs : List Int) (w : World) (hn1 : n1 ≤ 1048576) (hn2 : n2 ≤ 1048576) (hn : n = min n1 n2) (hb1 : b1 < w.heap.size) (hb2 : b2 < w.heap.size)
    (hc1 : ∀ i, i < n1 → w.cell? ⟨b1, o1 + i, none⟩ = some (.int .u8 (ks.getD i 0))) (hc2 : ∀ i, i < n2 → w.cell? ⟨b2, o2 + i, none⟩ = some (.int .u64 (cs.getD i 0)))
    (hk : ∀ i, i < n1 → (Lit.int .u8 (ks.getD i 0)).wf = true) (hcw : ∀ i, i < n2 → (Lit.int .u64 (cs.getD i 0)).wf = true) :
    Calls Try.prog 11 #[.int .i64 r, .slice (some ⟨b1, o1, none⟩) n1 c1, .slice (some ⟨b2, o2, none⟩) n2 c2] w fun e w' => e = .returned (.bool (nought ks cs n)) ∧ Below w.heap.size w w' := by
  have hnil := fun (a : Option Addr) (n c : Nat) (w : World) => run_neq_slice_nil_any (P := Try.prog) w 22 5 a n c 0 0 Try.underlying22
  have hmm := @run_makeMap Try.prog
  have HN : Hid (n = min n1 n2) := hn
  clear hn
  go_enter Try.func11, Try.ntmps11
  go_wp2
  go_loopw [8] (fun i wr => ∃ k : Nat, k ≤ n ∧ i = .int .i64 k ∧ wr.cell? ⟨w.heap.size, 1, none⟩ = some (.map (some (w.heap.size + 1))) ∧ wr.ownsMap Try.prog 45 (plainElem Try.prog 27) (w.heap.size + 1) k (Dm ks cs k) ∧ Below w.heap.size w wr)
    (fun i _ => n - (intOf i).toNat)
  case atStart =>
    refine ⟨0, Nat.zero_le _, rfl, by simp, ?_, ((Below.refl _ _).alloc (Nat.le_refl _) _).alloc (by simp) _⟩
    have := World.ownsMap_made (H := Unit) (w.alloc (Obj.cells #[Value.int IntKind.i64 r, Value.map (some (w.heap.size + 1))] 44)) Try.prog 45 (plainElem Try.prog 27)
    rw [World.size_alloc] at this
    exact this
  case round =>
    obtain ⟨k, hkn, rfl, hm, hown, hbel⟩ := hrel
    by_cases hlt : k < n
    · have hl1 : k < n1 := by have := HN.out; omega
      have hl2 : k < n2 := by have := HN.out; omega
      have x1 : wr.cell? ⟨b1, o1 + k, none⟩ = some (.int .u8 (ks.getD k 0)) := (hbel.cell (p := ⟨b1, o1 + k, none⟩) hb1).trans (hc1 k hl1)
      have x2 : wr.cell? ⟨b2, o2 + k, none⟩ = some (.int .u64 (cs.getD k 0)) := (hbel.cell (p := ⟨b2, o2 + k, none⟩) hb2).trans (hc2 k hl2)
      obtain ⟨w1, hrun, hown1, hg1⟩ := hown.drew.update law45 Try.underlying42 (by unfold maxLen; omega) (keyOf_int_mk Try.underlying45 (hk k hl1)) (plainElem_int Try.underlying27 (hcw k hl2))
      have hg2 := grown_drew hg1
      generalize hz1 : ks.getD k 0 = z1 at x1 hrun
      generalize hz2 : cs.getD k 0 = z2 at x2 hrun
      have HO : Hid (w1.ownsMap Try.prog 45 (plainElem Try.prog 27) (w.heap.size + 1) (k + 1) (Dm ks cs (k + 1))) := hown1
      have HB : Hid (Below w.heap.size w wr) := hbel
      have HM : Hid (w1.cell? ⟨w.heap.size, 1, none⟩ = some (.map (some (w.heap.size + 1)))) := by
        have hsz := hown.lt
        show _ = _
        rw [← hm, World.cell?, World.cell?, hg2.block w.heap.size (by omega) (by simp)]
      clear hz1 hz2 hown1 hbel hown hg1 hc1 hc2 hk hcw
      go_wp2
      go_region
      all_goals go_wp2
      all_goals exact ⟨⟨k + 1, by omega, by go_num, HM.out, HO.out, HB.out.grown hg2 HB.out.size (fun j hj => by cases hj; omega)⟩, by simp [intOf]; omega⟩
    · have hkn' : k = n := by omega
      have HK : Hid (∀ i, i < n1 → (Lit.int .u8 (ks.getD i 0)).wf = true) := hk
      clear hc1 hc2 hk hcw
      subst hkn'
      have hge : ¬ (k < n1 ∧ k < n2) := by have := HN.out; omega
      by_cases h1 : k < n1
      all_goals
        go_wp2_with fail
        refine (done_any w.heap.size (w.heap.size + 1) k (Dm ks cs k) _ hm hown).mono ?_
        rintro e w1 ⟨he, hbel2⟩
        obtain rfl : e = .returned (.bool (nought ks cs k)) := by
          rcases he with ⟨rfl, h⟩ | ⟨rfl, h⟩
          · rw [nought_of_all ks cs k h]
          · rw [nought_of_some ks cs k (fun i hi => by have := bounds_u8' (HK.out i (by have := HN.out; omega)); exact this) h]
        go_wp2
        go_ret
        exact ⟨rfl, hbel.trans (hbel2.mono hbel.size)⟩
end Go.Proofs.Qxb6000561a
