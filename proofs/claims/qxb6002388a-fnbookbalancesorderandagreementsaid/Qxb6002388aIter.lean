/- The shelf's contracts on slices.Sorted and maps.Keys, laid at this dump: the kit's tool lay-iter wrote it; its three layings written out in plain words. -/
import Derived.Shelf.SlIter.Nil
import Derived.Shelf.SortM.Plain
import Derived.Shelf.SortM.SortNone
import Derived.Ground.GgzProg
import Derived.Ground.SlgmProg
import Derived.Test.Qxb6002388aProg
set_option maxRecDepth 100000
namespace Go.Proofs.Qxb6002388a
open Go.RowKit Go.Maps Go.Sort Go.Shelf Go.Proofs

def Lay.keys21_ren : Go.Shelf.Ren := ⟨fun | 7 => 21 | 10 => 32 | n => n, fun | 23 => 51 | 26 => 9 | 3 => 31 | 28 => 57 | 0 => 0 | 27 => 56 | 33 => 67 | 4 => 4 | n => n, fun | n => n⟩
theorem Lay.keys21 : Go.Proofs.SlLaysZ.n7 Try.prog Lay.keys21_ren := {
  mixed := by kernel_rfl
  f7 := ⟨Try.f21.name, by decide, Try.func21.trans (congrArg some (by kernel_rfl))⟩
  f10 := ⟨Try.f32.name, by decide, Try.func32.trans (congrArg some (by kernel_rfl))⟩
  t0 := Try.underlying0
  a0 := Try.isAgg0
  z0 := Try.sizeOf0
  v0 := Try.zeroValue0
  t4 := Try.underlying4
  a4 := Try.isAgg4
  z4 := Try.sizeOf4
  v4 := Try.zeroValue4
  t23 := Try.underlying51
  a23 := Try.isAgg51
  z23 := Try.sizeOf51
  v23 := Try.zeroValue51
  t26 := Try.underlying9
  a26 := Try.isAgg9
  z26 := Try.sizeOf9
  v26 := Try.zeroValue9
  t27 := Try.underlying56
  a27 := Try.isAgg56
  z27 := Try.sizeOf56
  v27 := Try.zeroValue56
  t28 := Try.underlying57
  a28 := Try.isAgg57
  z28 := Try.sizeOf57
  v28 := Try.zeroValue57
  t33 := Try.underlying67
  a33 := Try.isAgg67
  z33 := Try.sizeOf67
  v33 := Try.zeroValue67 }

def Lay.sorted20_ren : Go.Shelf.Ren := ⟨fun | 6 => 20 | 8 => 30 | 9 => 31 | 11 => 43 | 13 => 41 | 12 => 44 | 23 => 53 | 24 => 54 | 14 => 56 | 15 => 57 | 16 => 58 | 17 => 59 | 18 => 60 | 19 => 61 | 20 => 62 | 21 => 63 | 22 => 64 | 25 => 70 | 26 => 66 | 27 => 67 | 28 => 71 | 29 => 72 | 30 => 73 | 31 => 75 | n => n, fun | 26 => 9 | 28 => 57 | 24 => 22 | 0 => 0 | 3 => 3 | 37 => 75 | 48 => 88 | 50 => 90 | 4 => 4 | 40 => 81 | 39 => 80 | 45 => 85 | 5 => 5 | 9 => 9 | 51 => 97 | 55 => 101 | 57 => 105 | 58 => 106 | 33 => 67 | n => n, fun | n => n⟩
theorem Lay.sorted20 : Go.Proofs.SlLaysZ.n6 Try.prog Lay.sorted20_ren := {
  mixed := by kernel_rfl
  f6 := ⟨Try.f20.name, by decide, Try.func20.trans (congrArg some (by kernel_rfl))⟩
  f8 := ⟨Try.f30.name, by decide, Try.func30.trans (congrArg some (by kernel_rfl))⟩
  f11 := ⟨Try.f43.name, by decide, Try.func43.trans (congrArg some (by kernel_rfl))⟩
  t0 := Try.underlying0
  a0 := Try.isAgg0
  z0 := Try.sizeOf0
  v0 := Try.zeroValue0
  t24 := Try.underlying22
  a24 := Try.isAgg22
  z24 := Try.sizeOf22
  v24 := Try.zeroValue22
  t26 := Try.underlying9
  a26 := Try.isAgg9
  z26 := Try.sizeOf9
  v26 := Try.zeroValue9
  t28 := Try.underlying57
  a28 := Try.isAgg57
  z28 := Try.sizeOf57
  v28 := Try.zeroValue57
  i26 := by kernel_rfl }

def Lay.sort31_ren : Go.Shelf.Ren := ⟨fun | 6 => 31 | 8 => 41 | 9 => 44 | 19 => 53 | 20 => 54 | 21 => 56 | 22 => 57 | 23 => 58 | 24 => 59 | 25 => 60 | 26 => 61 | 27 => 62 | 28 => 63 | 29 => 64 | 36 => 70 | 31 => 66 | 32 => 67 | 37 => 71 | 38 => 72 | 39 => 73 | 41 => 75 | n => n, fun | 27 => 22 | 29 => 9 | 3 => 3 | 32 => 75 | 26 => 22 | 0 => 0 | 44 => 88 | 46 => 90 | 4 => 4 | 36 => 81 | 35 => 80 | 41 => 85 | 5 => 5 | 9 => 9 | 53 => 97 | 57 => 101 | 63 => 105 | 64 => 106 | n => n, fun | n => n⟩
theorem Lay.sort31 : Go.Proofs.SlLaysM.n6 Try.prog Lay.sort31_ren := {
  mixed := by kernel_rfl
  f6 := ⟨Try.f31.name, by decide, Try.func31.trans (congrArg some (by kernel_rfl))⟩
  f8 := Try.func41.trans (congrArg some (by kernel_rfl))
  f9 := ⟨Try.f44.name, by decide, Try.func44.trans (congrArg some (by kernel_rfl))⟩
  f19 := Try.func53.trans (congrArg some (by kernel_rfl))
  f20 := Try.func54.trans (congrArg some (by kernel_rfl))
  f21 := ⟨Try.f56.name, by decide, Try.func56.trans (congrArg some (by kernel_rfl))⟩
  f22 := ⟨Try.f57.name, by decide, Try.func57.trans (congrArg some (by kernel_rfl))⟩
  f23 := ⟨Try.f58.name, by decide, Try.func58.trans (congrArg some (by kernel_rfl))⟩
  f24 := ⟨Try.f59.name, by decide, Try.func59.trans (congrArg some (by kernel_rfl))⟩
  f25 := ⟨Try.f60.name, by decide, Try.func60.trans (congrArg some (by kernel_rfl))⟩
  f26 := ⟨Try.f61.name, by decide, Try.func61.trans (congrArg some (by kernel_rfl))⟩
  f27 := ⟨Try.f62.name, by decide, Try.func62.trans (congrArg some (by kernel_rfl))⟩
  f28 := ⟨Try.f63.name, by decide, Try.func63.trans (congrArg some (by kernel_rfl))⟩
  f29 := ⟨Try.f64.name, by decide, Try.func64.trans (congrArg some (by kernel_rfl))⟩
  f31 := Try.func66.trans (congrArg some (by kernel_rfl))
  f32 := Try.func67.trans (congrArg some (by kernel_rfl))
  f36 := ⟨Try.f70.name, by decide, Try.func70.trans (congrArg some (by kernel_rfl))⟩
  f37 := ⟨Try.f71.name, by decide, Try.func71.trans (congrArg some (by kernel_rfl))⟩
  f38 := ⟨Try.f72.name, by decide, Try.func72.trans (congrArg some (by kernel_rfl))⟩
  f39 := ⟨Try.f73.name, by decide, Try.func73.trans (congrArg some (by kernel_rfl))⟩
  f41 := ⟨Try.f75.name, by decide, Try.func75.trans (congrArg some (by kernel_rfl))⟩
  t0 := Try.underlying0
  a0 := Try.isAgg0
  z0 := Try.sizeOf0
  v0 := Try.zeroValue0
  t3 := Try.underlying3
  a3 := Try.isAgg3
  z3 := Try.sizeOf3
  v3 := Try.zeroValue3
  t4 := Try.underlying4
  a4 := Try.isAgg4
  z4 := Try.sizeOf4
  v4 := Try.zeroValue4
  t5 := Try.underlying5
  a5 := Try.isAgg5
  z5 := Try.sizeOf5
  v5 := Try.zeroValue5
  t9 := Try.underlying9
  a9 := Try.isAgg9
  z9 := Try.sizeOf9
  v9 := Try.zeroValue9
  t26 := Try.underlying22
  a26 := Try.isAgg22
  z26 := Try.sizeOf22
  v26 := Try.zeroValue22
  t27 := Try.underlying22
  a27 := Try.isAgg22
  z27 := Try.sizeOf22
  v27 := Try.zeroValue22
  t29 := Try.underlying9
  a29 := Try.isAgg9
  z29 := Try.sizeOf9
  v29 := Try.zeroValue9
  t32 := Try.underlying75
  a32 := Try.isAgg75
  z32 := Try.sizeOf75
  v32 := Try.zeroValue75
  t35 := Try.underlying80
  a35 := Try.isAgg80
  z35 := Try.sizeOf80
  v35 := Try.zeroValue80
  t36 := Try.underlying81
  a36 := Try.isAgg81
  z36 := Try.sizeOf81
  v36 := Try.zeroValue81
  t41 := Try.underlying85
  a41 := Try.isAgg85
  z41 := Try.sizeOf85
  v41 := Try.zeroValue85
  t44 := Try.underlying88
  a44 := Try.isAgg88
  z44 := Try.sizeOf88
  v44 := Try.zeroValue88
  t46 := Try.underlying90
  a46 := Try.isAgg90
  z46 := Try.sizeOf90
  v46 := Try.zeroValue90
  t53 := Try.underlying97
  a53 := Try.isAgg97
  z53 := Try.sizeOf97
  v53 := Try.zeroValue97
  t57 := Try.underlying101
  a57 := Try.isAgg101
  z57 := Try.sizeOf101
  v57 := Try.zeroValue101
  t63 := Try.underlying105
  a63 := Try.isAgg105
  z63 := Try.sizeOf105
  v63 := Try.zeroValue105
  t64 := Try.underlying106
  a64 := Try.isAgg106
  z64 := Try.sizeOf106
  v64 := Try.zeroValue106 }


theorem Lay.sorts20 (m : Nat) : AnyZ.SortsIn Try.prog Lay.sorted20_ren Fence.wide m :=
  ⟨fun blk off cap ss W hH hblk hsz => callsIn_wide.2 (AnyM.slices_Sort_string Lay.sort31 blk off cap ss W hH hblk hsz),
   fun p cap W => callsIn_wide.2 (AnyM.slices_Sort_string_none Lay.sort31 p cap W)⟩

theorem Lay.maps_Keys_21 (mb : Option Nat) (W : World) : CallsIn Fence.wide 5 Try.prog 21 #[.map mb] W fun e w' => e = .returned (.func (.func 32) #[] #[.pointer (some ⟨W.heap.size, 0, none⟩)]) ∧ w' = W.alloc (.cells #[.map mb] 51) :=
  AnyZ.keys_in Lay.keys21 Fence.wide 5 trivial rfl mb W

set_option maxHeartbeats 1000000 in
theorem Lay.slices_Sorted_keys_20_21 {H : Type} (b nn : Nat) (D0 : DataW H) (R : Value → Option (DataW H × List MemPlace)) (w : World) (hown : w.ownsMap Try.prog 9 R b nn D0) (hmax : Maps.size D0 ≤ maxLen) (hbytes : Maps.size D0 * 16 ≤ 140737488355328) :
    CallsIn Fence.wide 5 Try.prog 20 #[.func (.func 32) #[] #[.pointer (some ⟨w.heap.size, 0, none⟩)]] (w.alloc (.cells #[.map (some b)] 51)) fun e w' => ∃ (v : Value) (ss : List (List UInt8)), e = .returned v ∧ ss.Perm (strKeys D0) ∧
      w'.ownsRow (w.alloc (.cells #[.map (some b)] 51)).heap.size 9 1 v ss.length ((ss.mergeSort (fun x y => decide (x ≤ y))).map encStr) ∧ (v = .slice none 0 0 ↔ ss = []) ∧ Below (w.alloc (.cells #[.map (some b)] 51)).heap.size (w.alloc (.cells #[.map (some b)] 51)) w' := by
  have hbl := hown.lt
  have hseq : SeqGives Fence.wide 2 Try.prog 32 #[.pointer (some ⟨w.heap.size, 0, none⟩)] encStr (fun ss => ss.Perm (strKeys D0)) (Maps.size D0) (w.alloc (.cells #[.map (some b)] 51)) :=
    AnyZ.keys_gives (ρ := Lay.keys21_ren) { Lay.keys21 with } Fence.wide _ trivial rfl (by omega) w.heap.size b nn D0 _ (by simp) (by simp) (by
      obtain ⟨es, clock, hb, Ft, hs, hD⟩ := hown
      exact ⟨es, clock, (Below.heap_alloc _ _ b hbl).trans hb, Ft, hs, hD⟩)
  exact AnyZ.sorted_in Lay.sorted20 Fence.wide 5 trivial trivial trivial trivial rfl (by omega) (Lay.sorts20 _) (enters_of Try.func31 (by kernel_rfl) rfl) 32 #[.pointer (some ⟨w.heap.size, 0, none⟩)] trivial (enters_of Try.func32 (by kernel_rfl) rfl) _ _ hmax hbytes _ hseq

set_option maxHeartbeats 1000000 in
theorem Lay.slices_Sorted_keys_nil_20_21 (w : World) :
    CallsIn Fence.wide 5 Try.prog 20 #[.func (.func 32) #[] #[.pointer (some ⟨w.heap.size, 0, none⟩)]] (w.alloc (.cells #[.map none] 51)) fun e w' => ∃ (v : Value) (ss : List (List UInt8)), e = .returned v ∧ ss = [] ∧
      w'.ownsRow (w.alloc (.cells #[.map none] 51)).heap.size 9 1 v ss.length ((ss.mergeSort (fun x y => decide (x ≤ y))).map encStr) ∧ (v = .slice none 0 0 ↔ ss = []) ∧ Below (w.alloc (.cells #[.map none] 51)).heap.size (w.alloc (.cells #[.map none] 51)) w' := by
  have hseq : SeqGives Fence.wide 2 Try.prog 32 #[.pointer (some ⟨w.heap.size, 0, none⟩)] encStr (fun ss : List (List UInt8) => ss = []) 0 (w.alloc (.cells #[.map none] 51)) :=
    AnyZ.keys_gives_nil (ρ := Lay.keys21_ren) { Lay.keys21 with } Fence.wide _ trivial rfl w.heap.size _ (by simp) (by simp)
  exact AnyZ.sorted_in Lay.sorted20 Fence.wide 5 trivial trivial trivial trivial rfl (by omega) (Lay.sorts20 _) (enters_of Try.func31 (by kernel_rfl) rfl) 32 #[.pointer (some ⟨w.heap.size, 0, none⟩)] trivial (enters_of Try.func32 (by kernel_rfl) rfl) _ 0 (Nat.zero_le _) (by omega) _ hseq


/-- maps.Keys, as a plain contract -/
theorem keys_any (mb : Option Nat) (W : World) : Calls Try.prog 21 #[.map mb] W fun e w' => e = .returned (.func (.func 32) #[] #[.pointer (some ⟨W.heap.size, 0, none⟩)]) ∧ w' = W.alloc (.cells #[.map mb] 51) :=
  (callsIn_wide (n := 5)).1 (Lay.maps_Keys_21 mb W)
end Go.Proofs.Qxb6002388a
