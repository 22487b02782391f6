/-
  Seat b6604665a. slices.Sorted over maps.Keys AT THIS DUMP: the shelf's contracts laid in plain words (made for this program by the kit's lay-iter.mjs and lay-plain.mjs).
-/
import Derived.Shelf.SlGeneric
import Derived.Shelf.SlIter.Nil
import Derived.Shelf.SortM.Plain
import Derived.Shelf.SortM.SortNone
import Derived.Ground.GgzProg
import Derived.Ground.SlgmProg
import Derived.Test.Qxb6604665aProg
namespace Go.Proofs.Qxb6604665a
open Go.RowKit Go.Maps Go.Sort Go.Shelf
set_option maxRecDepth 100000
def Try.keys16_ren : Go.Shelf.Ren := ⟨fun | 7 => 16 | 10 => 19 | n => n, fun | 23 => 27 | 26 => 9 | 3 => 35 | 28 => 41 | 0 => 0 | 27 => 40 | 33 => 44 | 4 => 4 | n => n, fun | n => n⟩
theorem Try.keys16 : Go.Proofs.SlLaysZ.n7 Try.prog Try.keys16_ren := {
  mixed := by kernel_rfl
  f7 := ⟨Try.f16.name, by decide, Try.func16.trans (congrArg some (by kernel_rfl))⟩
  f10 := ⟨Try.f19.name, by decide, Try.func19.trans (congrArg some (by kernel_rfl))⟩
  t0 := Try.underlying0
  a0 := Try.isAgg0
  z0 := Try.sizeOf0
  v0 := Try.zeroValue0
  t4 := Try.underlying4
  a4 := Try.isAgg4
  z4 := Try.sizeOf4
  v4 := Try.zeroValue4
  t23 := Try.underlying27
  a23 := Try.isAgg27
  z23 := Try.sizeOf27
  v23 := Try.zeroValue27
  t26 := Try.underlying9
  a26 := Try.isAgg9
  z26 := Try.sizeOf9
  v26 := Try.zeroValue9
  t27 := Try.underlying40
  a27 := Try.isAgg40
  z27 := Try.sizeOf40
  v27 := Try.zeroValue40
  t28 := Try.underlying41
  a28 := Try.isAgg41
  z28 := Try.sizeOf41
  v28 := Try.zeroValue41
  t33 := Try.underlying44
  a33 := Try.isAgg44
  z33 := Try.sizeOf44
  v33 := Try.zeroValue44 }
def Try.sorted15_ren : Go.Shelf.Ren := ⟨fun | 6 => 15 | 8 => 17 | 9 => 18 | 11 => 20 | 13 => 22 | 12 => 21 | 23 => 32 | 24 => 33 | 14 => 23 | 15 => 24 | 16 => 25 | 17 => 26 | 18 => 27 | 19 => 28 | 20 => 29 | 21 => 30 | 22 => 31 | 25 => 34 | 26 => 35 | 27 => 36 | 28 => 37 | 29 => 38 | 30 => 39 | 31 => 40 | n => n, fun | 26 => 9 | 28 => 41 | 24 => 29 | 0 => 0 | 3 => 3 | 37 => 48 | 48 => 59 | 50 => 61 | 4 => 4 | 40 => 51 | 39 => 50 | 45 => 56 | 5 => 5 | 9 => 9 | 51 => 62 | 55 => 66 | 57 => 68 | 58 => 69 | 33 => 44 | n => n, fun | n => n⟩
theorem Try.sorted15 : Go.Proofs.SlLaysZ.n6 Try.prog Try.sorted15_ren := {
  mixed := by kernel_rfl
  f6 := ⟨Try.f15.name, by decide, Try.func15.trans (congrArg some (by kernel_rfl))⟩
  f8 := ⟨Try.f17.name, by decide, Try.func17.trans (congrArg some (by kernel_rfl))⟩
  f11 := ⟨Try.f20.name, by decide, Try.func20.trans (congrArg some (by kernel_rfl))⟩
  t0 := Try.underlying0
  a0 := Try.isAgg0
  z0 := Try.sizeOf0
  v0 := Try.zeroValue0
  t24 := Try.underlying29
  a24 := Try.isAgg29
  z24 := Try.sizeOf29
  v24 := Try.zeroValue29
  t26 := Try.underlying9
  a26 := Try.isAgg9
  z26 := Try.sizeOf9
  v26 := Try.zeroValue9
  t28 := Try.underlying41
  a28 := Try.isAgg41
  z28 := Try.sizeOf41
  v28 := Try.zeroValue41
  i26 := by kernel_rfl }
def Try.sort18_ren : Go.Shelf.Ren := ⟨fun | 6 => 18 | 8 => 22 | 9 => 21 | 19 => 32 | 20 => 33 | 21 => 23 | 22 => 24 | 23 => 25 | 24 => 26 | 25 => 27 | 26 => 28 | 27 => 29 | 28 => 30 | 29 => 31 | 36 => 34 | 31 => 35 | 32 => 36 | 37 => 37 | 38 => 38 | 39 => 39 | 41 => 40 | n => n, fun | 27 => 29 | 29 => 9 | 3 => 3 | 32 => 48 | 26 => 29 | 0 => 0 | 44 => 59 | 46 => 61 | 4 => 4 | 36 => 51 | 35 => 50 | 41 => 56 | 5 => 5 | 9 => 9 | 53 => 62 | 57 => 66 | 63 => 68 | 64 => 69 | n => n, fun | n => n⟩
theorem Try.sort18 : Go.Proofs.SlLaysM.n6 Try.prog Try.sort18_ren := {
  mixed := by kernel_rfl
  f6 := ⟨Try.f18.name, by decide, Try.func18.trans (congrArg some (by kernel_rfl))⟩
  f8 := Try.func22.trans (congrArg some (by kernel_rfl))
  f9 := ⟨Try.f21.name, by decide, Try.func21.trans (congrArg some (by kernel_rfl))⟩
  f19 := Try.func32.trans (congrArg some (by kernel_rfl))
  f20 := Try.func33.trans (congrArg some (by kernel_rfl))
  f21 := ⟨Try.f23.name, by decide, Try.func23.trans (congrArg some (by kernel_rfl))⟩
  f22 := ⟨Try.f24.name, by decide, Try.func24.trans (congrArg some (by kernel_rfl))⟩
  f23 := ⟨Try.f25.name, by decide, Try.func25.trans (congrArg some (by kernel_rfl))⟩
  f24 := ⟨Try.f26.name, by decide, Try.func26.trans (congrArg some (by kernel_rfl))⟩
  f25 := ⟨Try.f27.name, by decide, Try.func27.trans (congrArg some (by kernel_rfl))⟩
  f26 := ⟨Try.f28.name, by decide, Try.func28.trans (congrArg some (by kernel_rfl))⟩
  f27 := ⟨Try.f29.name, by decide, Try.func29.trans (congrArg some (by kernel_rfl))⟩
  f28 := ⟨Try.f30.name, by decide, Try.func30.trans (congrArg some (by kernel_rfl))⟩
  f29 := ⟨Try.f31.name, by decide, Try.func31.trans (congrArg some (by kernel_rfl))⟩
  f31 := Try.func35.trans (congrArg some (by kernel_rfl))
  f32 := Try.func36.trans (congrArg some (by kernel_rfl))
  f36 := ⟨Try.f34.name, by decide, Try.func34.trans (congrArg some (by kernel_rfl))⟩
  f37 := ⟨Try.f37.name, by decide, Try.func37.trans (congrArg some (by kernel_rfl))⟩
  f38 := ⟨Try.f38.name, by decide, Try.func38.trans (congrArg some (by kernel_rfl))⟩
  f39 := ⟨Try.f39.name, by decide, Try.func39.trans (congrArg some (by kernel_rfl))⟩
  f41 := ⟨Try.f40.name, by decide, Try.func40.trans (congrArg some (by kernel_rfl))⟩
  t0 := Try.underlying0
  a0 := Try.isAgg0
  z0 := Try.sizeOf0
  v0 := Try.zeroValue0
  t3 := Try.underlying3
  a3 := Try.isAgg3
  z3 := Try.sizeOf3
  v3 := Try.zeroValue3
  t4 := Try.underlying4
  a4 := Try.isAgg4
  z4 := Try.sizeOf4
  v4 := Try.zeroValue4
  t5 := Try.underlying5
  a5 := Try.isAgg5
  z5 := Try.sizeOf5
  v5 := Try.zeroValue5
  t9 := Try.underlying9
  a9 := Try.isAgg9
  z9 := Try.sizeOf9
  v9 := Try.zeroValue9
  t26 := Try.underlying29
  a26 := Try.isAgg29
  z26 := Try.sizeOf29
  v26 := Try.zeroValue29
  t27 := Try.underlying29
  a27 := Try.isAgg29
  z27 := Try.sizeOf29
  v27 := Try.zeroValue29
  t29 := Try.underlying9
  a29 := Try.isAgg9
  z29 := Try.sizeOf9
  v29 := Try.zeroValue9
  t32 := Try.underlying48
  a32 := Try.isAgg48
  z32 := Try.sizeOf48
  v32 := Try.zeroValue48
  t35 := Try.underlying50
  a35 := Try.isAgg50
  z35 := Try.sizeOf50
  v35 := Try.zeroValue50
  t36 := Try.underlying51
  a36 := Try.isAgg51
  z36 := Try.sizeOf51
  v36 := Try.zeroValue51
  t41 := Try.underlying56
  a41 := Try.isAgg56
  z41 := Try.sizeOf56
  v41 := Try.zeroValue56
  t44 := Try.underlying59
  a44 := Try.isAgg59
  z44 := Try.sizeOf59
  v44 := Try.zeroValue59
  t46 := Try.underlying61
  a46 := Try.isAgg61
  z46 := Try.sizeOf61
  v46 := Try.zeroValue61
  t53 := Try.underlying62
  a53 := Try.isAgg62
  z53 := Try.sizeOf62
  v53 := Try.zeroValue62
  t57 := Try.underlying66
  a57 := Try.isAgg66
  z57 := Try.sizeOf66
  v57 := Try.zeroValue66
  t63 := Try.underlying68
  a63 := Try.isAgg68
  z63 := Try.sizeOf68
  v63 := Try.zeroValue68
  t64 := Try.underlying69
  a64 := Try.isAgg69
  z64 := Try.sizeOf69
  v64 := Try.zeroValue69 }

theorem Try.sorts15 (m : Nat) : AnyZ.SortsIn Try.prog Try.sorted15_ren Fence.wide m :=
  ⟨fun blk off cap ss W hH hblk hsz => callsIn_wide.2 (AnyM.slices_Sort_string Try.sort18 blk off cap ss W hH hblk hsz),
   fun p cap W => callsIn_wide.2 (AnyM.slices_Sort_string_none Try.sort18 p cap W)⟩

theorem Try.maps_Keys_16 (mb : Option Nat) (W : World) : CallsIn Fence.wide 5 Try.prog 16 #[.map mb] W fun e w' => e = .returned (.func (.func 19) #[] #[.pointer (some ⟨W.heap.size, 0, none⟩)]) ∧ w' = W.alloc (.cells #[.map mb] 27) :=
  AnyZ.keys_in Try.keys16 Fence.wide 5 trivial rfl mb W

set_option maxHeartbeats 1000000 in
theorem Try.slices_Sorted_keys_15_16 {H : Type} (b nn : Nat) (D0 : DataW H) (R : Value → Option (DataW H × List MemPlace)) (w : World) (hown : w.ownsMap Try.prog 9 R b nn D0) (hmax : Maps.size D0 ≤ maxLen) (hbytes : Maps.size D0 * 16 ≤ 140737488355328) :
    CallsIn Fence.wide 5 Try.prog 15 #[.func (.func 19) #[] #[.pointer (some ⟨w.heap.size, 0, none⟩)]] (w.alloc (.cells #[.map (some b)] 27)) fun e w' => ∃ (v : Value) (ss : List (List UInt8)), e = .returned v ∧ ss.Perm (strKeys D0) ∧
      w'.ownsRow (w.alloc (.cells #[.map (some b)] 27)).heap.size 9 1 v ss.length ((ss.mergeSort (fun x y => decide (x ≤ y))).map encStr) ∧ (v = .slice none 0 0 ↔ ss = []) ∧ Below (w.alloc (.cells #[.map (some b)] 27)).heap.size (w.alloc (.cells #[.map (some b)] 27)) w' := by
  have hbl := hown.lt
  have hseq : SeqGives Fence.wide 2 Try.prog 19 #[.pointer (some ⟨w.heap.size, 0, none⟩)] encStr (fun ss => ss.Perm (strKeys D0)) (Maps.size D0) (w.alloc (.cells #[.map (some b)] 27)) :=
    AnyZ.keys_gives (ρ := Try.keys16_ren) { Try.keys16 with } Fence.wide _ trivial rfl (by omega) w.heap.size b nn D0 _ (by simp) (by simp) (by
      obtain ⟨es, clock, hb, Ft, hs, hD⟩ := hown
      exact ⟨es, clock, (Below.heap_alloc _ _ b hbl).trans hb, Ft, hs, hD⟩)
  exact AnyZ.sorted_in Try.sorted15 Fence.wide 5 trivial trivial trivial trivial rfl (by omega) (Try.sorts15 _) (enters_of Try.func18 (by kernel_rfl) rfl) 19 #[.pointer (some ⟨w.heap.size, 0, none⟩)] trivial (enters_of Try.func19 (by kernel_rfl) rfl) _ _ hmax hbytes _ hseq

set_option maxHeartbeats 1000000 in
theorem Try.slices_Sorted_keys_nil_15_16 (w : World) :
    CallsIn Fence.wide 5 Try.prog 15 #[.func (.func 19) #[] #[.pointer (some ⟨w.heap.size, 0, none⟩)]] (w.alloc (.cells #[.map none] 27)) fun e w' => ∃ (v : Value) (ss : List (List UInt8)), e = .returned v ∧ ss = [] ∧
      w'.ownsRow (w.alloc (.cells #[.map none] 27)).heap.size 9 1 v ss.length ((ss.mergeSort (fun x y => decide (x ≤ y))).map encStr) ∧ (v = .slice none 0 0 ↔ ss = []) ∧ Below (w.alloc (.cells #[.map none] 27)).heap.size (w.alloc (.cells #[.map none] 27)) w' := by
  have hseq : SeqGives Fence.wide 2 Try.prog 19 #[.pointer (some ⟨w.heap.size, 0, none⟩)] encStr (fun ss : List (List UInt8) => ss = []) 0 (w.alloc (.cells #[.map none] 27)) :=
    AnyZ.keys_gives_nil (ρ := Try.keys16_ren) { Try.keys16 with } Fence.wide _ trivial rfl w.heap.size _ (by simp) (by simp)
  exact AnyZ.sorted_in Try.sorted15 Fence.wide 5 trivial trivial trivial trivial rfl (by omega) (Try.sorts15 _) (enters_of Try.func18 (by kernel_rfl) rfl) 19 #[.pointer (some ⟨w.heap.size, 0, none⟩)] trivial (enters_of Try.func19 (by kernel_rfl) rfl) _ 0 (Nat.zero_le _) (by omega) _ hseq


end Go.Proofs.Qxb6604665a
