/-
  DERIVED: THE SHELF's CONTRACTS AT THIS DUMP, IN PLAIN WORDS (tools/lay-plain.mjs out of 'Qxb6618618aShelf.lean', which tools/lay-shelf.mjs wrote): THE SAME DECLARATIONS UNDER THE SAME NAMES: 'import', 'namespace', 'open', 'def', 'theorem' AND NOTHING ELSE: no command of the shelf's: FOR A HAND-IN. Each laying: the table of numbers ('.._ren') and one theorem, a field a fact of the dump's own or the kernel's comparison; each contract: ONE APPLICATION.
-/
import Derived.Shelf.SlIter.Nil
import Derived.Shelf.SortM.Plain
import Derived.Shelf.SortM.SortNone
import Derived.Ground.GgzProg
import Derived.Ground.SlgmProg
import Derived.Test.Qxb6618618aProg
namespace Go.Proofs
open Go.Shelf
def Try.keys20_ren : Go.Shelf.Ren := ⟨fun | 7 => 20 | 10 => 26 | n => n, fun | 23 => 56 | 26 => 9 | 3 => 9 | 28 => 65 | 0 => 0 | 27 => 64 | 33 => 72 | 4 => 4 | n => n, fun | n => n⟩
theorem Try.keys20 : Go.Proofs.SlLaysZ.n7 Try.prog Try.keys20_ren := {
  mixed := by kernel_rfl
  f7 := ⟨Try.f20.name, by decide, Try.func20.trans (congrArg some (by kernel_rfl))⟩
  f10 := ⟨Try.f26.name, by decide, Try.func26.trans (congrArg some (by kernel_rfl))⟩
  t0 := Try.underlying0
  a0 := Try.isAgg0
  z0 := Try.sizeOf0
  v0 := Try.zeroValue0
  t4 := Try.underlying4
  a4 := Try.isAgg4
  z4 := Try.sizeOf4
  v4 := Try.zeroValue4
  t23 := Try.underlying56
  a23 := Try.isAgg56
  z23 := Try.sizeOf56
  v23 := Try.zeroValue56
  t26 := Try.underlying9
  a26 := Try.isAgg9
  z26 := Try.sizeOf9
  v26 := Try.zeroValue9
  t27 := Try.underlying64
  a27 := Try.isAgg64
  z27 := Try.sizeOf64
  v27 := Try.zeroValue64
  t28 := Try.underlying65
  a28 := Try.isAgg65
  z28 := Try.sizeOf65
  v28 := Try.zeroValue65
  t33 := Try.underlying72
  a33 := Try.isAgg72
  z33 := Try.sizeOf72
  v33 := Try.zeroValue72 }
def Try.sorted19_ren : Go.Shelf.Ren := ⟨fun | 6 => 19 | 8 => 24 | 9 => 25 | 11 => 35 | 13 => 37 | 12 => 36 | 23 => 54 | 24 => 55 | 14 => 45 | 15 => 46 | 16 => 47 | 17 => 48 | 18 => 49 | 19 => 50 | 20 => 51 | 21 => 52 | 22 => 53 | 25 => 56 | 26 => 57 | 27 => 58 | 28 => 59 | 29 => 60 | 30 => 61 | 31 => 62 | n => n, fun | 26 => 9 | 28 => 65 | 24 => 22 | 0 => 0 | 3 => 3 | 37 => 83 | 48 => 28 | 50 => 100 | 4 => 4 | 40 => 91 | 39 => 90 | 45 => 96 | 5 => 5 | 9 => 9 | 51 => 101 | 55 => 105 | 57 => 107 | 58 => 108 | 33 => 72 | n => n, fun | n => n⟩
theorem Try.sorted19 : Go.Proofs.SlLaysZ.n6 Try.prog Try.sorted19_ren := {
  mixed := by kernel_rfl
  f6 := ⟨Try.f19.name, by decide, Try.func19.trans (congrArg some (by kernel_rfl))⟩
  f8 := ⟨Try.f24.name, by decide, Try.func24.trans (congrArg some (by kernel_rfl))⟩
  f11 := ⟨Try.f35.name, by decide, Try.func35.trans (congrArg some (by kernel_rfl))⟩
  t0 := Try.underlying0
  a0 := Try.isAgg0
  z0 := Try.sizeOf0
  v0 := Try.zeroValue0
  t24 := Try.underlying22
  a24 := Try.isAgg22
  z24 := Try.sizeOf22
  v24 := Try.zeroValue22
  t26 := Try.underlying9
  a26 := Try.isAgg9
  z26 := Try.sizeOf9
  v26 := Try.zeroValue9
  t28 := Try.underlying65
  a28 := Try.isAgg65
  z28 := Try.sizeOf65
  v28 := Try.zeroValue65
  i26 := by kernel_rfl }
def Try.sort25_ren : Go.Shelf.Ren := ⟨fun | 6 => 25 | 8 => 37 | 9 => 36 | 19 => 54 | 20 => 55 | 21 => 45 | 22 => 46 | 23 => 47 | 24 => 48 | 25 => 49 | 26 => 50 | 27 => 51 | 28 => 52 | 29 => 53 | 36 => 56 | 31 => 57 | 32 => 58 | 37 => 59 | 38 => 60 | 39 => 61 | 41 => 62 | n => n, fun | 27 => 22 | 29 => 9 | 3 => 3 | 32 => 83 | 26 => 22 | 0 => 0 | 44 => 28 | 46 => 100 | 4 => 4 | 36 => 91 | 35 => 90 | 41 => 96 | 5 => 5 | 9 => 9 | 53 => 101 | 57 => 105 | 63 => 107 | 64 => 108 | n => n, fun | n => n⟩
theorem Try.sort25 : Go.Proofs.SlLaysM.n6 Try.prog Try.sort25_ren := {
  mixed := by kernel_rfl
  f6 := ⟨Try.f25.name, by decide, Try.func25.trans (congrArg some (by kernel_rfl))⟩
  f8 := Try.func37.trans (congrArg some (by kernel_rfl))
  f9 := ⟨Try.f36.name, by decide, Try.func36.trans (congrArg some (by kernel_rfl))⟩
  f19 := Try.func54.trans (congrArg some (by kernel_rfl))
  f20 := Try.func55.trans (congrArg some (by kernel_rfl))
  f21 := ⟨Try.f45.name, by decide, Try.func45.trans (congrArg some (by kernel_rfl))⟩
  f22 := ⟨Try.f46.name, by decide, Try.func46.trans (congrArg some (by kernel_rfl))⟩
  f23 := ⟨Try.f47.name, by decide, Try.func47.trans (congrArg some (by kernel_rfl))⟩
  f24 := ⟨Try.f48.name, by decide, Try.func48.trans (congrArg some (by kernel_rfl))⟩
  f25 := ⟨Try.f49.name, by decide, Try.func49.trans (congrArg some (by kernel_rfl))⟩
  f26 := ⟨Try.f50.name, by decide, Try.func50.trans (congrArg some (by kernel_rfl))⟩
  f27 := ⟨Try.f51.name, by decide, Try.func51.trans (congrArg some (by kernel_rfl))⟩
  f28 := ⟨Try.f52.name, by decide, Try.func52.trans (congrArg some (by kernel_rfl))⟩
  f29 := ⟨Try.f53.name, by decide, Try.func53.trans (congrArg some (by kernel_rfl))⟩
  f31 := Try.func57.trans (congrArg some (by kernel_rfl))
  f32 := Try.func58.trans (congrArg some (by kernel_rfl))
  f36 := ⟨Try.f56.name, by decide, Try.func56.trans (congrArg some (by kernel_rfl))⟩
  f37 := ⟨Try.f59.name, by decide, Try.func59.trans (congrArg some (by kernel_rfl))⟩
  f38 := ⟨Try.f60.name, by decide, Try.func60.trans (congrArg some (by kernel_rfl))⟩
  f39 := ⟨Try.f61.name, by decide, Try.func61.trans (congrArg some (by kernel_rfl))⟩
  f41 := ⟨Try.f62.name, by decide, Try.func62.trans (congrArg some (by kernel_rfl))⟩
  t0 := Try.underlying0
  a0 := Try.isAgg0
  z0 := Try.sizeOf0
  v0 := Try.zeroValue0
  t3 := Try.underlying3
  a3 := Try.isAgg3
  z3 := Try.sizeOf3
  v3 := Try.zeroValue3
  t4 := Try.underlying4
  a4 := Try.isAgg4
  z4 := Try.sizeOf4
  v4 := Try.zeroValue4
  t5 := Try.underlying5
  a5 := Try.isAgg5
  z5 := Try.sizeOf5
  v5 := Try.zeroValue5
  t9 := Try.underlying9
  a9 := Try.isAgg9
  z9 := Try.sizeOf9
  v9 := Try.zeroValue9
  t26 := Try.underlying22
  a26 := Try.isAgg22
  z26 := Try.sizeOf22
  v26 := Try.zeroValue22
  t27 := Try.underlying22
  a27 := Try.isAgg22
  z27 := Try.sizeOf22
  v27 := Try.zeroValue22
  t29 := Try.underlying9
  a29 := Try.isAgg9
  z29 := Try.sizeOf9
  v29 := Try.zeroValue9
  t32 := Try.underlying83
  a32 := Try.isAgg83
  z32 := Try.sizeOf83
  v32 := Try.zeroValue83
  t35 := Try.underlying90
  a35 := Try.isAgg90
  z35 := Try.sizeOf90
  v35 := Try.zeroValue90
  t36 := Try.underlying91
  a36 := Try.isAgg91
  z36 := Try.sizeOf91
  v36 := Try.zeroValue91
  t41 := Try.underlying96
  a41 := Try.isAgg96
  z41 := Try.sizeOf96
  v41 := Try.zeroValue96
  t44 := Try.underlying28
  a44 := Try.isAgg28
  z44 := Try.sizeOf28
  v44 := Try.zeroValue28
  t46 := Try.underlying100
  a46 := Try.isAgg100
  z46 := Try.sizeOf100
  v46 := Try.zeroValue100
  t53 := Try.underlying101
  a53 := Try.isAgg101
  z53 := Try.sizeOf101
  v53 := Try.zeroValue101
  t57 := Try.underlying105
  a57 := Try.isAgg105
  z57 := Try.sizeOf105
  v57 := Try.zeroValue105
  t63 := Try.underlying107
  a63 := Try.isAgg107
  z63 := Try.sizeOf107
  v63 := Try.zeroValue107
  t64 := Try.underlying108
  a64 := Try.isAgg108
  z64 := Try.sizeOf108
  v64 := Try.zeroValue108 }

open Go.RowKit Go.Maps Go.Sort
/-- slices.Sort's two contracts at this dump, at the fence that asks nothing. -/
theorem Try.sorts19 (m : Nat) : AnyZ.SortsIn Try.prog Try.sorted19_ren Fence.wide m :=
  ⟨fun blk off cap ss W hH hblk hsz => callsIn_wide.2 (AnyM.slices_Sort_string Try.sort25 blk off cap ss W hH hblk hsz),
   fun p cap W => callsIn_wide.2 (AnyM.slices_Sort_string_none Try.sort25 p cap W)⟩

/-- **maps.Keys[map[string]string,string,string], at whatever map, the nil one too:** a function value over ONE NEW BLOCK, which holds the map. -/
theorem Try.maps_Keys_20 (mb : Option Nat) (W : World) : CallsIn Fence.wide 5 Try.prog 20 #[.map mb] W fun e w' => e = .returned (.func (.func 26) #[] #[.pointer (some ⟨W.heap.size, 0, none⟩)]) ∧ w' = W.alloc (.cells #[.map mb] 56) :=
  AnyZ.keys_in Try.keys20 Fence.wide 5 trivial rfl mb W

set_option maxHeartbeats 1000000 in
/-- **slices.Sorted[string] AT WHAT maps.Keys[map[string]string,string,string] HANDED BACK FOR A MAP THAT IS NOT nil** ('w': the world AHEAD of maps.Keys' call): A NEW SLICE THAT HOLDS THE MAP's KEYS, SORTED; nil just where it has none; nothing that lay before has turned. -/
theorem Try.slices_Sorted_keys_19_20 {H : Type} (b nn : Nat) (D0 : DataW H) (R : Value → Option (DataW H × List MemPlace)) (w : World) (hown : w.ownsMap Try.prog 9 R b nn D0) (hmax : Maps.size D0 ≤ maxLen) (hbytes : Maps.size D0 * 16 ≤ 140737488355328) :
    CallsIn Fence.wide 5 Try.prog 19 #[.func (.func 26) #[] #[.pointer (some ⟨w.heap.size, 0, none⟩)]] (w.alloc (.cells #[.map (some b)] 56)) fun e w' => ∃ (v : Value) (ss : List (List UInt8)), e = .returned v ∧ ss.Perm (strKeys D0) ∧
      w'.ownsRow (w.alloc (.cells #[.map (some b)] 56)).heap.size 9 1 v ss.length ((ss.mergeSort (fun x y => decide (x ≤ y))).map encStr) ∧ (v = .slice none 0 0 ↔ ss = []) ∧ Below (w.alloc (.cells #[.map (some b)] 56)).heap.size (w.alloc (.cells #[.map (some b)] 56)) w' := by
  have hbl := hown.lt
  have hseq : SeqGives Fence.wide 2 Try.prog 26 #[.pointer (some ⟨w.heap.size, 0, none⟩)] encStr (fun ss => ss.Perm (strKeys D0)) (Maps.size D0) (w.alloc (.cells #[.map (some b)] 56)) :=
    AnyZ.keys_gives (ρ := Try.keys20_ren) { Try.keys20 with } Fence.wide _ trivial rfl (by omega) w.heap.size b nn D0 _ (by simp) (by simp) (by
      obtain ⟨es, clock, hb, Ft, hs, hD⟩ := hown
      exact ⟨es, clock, (Below.heap_alloc _ _ b hbl).trans hb, Ft, hs, hD⟩)
  exact AnyZ.sorted_in Try.sorted19 Fence.wide 5 trivial trivial trivial trivial rfl (by omega) (Try.sorts19 _) (enters_of Try.func25 (by kernel_rfl) rfl) 26 #[.pointer (some ⟨w.heap.size, 0, none⟩)] trivial (enters_of Try.func26 (by kernel_rfl) rfl) _ _ hmax hbytes _ hseq


end Go.Proofs
