/-
  The contracts on 'slices.Sorted(maps.Keys(m))' at this program, as the kit's lay-iter and lay-plain lay them for it.
-/
import Derived.Shelf.SlIter.Nil
import Derived.Shelf.SortM.Plain
import Derived.Shelf.SortM.SortNone
import Derived.Ground.GgzProg
import Derived.Ground.SlgmProg
import Derived.Test.YbulkclxkGreatProg
set_option maxRecDepth 100000
namespace Go.Proofs
open Go.RowKit Go.Maps Go.Sort Go.Shelf

def Ybaz.keys28_ren : Go.Shelf.Ren := ⟨fun | 7 => 28 | 10 => 40 | n => n, fun | 23 => 53 | 26 => 9 | 3 => 56 | 28 => 77 | 0 => 0 | 27 => 76 | 33 => 88 | 4 => 4 | n => n, fun | n => n⟩
theorem Ybaz.keys28 : Go.Proofs.SlLaysZ.n7 Ybaz.prog Ybaz.keys28_ren := {
  mixed := by kernel_rfl
  f7 := ⟨Ybaz.f28.name, by decide, Ybaz.func28.trans (congrArg some (by kernel_rfl))⟩
  f10 := ⟨Ybaz.f40.name, by decide, Ybaz.func40.trans (congrArg some (by kernel_rfl))⟩
  t0 := Ybaz.underlying0
  a0 := Ybaz.isAgg0
  z0 := Ybaz.sizeOf0
  v0 := Ybaz.zeroValue0
  t4 := Ybaz.underlying4
  a4 := Ybaz.isAgg4
  z4 := Ybaz.sizeOf4
  v4 := Ybaz.zeroValue4
  t23 := Ybaz.underlying53
  a23 := Ybaz.isAgg53
  z23 := Ybaz.sizeOf53
  v23 := Ybaz.zeroValue53
  t26 := Ybaz.underlying9
  a26 := Ybaz.isAgg9
  z26 := Ybaz.sizeOf9
  v26 := Ybaz.zeroValue9
  t27 := Ybaz.underlying76
  a27 := Ybaz.isAgg76
  z27 := Ybaz.sizeOf76
  v27 := Ybaz.zeroValue76
  t28 := Ybaz.underlying77
  a28 := Ybaz.isAgg77
  z28 := Ybaz.sizeOf77
  v28 := Ybaz.zeroValue77
  t33 := Ybaz.underlying88
  a33 := Ybaz.isAgg88
  z33 := Ybaz.sizeOf88
  v33 := Ybaz.zeroValue88 }
def Ybaz.sorted27_ren : Go.Shelf.Ren := ⟨fun | 6 => 27 | 8 => 38 | 9 => 39 | 11 => 51 | 13 => 53 | 12 => 52 | 23 => 77 | 24 => 17 | 14 => 68 | 15 => 69 | 16 => 70 | 17 => 71 | 18 => 72 | 19 => 73 | 20 => 74 | 21 => 75 | 22 => 76 | 25 => 84 | 26 => 85 | 27 => 86 | 28 => 87 | 29 => 88 | 30 => 89 | 31 => 107 | n => n, fun | 26 => 9 | 28 => 77 | 24 => 64 | 0 => 0 | 3 => 3 | 37 => 61 | 48 => 124 | 50 => 22 | 4 => 4 | 40 => 117 | 39 => 116 | 45 => 72 | 5 => 5 | 9 => 9 | 51 => 131 | 55 => 134 | 57 => 147 | 58 => 148 | 33 => 88 | n => n, fun | n => n⟩
theorem Ybaz.sorted27 : Go.Proofs.SlLaysZ.n6 Ybaz.prog Ybaz.sorted27_ren := {
  mixed := by kernel_rfl
  f6 := ⟨Ybaz.f27.name, by decide, Ybaz.func27.trans (congrArg some (by kernel_rfl))⟩
  f8 := ⟨Ybaz.f38.name, by decide, Ybaz.func38.trans (congrArg some (by kernel_rfl))⟩
  f11 := ⟨Ybaz.f51.name, by decide, Ybaz.func51.trans (congrArg some (by kernel_rfl))⟩
  t0 := Ybaz.underlying0
  a0 := Ybaz.isAgg0
  z0 := Ybaz.sizeOf0
  v0 := Ybaz.zeroValue0
  t24 := Ybaz.underlying64
  a24 := Ybaz.isAgg64
  z24 := Ybaz.sizeOf64
  v24 := Ybaz.zeroValue64
  t26 := Ybaz.underlying9
  a26 := Ybaz.isAgg9
  z26 := Ybaz.sizeOf9
  v26 := Ybaz.zeroValue9
  t28 := Ybaz.underlying77
  a28 := Ybaz.isAgg77
  z28 := Ybaz.sizeOf77
  v28 := Ybaz.zeroValue77
  i26 := by kernel_rfl }
def Ybaz.sort39_ren : Go.Shelf.Ren := ⟨fun | 6 => 39 | 8 => 53 | 9 => 52 | 19 => 77 | 20 => 17 | 21 => 68 | 22 => 69 | 23 => 70 | 24 => 71 | 25 => 72 | 26 => 73 | 27 => 74 | 28 => 75 | 29 => 76 | 36 => 84 | 31 => 85 | 32 => 86 | 37 => 87 | 38 => 88 | 39 => 89 | 41 => 107 | n => n, fun | 27 => 64 | 29 => 9 | 3 => 3 | 32 => 61 | 26 => 64 | 0 => 0 | 44 => 124 | 46 => 22 | 4 => 4 | 36 => 117 | 35 => 116 | 41 => 72 | 5 => 5 | 9 => 9 | 53 => 131 | 57 => 134 | 63 => 147 | 64 => 148 | n => n, fun | n => n⟩
theorem Ybaz.sort39 : Go.Proofs.SlLaysM.n6 Ybaz.prog Ybaz.sort39_ren := {
  mixed := by kernel_rfl
  f6 := ⟨Ybaz.f39.name, by decide, Ybaz.func39.trans (congrArg some (by kernel_rfl))⟩
  f8 := Ybaz.func53.trans (congrArg some (by kernel_rfl))
  f9 := ⟨Ybaz.f52.name, by decide, Ybaz.func52.trans (congrArg some (by kernel_rfl))⟩
  f19 := Ybaz.func77.trans (congrArg some (by kernel_rfl))
  f20 := Ybaz.func17.trans (congrArg some (by kernel_rfl))
  f21 := ⟨Ybaz.f68.name, by decide, Ybaz.func68.trans (congrArg some (by kernel_rfl))⟩
  f22 := ⟨Ybaz.f69.name, by decide, Ybaz.func69.trans (congrArg some (by kernel_rfl))⟩
  f23 := ⟨Ybaz.f70.name, by decide, Ybaz.func70.trans (congrArg some (by kernel_rfl))⟩
  f24 := ⟨Ybaz.f71.name, by decide, Ybaz.func71.trans (congrArg some (by kernel_rfl))⟩
  f25 := ⟨Ybaz.f72.name, by decide, Ybaz.func72.trans (congrArg some (by kernel_rfl))⟩
  f26 := ⟨Ybaz.f73.name, by decide, Ybaz.func73.trans (congrArg some (by kernel_rfl))⟩
  f27 := ⟨Ybaz.f74.name, by decide, Ybaz.func74.trans (congrArg some (by kernel_rfl))⟩
  f28 := ⟨Ybaz.f75.name, by decide, Ybaz.func75.trans (congrArg some (by kernel_rfl))⟩
  f29 := ⟨Ybaz.f76.name, by decide, Ybaz.func76.trans (congrArg some (by kernel_rfl))⟩
  f31 := Ybaz.func85.trans (congrArg some (by kernel_rfl))
  f32 := Ybaz.func86.trans (congrArg some (by kernel_rfl))
  f36 := ⟨Ybaz.f84.name, by decide, Ybaz.func84.trans (congrArg some (by kernel_rfl))⟩
  f37 := ⟨Ybaz.f87.name, by decide, Ybaz.func87.trans (congrArg some (by kernel_rfl))⟩
  f38 := ⟨Ybaz.f88.name, by decide, Ybaz.func88.trans (congrArg some (by kernel_rfl))⟩
  f39 := ⟨Ybaz.f89.name, by decide, Ybaz.func89.trans (congrArg some (by kernel_rfl))⟩
  f41 := ⟨Ybaz.f107.name, by decide, Ybaz.func107.trans (congrArg some (by kernel_rfl))⟩
  t0 := Ybaz.underlying0
  a0 := Ybaz.isAgg0
  z0 := Ybaz.sizeOf0
  v0 := Ybaz.zeroValue0
  t3 := Ybaz.underlying3
  a3 := Ybaz.isAgg3
  z3 := Ybaz.sizeOf3
  v3 := Ybaz.zeroValue3
  t4 := Ybaz.underlying4
  a4 := Ybaz.isAgg4
  z4 := Ybaz.sizeOf4
  v4 := Ybaz.zeroValue4
  t5 := Ybaz.underlying5
  a5 := Ybaz.isAgg5
  z5 := Ybaz.sizeOf5
  v5 := Ybaz.zeroValue5
  t9 := Ybaz.underlying9
  a9 := Ybaz.isAgg9
  z9 := Ybaz.sizeOf9
  v9 := Ybaz.zeroValue9
  t26 := Ybaz.underlying64
  a26 := Ybaz.isAgg64
  z26 := Ybaz.sizeOf64
  v26 := Ybaz.zeroValue64
  t27 := Ybaz.underlying64
  a27 := Ybaz.isAgg64
  z27 := Ybaz.sizeOf64
  v27 := Ybaz.zeroValue64
  t29 := Ybaz.underlying9
  a29 := Ybaz.isAgg9
  z29 := Ybaz.sizeOf9
  v29 := Ybaz.zeroValue9
  t32 := Ybaz.underlying61
  a32 := Ybaz.isAgg61
  z32 := Ybaz.sizeOf61
  v32 := Ybaz.zeroValue61
  t35 := Ybaz.underlying116
  a35 := Ybaz.isAgg116
  z35 := Ybaz.sizeOf116
  v35 := Ybaz.zeroValue116
  t36 := Ybaz.underlying117
  a36 := Ybaz.isAgg117
  z36 := Ybaz.sizeOf117
  v36 := Ybaz.zeroValue117
  t41 := Ybaz.underlying72
  a41 := Ybaz.isAgg72
  z41 := Ybaz.sizeOf72
  v41 := Ybaz.zeroValue72
  t44 := Ybaz.underlying124
  a44 := Ybaz.isAgg124
  z44 := Ybaz.sizeOf124
  v44 := Ybaz.zeroValue124
  t46 := Ybaz.underlying22
  a46 := Ybaz.isAgg22
  z46 := Ybaz.sizeOf22
  v46 := Ybaz.zeroValue22
  t53 := Ybaz.underlying131
  a53 := Ybaz.isAgg131
  z53 := Ybaz.sizeOf131
  v53 := Ybaz.zeroValue131
  t57 := Ybaz.underlying134
  a57 := Ybaz.isAgg134
  z57 := Ybaz.sizeOf134
  v57 := Ybaz.zeroValue134
  t63 := Ybaz.underlying147
  a63 := Ybaz.isAgg147
  z63 := Ybaz.sizeOf147
  v63 := Ybaz.zeroValue147
  t64 := Ybaz.underlying148
  a64 := Ybaz.isAgg148
  z64 := Ybaz.sizeOf148
  v64 := Ybaz.zeroValue148 }

/-- slices.Sort's two contracts at this dump, at the fence that asks nothing. -/
theorem Ybaz.sorts27 (m : Nat) : AnyZ.SortsIn Ybaz.prog Ybaz.sorted27_ren Fence.wide m :=
  ⟨fun blk off cap ss W hH hblk hsz => callsIn_wide.2 (AnyM.slices_Sort_string Ybaz.sort39 blk off cap ss W hH hblk hsz),
   fun p cap W => callsIn_wide.2 (AnyM.slices_Sort_string_none Ybaz.sort39 p cap W)⟩

/-- **maps.Keys[map[string]*example.com/evenkeel/evenkeel/internal/protocol.roster,string,*example.com/evenkeel/evenkeel/internal/protocol.roster], at whatever map, the nil one too:** a function value over ONE NEW BLOCK, which holds the map. -/
theorem Ybaz.maps_Keys_28 (mb : Option Nat) (W : World) : CallsIn Fence.wide 5 Ybaz.prog 28 #[.map mb] W fun e w' => e = .returned (.func (.func 40) #[] #[.pointer (some ⟨W.heap.size, 0, none⟩)]) ∧ w' = W.alloc (.cells #[.map mb] 53) :=
  AnyZ.keys_in Ybaz.keys28 Fence.wide 5 trivial rfl mb W

set_option maxHeartbeats 1000000 in
/-- **slices.Sorted[string] AT WHAT maps.Keys[map[string]*example.com/evenkeel/evenkeel/internal/protocol.roster,string,*example.com/evenkeel/evenkeel/internal/protocol.roster] HANDED BACK FOR A MAP THAT IS NOT nil** ('w': the world AHEAD of maps.Keys' call): A NEW SLICE THAT HOLDS THE MAP's KEYS, SORTED; nil just where it has none; nothing that lay before has turned. -/
theorem Ybaz.slices_Sorted_keys_27_28 {H : Type} (b nn : Nat) (D0 : DataW H) (R : Value → Option (DataW H × List MemPlace)) (w : World) (hown : w.ownsMap Ybaz.prog 9 R b nn D0) (hmax : Maps.size D0 ≤ maxLen) (hbytes : Maps.size D0 * 16 ≤ 140737488355328) :
    CallsIn Fence.wide 5 Ybaz.prog 27 #[.func (.func 40) #[] #[.pointer (some ⟨w.heap.size, 0, none⟩)]] (w.alloc (.cells #[.map (some b)] 53)) fun e w' => ∃ (v : Value) (ss : List (List UInt8)), e = .returned v ∧ ss.Perm (strKeys D0) ∧
      w'.ownsRow (w.alloc (.cells #[.map (some b)] 53)).heap.size 9 1 v ss.length ((ss.mergeSort (fun x y => decide (x ≤ y))).map encStr) ∧ (v = .slice none 0 0 ↔ ss = []) ∧ Below (w.alloc (.cells #[.map (some b)] 53)).heap.size (w.alloc (.cells #[.map (some b)] 53)) w' := by
  have hbl := hown.lt
  have hseq : SeqGives Fence.wide 2 Ybaz.prog 40 #[.pointer (some ⟨w.heap.size, 0, none⟩)] encStr (fun ss => ss.Perm (strKeys D0)) (Maps.size D0) (w.alloc (.cells #[.map (some b)] 53)) :=
    AnyZ.keys_gives (ρ := Ybaz.keys28_ren) { Ybaz.keys28 with } Fence.wide _ trivial rfl (by omega) w.heap.size b nn D0 _ (by simp) (by simp) (by
      obtain ⟨es, clock, hb, Ft, hs, hD⟩ := hown
      exact ⟨es, clock, (Below.heap_alloc _ _ b hbl).trans hb, Ft, hs, hD⟩)
  exact AnyZ.sorted_in Ybaz.sorted27 Fence.wide 5 trivial trivial trivial trivial rfl (by omega) (Ybaz.sorts27 _) (enters_of Ybaz.func39 (by kernel_rfl) rfl) 40 #[.pointer (some ⟨w.heap.size, 0, none⟩)] trivial (enters_of Ybaz.func40 (by kernel_rfl) rfl) _ _ hmax hbytes _ hseq


end Go.Proofs
