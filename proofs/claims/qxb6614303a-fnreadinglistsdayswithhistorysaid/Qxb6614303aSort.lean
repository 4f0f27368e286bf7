import Derived.Test.Qxb6614303aReading
import Derived.Shelf.SlSortCmp.NoneTotal
import Derived.Shelf.SlicesG.Cmp
namespace Go.Proofs.Qxb6614303a
open Go.Shelf Go.RowKit Go.Lib Go.Sort
set_option linter.unusedVariables false

def sortWd_ren : Go.Shelf.Ren := ⟨fun | 6 => 35 | 15 => 58 | 14 => 57 | 28 => 74 | 29 => 75 | 20 => 66 | 21 => 67 | 22 => 68 | 23 => 69 | 24 => 70 | 25 => 71 | 26 => 72 | 27 => 73 | 46 => 87 | 47 => 88 | 48 => 89 | 49 => 90 | 50 => 91 | 57 => 98 | n => n, fun | 22 => 60 | 24 => 64 | 25 => 87 | 3 => 3 | 39 => 106 | 0 => 0 | 53 => 131 | 55 => 45 | 4 => 4 | 46 => 125 | 45 => 124 | 50 => 81 | 5 => 5 | 9 => 9 | 66 => 138 | 70 => 121 | 76 => 149 | 77 => 150 | n => n, fun | n => n⟩
theorem sortWd : Go.Proofs.SlLaysF0.n6 Try.prog sortWd_ren := {
  mixed := by kernel_rfl,
  f6 := ⟨Try.f35.name, by decide, Try.func35.trans (congrArg some (by kernel_rfl))⟩,
  f14 := ⟨Try.f57.name, by decide, Try.func57.trans (congrArg some (by kernel_rfl))⟩,
  f15 := Try.func58.trans (congrArg some (by kernel_rfl)),
  f20 := ⟨Try.f66.name, by decide, Try.func66.trans (congrArg some (by kernel_rfl))⟩,
  f21 := ⟨Try.f67.name, by decide, Try.func67.trans (congrArg some (by kernel_rfl))⟩,
  f22 := ⟨Try.f68.name, by decide, Try.func68.trans (congrArg some (by kernel_rfl))⟩,
  f23 := ⟨Try.f69.name, by decide, Try.func69.trans (congrArg some (by kernel_rfl))⟩,
  f24 := ⟨Try.f70.name, by decide, Try.func70.trans (congrArg some (by kernel_rfl))⟩,
  f25 := ⟨Try.f71.name, by decide, Try.func71.trans (congrArg some (by kernel_rfl))⟩,
  f26 := ⟨Try.f72.name, by decide, Try.func72.trans (congrArg some (by kernel_rfl))⟩,
  f27 := ⟨Try.f73.name, by decide, Try.func73.trans (congrArg some (by kernel_rfl))⟩,
  f28 := Try.func74.trans (congrArg some (by kernel_rfl)),
  f29 := Try.func75.trans (congrArg some (by kernel_rfl)),
  f46 := ⟨Try.f87.name, by decide, Try.func87.trans (congrArg some (by kernel_rfl))⟩,
  f47 := Try.func88.trans (congrArg some (by kernel_rfl)),
  f48 := Try.func89.trans (congrArg some (by kernel_rfl)),
  f49 := ⟨Try.f90.name, by decide, Try.func90.trans (congrArg some (by kernel_rfl))⟩,
  f50 := ⟨Try.f91.name, by decide, Try.func91.trans (congrArg some (by kernel_rfl))⟩,
  f57 := ⟨Try.f98.name, by decide, Try.func98.trans (congrArg some (by kernel_rfl))⟩,
  t0 := Try.underlying0,
  a0 := Try.isAgg0,
  z0 := Try.sizeOf0,
  v0 := Try.zeroValue0,
  t3 := Try.underlying3,
  a3 := Try.isAgg3,
  z3 := Try.sizeOf3,
  v3 := Try.zeroValue3,
  t4 := Try.underlying4,
  a4 := Try.isAgg4,
  z4 := Try.sizeOf4,
  v4 := Try.zeroValue4,
  t5 := Try.underlying5,
  a5 := Try.isAgg5,
  z5 := Try.sizeOf5,
  v5 := Try.zeroValue5,
  t9 := Try.underlying9,
  a9 := Try.isAgg9,
  z9 := Try.sizeOf9,
  v9 := Try.zeroValue9,
  t22 := Try.underlying60,
  a22 := Try.isAgg60,
  z22 := Try.sizeOf60,
  v22 := Try.zeroValue60,
  t25 := Try.underlying87,
  a25 := Try.isAgg87,
  z25 := Try.sizeOf87,
  v25 := Try.zeroValue87,
  t39 := Try.underlying106,
  a39 := Try.isAgg106,
  z39 := Try.sizeOf106,
  v39 := Try.zeroValue106,
  t45 := Try.underlying124,
  a45 := Try.isAgg124,
  z45 := Try.sizeOf124,
  v45 := Try.zeroValue124,
  t46 := Try.underlying125,
  a46 := Try.isAgg125,
  z46 := Try.sizeOf125,
  v46 := Try.zeroValue125,
  t50 := Try.underlying81,
  a50 := Try.isAgg81,
  z50 := Try.sizeOf81,
  v50 := Try.zeroValue81,
  t53 := Try.underlying131,
  a53 := Try.isAgg131,
  z53 := Try.sizeOf131,
  v53 := Try.zeroValue131,
  t55 := Try.underlying45,
  a55 := Try.isAgg45,
  z55 := Try.sizeOf45,
  v55 := Try.zeroValue45,
  t66 := Try.underlying138,
  a66 := Try.isAgg138,
  z66 := Try.sizeOf138,
  v66 := Try.zeroValue138,
  t70 := Try.underlying121,
  a70 := Try.isAgg121,
  z70 := Try.sizeOf121,
  v70 := Try.zeroValue121,
  t76 := Try.underlying149,
  a76 := Try.isAgg149,
  z76 := Try.sizeOf149,
  v76 := Try.zeroValue149,
  t77 := Try.underlying150,
  a77 := Try.isAgg150,
  z77 := Try.sizeOf150,
  v77 := Try.zeroValue150 }

def cmpIntL_ren : Go.Shelf.Ren := ⟨fun | 5 => 37 | 7 => 59 | n => n, fun | 22 => 3 | 3 => 3 | 4 => 4 | n => n, fun | n => n⟩
theorem cmpIntL : Go.Proofs.SlLaysC2.n5 Try.prog cmpIntL_ren := {
  mixed := by kernel_rfl,
  f5 := ⟨Try.f37.name, by decide, Try.func37.trans (congrArg some (by kernel_rfl))⟩,
  f7 := ⟨Try.f59.name, by decide, Try.func59.trans (congrArg some (by kernel_rfl))⟩,
  t3 := Try.underlying3,
  a3 := Try.isAgg3,
  z3 := Try.sizeOf3,
  v3 := Try.zeroValue3,
  t4 := Try.underlying4,
  a4 := Try.isAgg4,
  z4 := Try.sizeOf4,
  v4 := Try.zeroValue4,
  t22 := Try.underlying3,
  a22 := Try.isAgg3,
  z22 := Try.sizeOf3,
  v22 := Try.zeroValue3 }


set_option maxHeartbeats 1000000 in
theorem closure36 (x y : Int × Nat) (W : World) : Calls Try.prog 36 #[.agg (encD x).toArray, .agg (encD y).toArray] W fun e w' => e = .returned (.int .i64 (Lib.compareInt x.2 y.2)) ∧ ∃ q os', w' = grow (W.drewN q) os' := by
  have hcon := fun W' => AnyG.cmp_Compare_int cmpIntL x.2 y.2 W'
  change ∀ W', Calls Try.prog 37 _ _ _ at hcon
  simp only [encD]
  generalize Lib.compareInt x.2 y.2 = r at hcon ⊢
  go_enter Try.func36, Try.ntmps36
  go_wp2_with (go_at_call 37; refine (hcon _).mono ?_; rintro e w' ⟨rfl, rfl⟩)
  go_ret
  exact ⟨rfl, 0, _, by rw [alloc_eq_grow, alloc_eq_grow, grow_grow]; rfl⟩

theorem cmpLays36 (blk off size : Nat) (w : World) : CmpLays Try.prog 36 #[] encD 4 (fun x y : Int × Nat => Lib.compareInt x.2 y.2) blk off size w :=
  fun _ _ _ _ x y => closure36 x y _

theorem ltFirst (x y : Int × Nat) : ltOf (fun x y : Int × Nat => Lib.compareInt x.2 y.2) x y = decide (x.2 < y.2) := by
  unfold ltOf Lib.compareInt
  by_cases h1 : x.2 < y.2
  · simp [h1]
  · by_cases h2 : y.2 < x.2 <;> simp [h1, h2]

theorem swoFirst : SWO (ltOf fun x y : Int × Nat => Lib.compareInt x.2 y.2) where
  irrefl x := by rw [ltFirst]; simp
  trans x y z h1 h2 := by rw [ltFirst] at *; simp at *; omega
  ntrans x y z h1 h2 := by rw [ltFirst] at *; simp at *; omega

theorem arr_getD (L : List (Int × Nat)) (i : Nat) (h : i < L.length) : L.toArray[i]! = L.getD i (0, 0) := by
  rw [getElem!_pos L.toArray i (by simpa using h)]
  simp [List.getD, h]

theorem sortSays : SortSays := by
  refine ⟨fun p cap W => ?_, fun g cap L W hl hg hcells => ?_⟩
  · have h := AnyF.slices_SortFunc_none { sortWd with } p cap (.func (.func 36) #[] #[]) W
    change Calls Try.prog 35 _ _ _ at h
    exact h
  · have eg : ∀ args w, (callFunc 36 args).run Try.prog w = .ok (.enter 36 args) w := enters_of Try.func36 (by kernel_rfl) rfl
    have hH : HoldsK encD 4 W g 0 L.toArray := by
      intro j hj
      rw [size_flatK] at hj
      have hj' : j < L.length * 4 := by simpa using hj
      rw [get_flatK _ _ _ _ hj]
      have e := hcells (j / 4) (by omega) (j % 4) (by omega)
      rw [show j / 4 * 4 + j % 4 = j by omega] at e
      rw [Nat.zero_add, arr_getD L (j / 4) (by omega)]
      exact e
    have hcon := AnyQ.slices_SortFunc sortWd 4 Try.isAgg64 Try.sizeOf64 encD (fun _ => rfl) encD_one (fun x y => Lib.compareInt x.2 y.2) swoFirst 36 #[] g 0 cap L.toArray W eg (cmpLays36 g 0 _ W) hH hg (by simp; omega)
    change Calls Try.prog 35 _ _ _ at hcon
    refine hcon.mono ?_
    rintro e w' ⟨he, d', n, os, hp, hs, hw⟩
    refine ⟨he, d'.toList, ?_, ?_, ?_, ?_⟩
    · have h := hp.2.2
      have hl' : d'.toList.length ≤ L.length := by have := hp.1; simp at this; simp [this]
      simp at h
      rwa [List.take_of_length_le hl'] at h
    · rw [List.pairwise_iff_getElem]
      intro i j hi hj hij
      have h := hs i j (Nat.zero_le _) hij (by rw [← hp.1]; simpa using hj)
      rw [ltFirst] at h
      rw [getElem!_pos d' j (by simpa using hj), getElem!_pos d' i (by simpa using hi)] at h
      simp at h
      simpa using h
    · intro i hi c hc
      have hK : HoldsK encD 4 w' g 0 d' := by rw [hw]; exact holdsK_sortWorldK_c encD 4 W g 0 L.toArray d' n os hH hg hp.1
      have := (hK.cell (i := i) (c := c) (by simpa using hi) hc).1
      rw [Nat.zero_add] at this
      rw [this, ← arr_getD d'.toList i hi]
    · rw [hw]
      refine ⟨rfl, rfl, rfl, ?_, fun k hk hne => ?_⟩
      · exact size_sortWorldK_c encD 4 W g 0 n d' os
      · unfold sortWorldK
        show ((putRowK encD 4 (Sort.ahead W n) g 0 d').heap ++ os)[k]? = _
        rw [Array.getElem?_append, if_pos (by rw [size_putRowK]; exact hk)]
        unfold putRowK putRow mapBlock
        simp only [Array.getElem?_modify]
        rw [if_neg (fun e => hne (by rw [e]))]
        rfl
end Go.Proofs.Qxb6614303a
