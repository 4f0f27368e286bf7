import Derived.Test.Qxb6614303aSearch
import Derived.Test.Qxb6614303aPlain
import Derived.Deep.RegionLaw
namespace Go
/-- append onto a slice of the call's own, as one step of a region that draws. -/
theorem step_append_owned {P : Program} {ops : Array Oper} {o : Oper} {a : Act} {w : World} {K : Act → World → Prop} {Q : Exit → Act → World → Prop} {E : Prop}
    (hg : o.guard = none) (s x : Operand) (t : TypeId) (hop : o.op = Op.call { callee := Callee.builtin Builtin.append, args := #[s, x], argTypes := #[t, t] })
    (base : Nat) (e : TypeId) (i : TypeInfo) (z : Value) (size bytes : Nat) (h1 : P.underlying t = some (.slice e)) (h2 : P.info? e = some i) (h3 : i.zero = some z) (h4 : i.size = size) (h5 : i.bytes = bytes) (h6 : z.cells.size = size) (h7 : 0 < size)
    (v : Value) (n : Nat) (xs : List Value) (hs : a.eval s = v) (hown : w.ownsRow base e size v n xs)
    (ad : Addr) (m c : Nat) (news : List Value) (hx : a.eval x = .slice (some ad) m c) (hn : news.length = m * size) (hc : ∀ j u, news[j]? = some u → w.cell? (ad.add j) = some u) (h1c : ∀ u ∈ news, u.oneCell' = true)
    (b1 : n + m ≤ maxLen) (b2 : (n + m) * bytes ≤ 140737488355328) (hbase : base ≤ w.heap.size)
    (hK : ∀ v' w', w'.ownsRow base e size v' (n + m) (xs ++ news) → w.grownBy w' v.ownBlock → K (a.put o.dst v') w') :
    if Region.wanted o (yielded ops a.tmps) = true then Oper.wp P o a w K Q else E := by
  have hw : Region.wanted o (yielded ops a.tmps) = true := by simp [Region.wanted, hg]
  rw [if_pos hw]
  obtain ⟨v', w', hrun, r1, r2, _⟩ := run_append_own (P := P) w base t o.type e i z size bytes h1 h2 h3 h4 h5 h6 h7 v n xs hown ad m c news hn hc h1c b1 b2 hbase
  unfold Oper.wp
  simp [execOp, hop, resolve, invoke, builtin, hs, hx, hrun, Result.andThen]
  exact hK v' w' r1 r2
end Go
namespace Go.Proofs.Qxb6614303a
open Go.RowKit Go.Sort
set_option linter.unusedVariables false

theorem info64 : (Try.prog.info? 64).map (fun i => (i.zero, i.size, i.bytes)) = some (some (.agg #[.int .u64 0, .int .i64 0, .pointer none, .int .i64 0]), 4, 32) := by kernel_rfl

/-- A listed day's four cells: its midnight, its first slot. -/
def encD (x : Int × Nat) : List Value := [.int .u64 (x.1 % 1000000000), .int .i64 (x.1 / 1000000000), .pointer none, .int .i64 x.2]

/-- The cells of a calendar's row at the head of block cb. -/
def Cal (w : World) (cb : Nat) (ms : List Int) (ls : List ByteArray) : Prop :=
  ∀ i, i < ms.length → w.cell? ⟨cb, i * 4, none⟩ = some (.int .u64 ((ms.getD i 0) % 1000000000)) ∧ w.cell? ⟨cb, i * 4 + 1, none⟩ = some (.int .i64 ((ms.getD i 0) / 1000000000)) ∧
    w.cell? ⟨cb, i * 4 + 2, none⟩ = some (.pointer none) ∧ w.cell? ⟨cb, i * 4 + 3, none⟩ = some (.string (ls.getD i ByteArray.empty))

/-- What holds in the reading's loop: the field 'listed' holds v, which owns the cells of L. -/
structure RInv (w : World) (L : List (Int × Nat)) (v : Value) (wr : World) : Prop where
  cell : wr.cell? ⟨w.heap.size + 1, 3, none⟩ = some v
  froz : wr.frozen? ⟨w.heap.size + 1, 3, none⟩ = false
  own : wr.ownsRow (w.heap.size + 2) 64 4 v L.length (L.flatMap encD)
  bel : Below w.heap.size w wr
  size : w.heap.size + 2 ≤ wr.heap.size

theorem grownBy_grow (W : World) (q : Nat) (os : Array Obj) : W.grownBy (grow (W.drewN q) os) none :=
  ⟨rfl, rfl, rfl, by show W.heap.size ≤ (W.heap ++ os).size; simp, fun k hk _ => by show (W.heap ++ os)[k]? = _; rw [Array.getElem?_append, if_pos hk]⟩

theorem below_grow {B : Nat} {w W : World} (h : Below B w W) (hB : B ≤ W.heap.size) (q : Nat) (os : Array Obj) : Below B w (grow (W.drewN q) os) :=
  h.grown (grownBy_grow W q os) hB (fun k hk => by cases hk)

theorem frozen_grow {W : World} {a : Addr} (ha : a.block < W.heap.size) (q : Nat) (os : Array Obj) : (grow (W.drewN q) os).frozen? a = W.frozen? a :=
  World.frozen?_of_block (w := W) ((grownBy_grow W q os).block a.block ha (by simp))

theorem RInv.grow {w : World} {L : List (Int × Nat)} {v : Value} {wr : World} (h : RInv w L v wr) (q : Nat) (os : Array Obj) : RInv w L v (Sort.grow (wr.drewN q) os) where
  cell := cell_grown (by have := h.size; simp; omega) h.cell q os
  froz := (frozen_grow (by have := h.size; simp; omega) q os).trans h.froz
  own := h.own.kept (grownBy_grow wr q os) (by cases v.ownBlock <;> simp)
  bel := below_grow h.bel (by have := h.size; omega) q os
  size := by have := h.size; have := (grownBy_grow wr q os).size; omega

theorem RInv.drew {w : World} {L : List (Int × Nat)} {v : Value} {wr : World} (h : RInv w L v wr) : RInv w L v wr.drew := by
  have := h.grow 1 #[]; rwa [grow_empty] at this

theorem RInv.alloc {w : World} {L : List (Int × Nat)} {v : Value} {wr : World} (h : RInv w L v wr) (o : Obj) : RInv w L v (wr.alloc o) := by
  have := h.grow 0 #[o]; rwa [show Sort.grow (wr.drewN 0) #[o] = wr.alloc o from (alloc_eq_grow wr o).symm] at this

theorem ownBlock_ge {w : World} {base : Nat} {e : TypeId} {size : Nat} {v : Value} {n : Nat} {xs : List Value} (h : w.ownsRow base e size v n xs) : ∀ k, v.ownBlock = some k → base ≤ k := by
  intro k hk
  rcases h.2 with ⟨rfl, _⟩ | ⟨g, cap, cur, rfl, hg, _⟩
  · simp [Value.ownBlock] at hk
  · simp [Value.ownBlock] at hk; omega

theorem RInv.appended {w : World} {L : List (Int × Nat)} {v : Value} {W w' : World} {v' : Value} (h : RInv w L v W) (x : Int × Nat)
    (hown : w'.ownsRow (w.heap.size + 2) 64 4 v' (L.length + 1) (L.flatMap encD ++ encD x)) (hg : W.grownBy w' v.ownBlock) :
    w'.cell? ⟨w.heap.size + 1, 3, none⟩ = some v ∧ w'.frozen? ⟨w.heap.size + 1, 3, none⟩ = false ∧ RInv w (L ++ [x]) v' (w'.setCell ⟨w.heap.size + 1, 3, none⟩ v') := by
  have hne : some (w.heap.size + 1) ≠ v.ownBlock := fun e => by have := ownBlock_ge h.own _ e.symm; omega
  have hblk := hg.block (w.heap.size + 1) (by have := h.size; omega) hne
  have hc : w'.cell? ⟨w.heap.size + 1, 3, none⟩ = some v := hg.cell h.cell hne
  have hf : w'.frozen? ⟨w.heap.size + 1, 3, none⟩ = false := (World.frozen?_of_block (w := W) hblk).trans h.froz
  refine ⟨hc, hf, ?_, ?_, ?_, ?_, ?_⟩
  · exact World.cell?_setCell_same _ _ _ hc
  · rw [World.frozen?_setCell]; exact hf
  · rw [show (L ++ [x]).length = L.length + 1 by simp, show (L ++ [x]).flatMap encD = L.flatMap encD ++ encD x by simp]
    exact ownsRow_setCell_below hown (by simp) _
  · exact (h.bel.grown hg (by have := h.size; omega) (fun k hk => by have := ownBlock_ge h.own k hk; omega)).setCell (by simp) _
  · have := h.size; have := hg.size; simp [World.setCell]; omega

theorem own_form {w : World} {base size n : Nat} {e : TypeId} {v : Value} {xs : List Value} (h : w.ownsRow base e size v (n + 1) xs) : ∃ g cap, v = .slice (some ⟨g, 0, none⟩) (n + 1) cap := by
  rcases h.2 with ⟨_, h0⟩ | ⟨g, cap, _, hv, _⟩
  · omega
  · exact ⟨g, cap, hv⟩

theorem encD_one (x : Int × Nat) : ∀ u ∈ encD x, u.oneCell' = true := by
  intro u hu
  simp [encD] at hu
  rcases hu with rfl | rfl | rfl | rfl <;> rfl

theorem encD_new (W : World) (x : Int × Nat) : ∀ j u, (encD x)[j]? = some u → (W.alloc (.cells #[.int .u64 (x.1 % 1000000000), .int .i64 (x.1 / 1000000000), .pointer none, .int .i64 x.2] 64)).cell? ((⟨W.heap.size, 0, none⟩ : Addr).add j) = some u := by
  intro j u hj
  match j, hj with
  | 0, hj => simp [encD] at hj; subst hj; simp [Addr.add]
  | 1, hj => simp [encD] at hj; subst hj; simp [Addr.add]
  | 2, hj => simp [encD] at hj; subst hj; simp [Addr.add]
  | 3, hj => simp [encD] at hj; subst hj; simp [Addr.add]
  | j + 4, hj => simp [encD] at hj

/-- WHAT THE SORT OF THE LISTED DAYS DOES (proved in Qxb6614303aSort.lean out of the shelf's contract). -/
def SortSays : Prop :=
  (∀ (p : Option Addr) (cap : Nat) (W : World), Calls Try.prog 35 #[.slice p 0 cap, .func (.func 36) #[] #[]] W fun e w' => e = .returned (.tuple #[]) ∧ w' = W) ∧
  ∀ (g cap : Nat) (L : List (Int × Nat)) (W : World), L.length < 1000000 → g < W.heap.size →
    (∀ i, i < L.length → ∀ c, c < 4 → W.cell? ⟨g, i * 4 + c, none⟩ = some (encD (L.getD i (0, 0)))[c]! ∧ W.frozen? ⟨g, i * 4 + c, none⟩ = false) →
    Calls Try.prog 35 #[.slice (some ⟨g, 0, none⟩) L.length cap, .func (.func 36) #[] #[]] W fun e w' => e = .returned (.tuple #[]) ∧
      ∃ L' : List (Int × Nat), L'.Perm L ∧ L'.Pairwise (fun a b => a.2 ≤ b.2) ∧ (∀ i, i < L'.length → ∀ c, c < 4 → w'.cell? ⟨g, i * 4 + c, none⟩ = some (encD (L'.getD i (0, 0)))[c]!) ∧ W.grownBy w' (some g)

/-- A reading at block rb lists L. -/
def Lists (W : World) (rb : Nat) (L : List (Int × Nat)) : Prop :=
  ∃ p cap, W.cell? ⟨rb, 3, none⟩ = some (.slice p L.length cap) ∧ (0 < L.length → ∃ g, p = some ⟨g, 0, none⟩ ∧ g < W.heap.size ∧ ∀ i, i < L.length → ∀ c, c < 4 → W.cell? ⟨g, i * 4 + c, none⟩ = some (encD (L.getD i (0, 0)))[c]!)

theorem flat_get : ∀ (L : List (Int × Nat)) (i c : Nat), i < L.length → c < 4 → (L.flatMap encD)[i * 4 + c]? = some (encD (L.getD i (0, 0)))[c]!
  | [], i, c, h, _ => by simp at h
  | a :: r, 0, c, _, hc => by
    simp only [List.flatMap_cons, Nat.zero_mul, Nat.zero_add, List.getD_cons_zero]
    rw [List.getElem?_append_left (by simpa [encD] using hc)]
    have : c < (encD a).length := by simpa [encD] using hc
    rw [List.getElem?_eq_getElem this, getElem!_pos (encD a) c this]
  | a :: r, i + 1, c, h, hc => by
    simp only [List.flatMap_cons, List.getD_cons_succ]
    rw [List.getElem?_append_right (by simp [encD]; omega), ← flat_get r i c (by simpa using h) hc]
    congr 1
    simp [encD]; omega

theorem RInv.row {w : World} {L : List (Int × Nat)} {g cap : Nat} {n : Nat} {W : World} (h : RInv w L (.slice (some ⟨g, 0, none⟩) n cap) W) :
    n = L.length ∧ g < W.heap.size ∧ w.heap.size + 2 ≤ g ∧ ∀ i, i < L.length → ∀ c, c < 4 → W.cell? ⟨g, i * 4 + c, none⟩ = some (encD (L.getD i (0, 0)))[c]! ∧ W.frozen? ⟨g, i * 4 + c, none⟩ = false := by
  rcases h.own.2 with ⟨h1, _⟩ | ⟨g', cap', cur, h1, hg, hh, hn, hm, hs, ht⟩
  · simp at h1
  · simp at h1
    obtain ⟨rfl, rfl, rfl⟩ := h1
    refine ⟨rfl, (Array.getElem?_eq_some_iff.1 hh).1, hg, fun i hi c hc => ?_⟩
    have lt : i * 4 + c < L.length * 4 := by omega
    have e : cur[i * 4 + c]? = some (encD (L.getD i (0, 0)))[c]! := by
      rw [← flat_get L i c hi hc, ← ht, List.getElem?_take_of_lt lt, Array.getElem?_toList]
    exact ⟨by simp [World.cell?, hh, e], by simp [World.frozen?, hh]⟩
set_option maxHeartbeats 1000000 in
theorem reading_any (cb ccap sb scap : Nat) (ms : List Int) (ls : List ByteArray) (ts : List Int) (fs : List Nat) (step : Int) (w : World)
    (hC : Cal w cb ms ls) (hS : Samples w sb ts fs) (hcb : cb < w.heap.size) (hsb : sb < w.heap.size) (hm : ms.length ≤ 100000) (ht : ts.length ≤ 100000)
    (hso : Sorted ts) (hsort : SortSays) :
    Calls Try.prog 22 #[.slice (some ⟨cb, 0, none⟩) ms.length ccap, .agg #[.slice (some ⟨sb, 0, none⟩) ts.length scap, .int .i64 step], .nilFunc] w fun e w' =>
      e = .returned (.pointer (some ⟨w.heap.size + 1, 0, none⟩)) ∧ Below w.heap.size w w' ∧ w.heap.size + 2 ≤ w'.heap.size ∧ ∃ L' : List (Int × Nat), L'.Perm (listed ts ms) ∧ L'.Pairwise (fun a b => a.2 ≤ b.2) ∧ Lists w' (w.heap.size + 1) L' := by
  have HC : Hid _ := hC
  have HS : Hid _ := hS
  have HSO : Hid _ := hso
  have HSORT : Hid _ := hsort
  clear hC hS hso hsort
  go_enter Try.func22, Try.ntmps22
  go_wp2
  go_loopw [21] (fun s21 wr => ∃ (k : Nat) (v : Value), s21 = .int .i64 k ∧ k ≤ ms.length ∧ RInv w (listed ts (ms.take k)) v wr) (fun s21 _ => ms.length - (intOf s21).toNat)
  case atStart =>
    exact ⟨0, .slice none 0 0, rfl, Nat.zero_le _, by go_simp, by go_simp, by simp [listed, World.ownsRow_nil], ((Below.refl _ _).alloc (Nat.le_refl _) _).alloc (by simp) _, by simp⟩
  case round =>
    obtain ⟨k, v, rfl, hk, hR⟩ := hrel
    have hle := listed_le ts (ms.take k)
    have htk : (ms.take k).length ≤ k := List.length_take_le _ _
    have hsz := hR.size
    by_cases hlt : k < ms.length
    · have g := HC.out k hlt
      have c0 := (hR.bel.cell (p := ⟨cb, k * 4, none⟩) hcb).trans g.1
      have c1 := (hR.bel.cell (p := ⟨cb, k * 4 + 1, none⟩) hcb).trans g.2.1
      have c2 := (hR.bel.cell (p := ⟨cb, k * 4 + 2, none⟩) hcb).trans g.2.2.1
      have c3 := (hR.bel.cell (p := ⟨cb, k * 4 + 3, none⟩) hcb).trans g.2.2.2
      have hsn := listed_snoc ts ms k hlt
      clear g
      generalize hm : ms.getD k 0 = m at c0 c1 hsn
      generalize ls.getD k ByteArray.empty = lb at c3
      have bsp := before_spec ts m HSO.out
      have ble := before_le ts m
      have hsr := fun W (h : Samples W sb ts fs) (h2 : sb < W.heap.size) => search_any sb scap ts fs m W h h2 (by omega) (before ts m) ble bsp.1 bsp.2
      clear bsp hm
      simp only [timeV_cells] at hsr
      generalize before ts m = cnt at ble hsr hsn
      have HSN : Hid _ := hsn
      have HSR : Hid _ := hsr
      have HR : Hid _ := hR
      clear hsn hsr hR
      go_wp2_with fail
      refine (HSR.out _ ?_ ?_).mono ?_
      · intro i hi
        have s0 := HS.out i hi
        have bb : Below w.heap.size w (wr.alloc (.cells #[.int .u64 (m % 1000000000), .int .i64 (m / 1000000000), .pointer none, .string lb] 51)) := HR.out.bel.alloc (by omega) _
        exact ⟨(bb.cell (p := ⟨sb, i * 4, none⟩) hsb).trans s0.1, (bb.cell (p := ⟨sb, i * 4 + 1, none⟩) hsb).trans s0.2.1, (bb.cell (p := ⟨sb, i * 4 + 2, none⟩) hsb).trans s0.2.2.1, (bb.cell (p := ⟨sb, i * 4 + 3, none⟩) hsb).trans s0.2.2.2⟩
      · simp; omega
      rintro e w1 ⟨bb, rfl, q, os', hw1⟩
      have HR1 : Hid _ := (HR.out.alloc (.cells #[.int .u64 (m % 1000000000), .int .i64 (m / 1000000000), .pointer none, .string lb] 51)).grow q os'
      have b0 : w1.cell? ⟨wr.heap.size, 0, none⟩ = some (.int .u64 (m % 1000000000)) := by rw [hw1]; exact cell_grown (by simp) (by go_simp) _ _
      have b1 : w1.cell? ⟨wr.heap.size, 1, none⟩ = some (.int .i64 (m / 1000000000)) := by rw [hw1]; exact cell_grown (by simp) (by go_simp) _ _
      have b2 : w1.cell? ⟨wr.heap.size, 2, none⟩ = some (.pointer none) := by rw [hw1]; exact cell_grown (by simp) (by go_simp) _ _
      rw [← hw1] at HR1
      clear hw1
      have r3 := HR1.out.cell
      have r4 := fun o => (HR1.out.alloc o).cell
      by_cases hc : 0 < cnt
      · obtain ⟨i0, hi, hz0, hz1, hz2⟩ := info_parts info64
        have hlen : (listed ts (ms.take k)).length ≤ 100000 := by omega
        go_wp2_with fail
        go_region_law (refine step_append_owned rfl (.tmp 38) (.tmp 43) 60 rfl (w.heap.size + 2) 64 i0 _ 4 32 Try.underlying60 hi hz0 hz1 hz2 rfl (by decide) v (listed ts (ms.take k)).length ((listed ts (ms.take k)).flatMap encD) (by simp [Act.eval]) (HR1.out.drew.alloc _).own ⟨w1.heap.size, 0, none⟩ 1 1 (encD (m, cnt)) (by simp [Act.eval]) rfl (encD_new w1.drew (m, cnt)) (encD_one _) (by unfold maxLen; omega) (by omega) (HR1.out.drew.alloc _).size ?_; intro v' w' hown' hg'; obtain ⟨p1, p2, p3⟩ := (HR1.out.drew.alloc _).appended (m, cnt) hown' hg'; obtain ⟨gg, cp, rfl⟩ := own_form hown')
        all_goals
          have P3 : Hid _ := p3
          clear p3 hown' hg'
          go_wp2
          go_roundw
          case rel => exact ⟨k + 1, _, by go_num, by omega, by rw [HSN.out, if_pos hc]; exact P3.out⟩
          case measure => simp [intOf]; omega
      · go_wp2
        go_roundw
        case rel => exact ⟨k + 1, v, by go_num, by omega, by rw [HSN.out, if_neg hc, List.append_nil]; exact HR1.out⟩
        case measure => simp [intOf]; omega
    · have ek : ms.take k = ms := List.take_of_length_le (by omega)
      rw [ek] at hR hle
      have HR : Hid _ := hR
      have r3 := hR.cell
      clear hR
      rcases HR.out.own.2 with ⟨rfl, h0⟩ | ⟨g, cap, cur, rfl, hrest⟩
      · go_wp2_with fail
        refine (HSORT.out.1 _ _ _).mono ?_
        rintro e w1 ⟨rfl, rfl⟩
        go_wp2
        go_ret
        have e0 : listed ts ms = [] := List.eq_nil_of_length_eq_zero h0
        exact ⟨rfl, HR.out.bel, hsz, [], by rw [e0], List.Pairwise.nil, none, 0, r3, fun h => by simp at h⟩
      · clear hrest
        obtain ⟨_, hgl, hgg, hcells⟩ := HR.out.row
        have HCE : Hid _ := hcells
        clear hcells
        go_wp2_with fail
        refine (HSORT.out.2 _ _ _ _ (by omega) hgl HCE.out).mono ?_
        rintro e w1 ⟨rfl, L', hp, hs, hcl, hgr⟩
        have HP : Hid _ := hp
        have HSS : Hid _ := hs
        have HCL : Hid _ := hcl
        have HGR : Hid _ := hgr
        have r4 : w1.cell? ⟨w.heap.size + 1, 3, none⟩ = some (.slice (some ⟨g, 0, none⟩) (listed ts ms).length cap) := hgr.cell r3 (by simp; omega)
        clear hp hs hcl hgr
        go_wp2
        go_ret
        have el : L'.length = (listed ts ms).length := HP.out.length_eq
        exact ⟨rfl, HR.out.bel.grown HGR.out (by omega) (fun q hq => by simp at hq; omega), by have := HGR.out.size; omega, L', HP.out, HSS.out, some ⟨g, 0, none⟩, cap, by rw [el]; exact r4, fun _ => ⟨g, rfl, by have := HGR.out.size; omega, HCL.out⟩⟩
end Go.Proofs.Qxb6614303a
