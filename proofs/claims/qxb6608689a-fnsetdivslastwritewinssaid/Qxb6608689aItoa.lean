import Derived.Test.Qxb6608689aDiv
import Derived.Deep.LoopGhost
namespace Go.Proofs.Qxb6608689a
open Go.RowKit
set_option linter.unusedVariables false

/-- A row of one-cell elements at the head of block b; those at the places D hold f's values. -/
structure Row1 (W : World) (b n : Nat) (f : Nat → Value) (D : Nat → Prop) : Prop where
  lt : b < W.heap.size
  room : ∀ o, o < n → ∃ u, W.cell? ⟨b, o, none⟩ = some u
  free : ∀ o, o < n → W.frozen? ⟨b, o, none⟩ = false
  done : ∀ i, i < n → D i → W.cell? ⟨b, i, none⟩ = some (f i)

theorem Row1.same {W W' : World} {b n : Nat} {f : Nat → Value} {D : Nat → Prop} (h : Row1 W b n f D) (hb : W'.heap[b]? = W.heap[b]?) (hs : W.heap.size ≤ W'.heap.size) : Row1 W' b n f D where
  lt := by have := h.lt; omega
  room o ho := by obtain ⟨u, hu⟩ := h.room o ho; exact ⟨u, (World.cell?_of_block (w := W) hb).trans hu⟩
  free o ho := (World.frozen?_of_block (w := W) hb).trans (h.free o ho)
  done i hi hd := (World.cell?_of_block (w := W) hb).trans (h.done i hi hd)

theorem Row1.below {W W' : World} {b n B : Nat} {f : Nat → Value} {D : Nat → Prop} (h : Row1 W b n f D) (hb : Below B W W') (hB : b < B) : Row1 W' b n f D :=
  h.same (hb.block b hB) hb.size

theorem Row1.mono {W : World} {b n : Nat} {f : Nat → Value} {D D' : Nat → Prop} (h : Row1 W b n f D) (hd : ∀ i, i < n → D' i → D i) : Row1 W b n f D' :=
  ⟨h.lt, h.room, h.free, fun i hi h2 => h.done i hi (hd i hi h2)⟩

/-- One store: what the row holds behind it. -/
theorem Row1.store {W : World} {b n : Nat} {f : Nat → Value} {D : Nat → Prop} (h : Row1 W b n f D) (j : Nat) (hj : j < n) (x : Value) :
    Row1 (W.setCell ⟨b, j, none⟩ x) b n (fun i => if i = j then x else f i) (fun i => i = j ∨ D i) := by
  have ot : ∀ i, i ≠ j → (W.setCell ⟨b, j, none⟩ x).cell? ⟨b, i, none⟩ = W.cell? ⟨b, i, none⟩ := fun i hi => World.cell?_setCell_other _ _ _ _ (fun e => hi (congrArg Addr.off e).symm)
  obtain ⟨u, hu⟩ := h.room j hj
  have sm : (W.setCell ⟨b, j, none⟩ x).cell? ⟨b, j, none⟩ = some x := World.cell?_setCell_same _ _ _ hu
  refine ⟨by have := h.lt; simpa [World.setCell] using this, fun o ho => ?_, fun o ho => by rw [World.frozen?_setCell]; exact h.free o ho, fun i hi hd => ?_⟩
  · by_cases e : o = j
    · subst e; exact ⟨_, sm⟩
    · rw [ot o e]; exact h.room o ho
  · by_cases e : i = j
    · subst e; rw [if_pos rfl]; exact sm
    · rw [ot i e, if_neg e]; exact h.done i hi (hd.resolve_left e)

theorem Row1.congr {W : World} {b n : Nat} {f f' : Nat → Value} {D : Nat → Prop} (h : Row1 W b n f D) (hf : ∀ i, i < n → D i → f i = f' i) : Row1 W b n f' D :=
  ⟨h.lt, h.room, h.free, fun i hi hd => (hf i hi hd) ▸ h.done i hi hd⟩


/-- The 20 bytes that zzItoa64 lays. -/
theorem Row1.fresh (w : World) (T : TypeId) (f : Nat → Value) : Row1 (w.alloc (.cells #[.int .u8 0, .int .u8 0, .int .u8 0, .int .u8 0, .int .u8 0, .int .u8 0, .int .u8 0, .int .u8 0, .int .u8 0, .int .u8 0, .int .u8 0, .int .u8 0, .int .u8 0, .int .u8 0, .int .u8 0, .int .u8 0, .int .u8 0, .int .u8 0, .int .u8 0, .int .u8 0] T)) w.heap.size 20 f (fun _ => False) where
  lt := by simp
  room o ho := by
    rw [World.cell?_alloc_mark]
    exact ⟨_, Array.getElem?_eq_getElem (by simpa using ho)⟩
  free o ho := by simp
  done i hi h := h.elim

set_option maxHeartbeats 1000000 in
theorem itoa_any (s : ByteArray) (w : World) (h : One s) :
    Calls Try.prog 28 #[.int .i64 (numTo s s.size)] w fun e w' => e = .returned (.string s) ∧ Below w.heap.size w w' := by
  have H1 := hideP h
  have hs1 := h.1
  have hs9 := h.2.1
  have hb := (numTo_bound h.2.2.2 h.2.1 s.size (Nat.le_refl _)).1
  clear h
  go_enter Try.func28, Try.ntmps28
  go_wp2
  have R0 := hideP (Row1.fresh w 62 (fun o => .int .u8 (at' s (o + s.size - 20))))
  have B0 : Hid (Below w.heap.size w (w.alloc (.cells #[.int .u8 0, .int .u8 0, .int .u8 0, .int .u8 0, .int .u8 0, .int .u8 0, .int .u8 0, .int .u8 0, .int .u8 0, .int .u8 0, .int .u8 0, .int .u8 0, .int .u8 0, .int .u8 0, .int .u8 0, .int .u8 0, .int .u8 0, .int .u8 0, .int .u8 0, .int .u8 0] 62))) := (Below.refl _ _).alloc (Nat.le_refl _) _
  go_loopg [4, 6] s.size (fun g s4 s6 wr => ∃ n p : Nat, n < s.size ∧ n ≤ g ∧ p + s.size = 20 + n ∧ s4 = .int .u64 (numTo s (n + 1)) ∧ s6 = .int .i64 (p + 1) ∧ Hid (Row1 wr w.heap.size 20 (fun o => .int .u8 (at' s (o + s.size - 20))) (fun o => p + 1 ≤ o)) ∧ Hid (Below w.heap.size w wr))
  case atStart => exact ⟨s.size - 1, 19, by omega, by omega, by omega, by rw [show s.size - 1 + 1 = s.size by omega], rfl, R0.out.mono (fun o ho h => by omega), B0.out⟩
  case round =>
    clear R0 B0
    obtain ⟨n, p, hn, hg, hps, rfl, rfl, HR, HB⟩ := hrel
    have hdg := H1.out.2.2.2 n hn
    have HM : Hid (numTo s (n + 1) % 10 + 48 = at' s n ∧ numTo s (n + 1) / 10 = numTo s n) := by
      show _ ∧ _
      simp only [numTo]
      omega
    have hnb := (numTo_bound H1.out.2.2.2 hs9 (n + 1) (by omega)).1
    obtain ⟨u0, f0⟩ := HR.out.room p (by omega)
    have z0 := HR.out.free p (by omega)
    have hp20 : (p : Int) < 20 := by omega
    have HPS := hideP hps
    have HST : Hid (∀ x : Int, x = (at' s n : Int) → Row1 (wr.setCell ⟨w.heap.size, p, none⟩ (.int .u8 x)) w.heap.size 20 (fun o => .int .u8 (at' s (o + s.size - 20))) (fun o => p ≤ o)) := fun x hx => by
      refine ((HR.out.store p (by omega) (.int .u8 x)).mono (D' := fun o => p ≤ o) (fun o _ h => by omega)).congr (fun o _ h => ?_)
      by_cases e : o = p
      · rw [if_pos e, e, hx, show p + s.size - 20 = n by omega]
      · rw [if_neg e]
    clear hps
    cases n with
    | zero =>
      have hz : ((numTo s (0 + 1) : Int) / 10 == 0) = true := by
        have h0 : numTo s (0 + 1) / 10 = 0 := HM.out.2
        rw [beq_iff_eq]; omega
      have hz2 : (numTo s (0 + 1)) / 10 = 0 := HM.out.2
      generalize numTo s (0 + 1) = u at *
      have hsl : ∀ W : World, (Instr.sliceAt 62 (.pointer (some ⟨w.heap.size, 0, none⟩)) (some (.int .i64 p)) none none).run Try.prog W = .ok (.slice (some ⟨w.heap.size, p, none⟩) s.size s.size) W := fun W => by
        have h62 : Try.prog.underlying 62 = some (.array (Try.prog.arrayLen 62) (Try.prog.elem 62)) := by kernel_rfl
        have hal : Try.prog.arrayLen 62 = 20 := by kernel_rfl
        have hsz : ∀ W : World, (sizeOf (Try.prog.elem 62)).run Try.prog W = .ok 1 W := fun W => by kernel_rfl
        rw [run_sliceAt_array_l W 62 _ h62 .i64 p (by omega) (by rw [hal]; omega), hsz W, hal]
        have e := HPS.out
        simp only [Result.andThen, slicedAt, Int.toNat_natCast, Nat.mul_one]
        rw [if_neg (by omega), show 20 - p = s.size by omega]
        have ep : 0 < p := by omega
        simp [Addr.add]
        omega
      have hdd : (48 : Int) + (u : Int) % 10 = (at' s 0 : Int) := by have := HM.out.1; omega
      have hcv : (convert 63 9 (.slice (some ⟨w.heap.size, p, none⟩) s.size s.size)).run Try.prog (wr.setCell ⟨w.heap.size, p, none⟩ (.int .u8 (48 + (u : Int) % 10))) = .ok (.string s) (wr.setCell ⟨w.heap.size, p, none⟩ (.int .u8 (48 + (u : Int) % 10))) := by
        have hR := HST.out _ hdd
        have hl : s.data.toList.length = s.size := by simp
        have h := run_convert_bytes_back (P := Try.prog) (wr.setCell ⟨w.heap.size, p, none⟩ (.int .u8 (48 + (u : Int) % 10))) 63 9 5 ⟨w.heap.size, p, none⟩ s.size s.data.toList Try.underlying63 Try.underlying5 Try.underlying9 (fun j hj => by
          have hj' : j < s.size := by rw [hl] at hj; exact hj
          have e := HPS.out
          rw [Go.WideShapes.add_plain, hR.done (p + j) (by omega) (by omega), show p + j + s.size - 20 = j by omega, ← at_get s j hj']
          rfl)
        rw [hl] at h
        exact h
      have HRF := hideP (HB.out.setCell (p := ⟨w.heap.size, p, none⟩) (Nat.le_refl _) (.int .u8 (48 + (u : Int) % 10)))
      have HDD := hideP hdd
      clear hdd hz2 hdg
      go_wp2
      go_ret
      exact ⟨rfl, HRF.out⟩
    | succ n =>
      have hq : numTo s (n + 1 + 1) / 10 = numTo s (n + 1) := HM.out.2
      have hpos := numTo_pos H1.out (n + 1) (by omega) (by omega)
      have hz : ((numTo s (n + 1 + 1) : Int) / 10 == 0) = false := by
        rw [beq_eq_false_iff_ne]; omega
      have HQ := hideP hq
      have hdd : (48 : Int) + (numTo s (n + 1 + 1) : Int) % 10 = (at' s (n + 1) : Int) := by have := HM.out.1; omega
      have HST2 := hideP (HST.out _ hdd)
      have HRF := hideP (HB.out.setCell (p := ⟨w.heap.size, p, none⟩) (Nat.le_refl _) (.int .u8 (48 + (numTo s (n + 1 + 1) : Int) % 10)))
      clear hq hpos hdd hdg
      generalize numTo s (n + 1 + 1) = u at *
      go_wp2
      have e := HPS.out
      obtain ⟨p', rfl⟩ : ∃ p', p = p' + 1 := ⟨p - 1, by omega⟩
      go_roundg n
      case measure => omega
      case rel => exact ⟨n, p', by omega, Nat.le_refl _, by omega, by rw [← HQ.out]; go_num, by go_num, HST2.out, HRF.out⟩
end Go.Proofs.Qxb6608689a
