import Derived.Test.Qxb6613578aSizes
namespace Go.Proofs.Qxb6613578a
open Go.RowKit
set_option linter.unusedVariables false

/-- The slice of type parameters that was made: nil at none, else the row in block B. -/
def Tps (w : World) (B n : Nat) (ls : List ByteArray) (a : Option Addr) (c : Nat) : Prop :=
  (n = 0 ∧ a = none ∧ c = 0) ∨ (0 < n ∧ a = some ⟨B, 0, none⟩ ∧ c = n ∧ Pars w B n ls n)

theorem Tps.nil {w : World} {B n c : Nat} {ls : List ByteArray} {a : Option Addr} (h : Tps w B n ls a c) (hn : n = 0) : Value.slice a n c = .slice none 0 0 := by
  rcases h with ⟨h1, h2, h3⟩ | ⟨h1, _⟩
  · rw [h1, h2, h3]
  · omega

theorem Tps.same {W W' : World} {B n c : Nat} {ls : List ByteArray} {a : Option Addr} (h : Tps W B n ls a c) (hb : ∀ b, B ≤ b → b < W.heap.size → W'.heap[b]? = W.heap[b]?) (hs : W.heap.size ≤ W'.heap.size) : Tps W' B n ls a c := by
  rcases h with h | ⟨h1, h2, h3, h4⟩
  · exact .inl h
  · exact .inr ⟨h1, h2, h3, h4.same hb hs⟩

theorem size_setCell (w : World) (p : Addr) (v : Value) : (w.setCell p v).heap.size = w.heap.size := by simp [World.setCell]

theorem named_size (w : World) (ob : Nat) (tps : Value) : (named w ob tps).heap.size = w.heap.size + 1 := by simp [named, World.setCell]

theorem named_block (w : World) (ob : Nat) (tps : Value) (b : Nat) (hb : b < w.heap.size) (hne : b ≠ ob) : (named w ob tps).heap[b]? = w.heap[b]? := by
  unfold named
  rw [Below.heap_alloc _ _ b (by rw [size_setCell]; exact hb), Below.heap_setCell _ _ _ b hne]

theorem named_new (w : World) (ob : Nat) (tps : Value) : Blk (named w ob tps) w.heap.size (nmd ob tps).toList := by
  have h := Blk.new (w.setCell ⟨ob, 3, none⟩ (.iface 60 (.pointer (some ⟨w.heap.size, 0, none⟩)))) (nmd ob tps) 79
  rw [size_setCell] at h
  exact h

theorem named_obj {w : World} {ob : Nat} {pos : Int} {nm : ByteArray} {ty : Value} (h : Blk w ob (tn pos nm ty)) (tps : Value) : Blk (named w ob tps) ob (tn pos nm (.iface 60 (.pointer (some ⟨w.heap.size, 0, none⟩)))) :=
  (h.set 3 (by simp [tn]) _).alloc _

theorem named_blk {w : World} {b : Nat} {vs : List Value} (h : Blk w b vs) (ob : Nat) (tps : Value) (hne : b ≠ ob) : Blk (named w ob tps) b vs :=
  h.same (named_block w ob tps b h.lt hne) (by rw [named_size]; omega)

theorem named_below {B : Nat} {a w : World} (h : Below B a w) {ob : Nat} (tps : Value) (hB : B ≤ ob) (hw : B ≤ w.heap.size) : Below B a (named w ob tps) :=
  (h.setCell (p := ⟨ob, 3, none⟩) hB _).alloc (by rw [size_setCell]; exact hw) _

theorem named_tps {w : World} {B n c : Nat} {ls : List ByteArray} {a : Option Addr} (h : Tps w B n ls a c) (ob : Nat) (tps : Value) (ho : ob < B) : Tps (named w ob tps) B n ls a c :=
  h.same (fun b h1 h2 => named_block w ob tps b h2 (by omega)) (by rw [named_size]; omega)

theorem below_drewN {B : Nat} {a w : World} (h : Below B a w) (m : Nat) : Below B a (w.drewN m) := ⟨h.os, h.tape, h.output, h.size, h.block⟩

theorem pars_any (a : Option Addr) (n c : Nat) (ls : List ByteArray) (w : World) (hN : n ≤ 1048576) (A : ArgRow w a n (fun i => .string (ls.getD i ByteArray.empty))) :
    Calls Try.prog 28 #[.slice a n c] w fun e w' => ∃ a' c', e = .returned (.tuple #[.slice a' n c', .bool true]) ∧ Tps w' w.heap.size n ls a' c' ∧ Below w.heap.size w w' := by
  rcases Nat.eq_zero_or_pos n with h | h
  · subst h
    refine (pars_none a c w).mono ?_
    rintro e w' ⟨h1, h2⟩
    subst w'
    exact ⟨none, 0, h1, .inl ⟨rfl, rfl, rfl⟩, Below.refl _ _⟩
  · refine (pars_some a n c ls w h hN A).mono ?_
    rintro e w' ⟨h1, h2, h3⟩
    exact ⟨_, _, h1, .inr ⟨h, rfl, rfl, h2⟩, h3⟩

theorem same_any (B : Nat) (a a' : Option Addr) (n c c' : Nat) (ls : List ByteArray) (w : World) (hN : n ≤ 1048576) (A : ArgRow w a n (fun i => .string (ls.getD i ByteArray.empty))) (h : Tps w B n ls a' c') :
    Calls Try.prog 30 #[.slice a' n c', .slice a' n c', .slice a n c] w fun e w' => e = .returned (.bool true) ∧ ∃ m, w' = w.drewN m := by
  rcases h with ⟨h1, h2, h3⟩ | ⟨h1, h2, h3, h4⟩
  · subst h1 h2 h3
    refine (same_none _ a c w).mono ?_
    rintro e w' ⟨h1, h2⟩
    exact ⟨h1, 0, h2⟩
  · rw [h2, h3]
    exact same_some B a n c ls w h1 hN A h4

set_option maxRecDepth 100000 in
set_option maxHeartbeats 1000000 in
theorem law7 (pos : Int) (nm : ByteArray) (a : Option Addr) (n c : Nat) (ls : List ByteArray) (w : World) (hm : n ≤ maxLen) (A : ArgRow w a n (fun i => .string (ls.getD i ByteArray.empty))) :
    Calls Try.prog 7 #[.int .i64 pos, .string nm, .slice a n c] w fun e w' => e = .returned (.bool true) ∧ Below w.heap.size w w' := by
  have HM := hideP hm
  have HA := hideP A
  clear hm A
  go_enter Try.func7, Try.ntmps7
  go_wp2_with fail
  refine (bytes26_any _ nm a n c ls w HM.out HA.out).mono ?_
  rintro e w1 ⟨⟨b, rfl, hb⟩, h1⟩
  subst w1
  cases b with
  | false =>
    go_wp2
    go_ret
    exact ⟨rfl, Below.refl _ _⟩
  | true =>
    have HN := hideP (hb rfl)
    clear hb
    go_wp2_with fail
    · go_ret
      exact ⟨rfl, Below.refl _ _⟩
    refine (addNames_any _ a n c ls w HN.out HA.out).mono ?_
    rintro e w1 ⟨⟨y, rfl⟩, h1⟩
    subst w1
    go_wp2_with fail
    · go_ret
      exact ⟨rfl, Below.refl _ _⟩
    refine (zznewTypeName_any pos nm w).mono ?_
    rintro e w1 ⟨rfl, h1⟩
    have HO : Hid (Blk w1 w.heap.size (tn pos nm .nilIface)) := by rw [h1]; exact Blk.new _ _ _
    have HB : Hid (Below w.heap.size w w1) := by rw [h1]; exact (Below.refl _ _).alloc (Nat.le_refl _) _
    have HAO := hideP (HA.out.below HB.out rfl)
    clear h1
    go_wp2_with fail
    refine (pars_any a n c ls w1 HN.out HAO.out).mono ?_
    rintro e w2 ⟨a', c', rfl, h1, h2⟩
    have HT := hideP h1
    have HO2 := hideP (HO.out.below h2 HO.out.lt)
    have HB2 := hideP (HB.out.trans (h2.mono (Nat.le_of_lt HO.out.lt)))
    have HLT := hideP HO.out.lt
    clear h1 h2
    go_wp2_with fail
    refine (namedOver_any w.heap.size pos nm .nilIface a' n c' w2 HO2.out HN.out HT.out.nil).mono ?_
    rintro e w3 ⟨rfl, h1⟩
    have HT3 : Hid (Tps w3 w1.heap.size n ls a' c') := by rw [h1]; exact named_tps HT.out _ _ HLT.out
    have HP3 : Hid (Blk w3 w2.heap.size (nmd w.heap.size (.slice a' n c')).toList) := by rw [h1]; exact named_new _ _ _
    have HB3 : Hid (Below w.heap.size w w3) := by rw [h1]; exact named_below HB2.out _ (Nat.le_refl _) (Nat.le_of_lt HO2.out.lt)
    clear h1
    go_wp2_with fail
    refine (typeParams_any _ _ _ w3 HP3.out).mono ?_
    rintro e w4 ⟨rfl, h1⟩
    subst w4
    go_wp2_with fail
    refine (same_any _ a a' n c c' ls w3 HN.out (HA.out.below HB3.out rfl) HT3.out).mono ?_
    rintro e w4 ⟨rfl, m, h1⟩
    have HE : Hid (Below w.heap.size w w4) := by rw [h1]; exact below_drewN HB3.out m
    clear h1
    go_wp2
    go_ret
    exact ⟨rfl, HE.out⟩
end Go.Proofs.Qxb6613578a
