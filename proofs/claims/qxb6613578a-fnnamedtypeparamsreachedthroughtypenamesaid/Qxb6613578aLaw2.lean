import Derived.Test.Qxb6613578aLaw
namespace Go.Proofs.Qxb6613578a
open Go.RowKit
set_option linter.unusedVariables false

set_option maxRecDepth 100000 in
set_option maxHeartbeats 2000000 in
theorem law8 (pos : Int) (nm on : ByteArray) (a : Option Addr) (n c : Nat) (ls : List ByteArray) (w : World) (hm : n ≤ maxLen) (A : ArgRow w a n (fun i => .string (ls.getD i ByteArray.empty))) :
    Calls Try.prog 8 #[.int .i64 pos, .string nm, .string on, .slice a n c] w fun e w' => e = .returned (.bool true) ∧ Below w.heap.size w w' := by
  have HM := hideP hm
  have HA := hideP A
  clear hm A
  go_enter Try.func8, Try.ntmps8
  go_wp2_with fail
  refine (bytes32_any _ nm on a n c ls w HM.out HA.out).mono ?_
  rintro e w1 ⟨⟨b, rfl, hb⟩, h1⟩
  subst w1
  cases b with
  | false =>
    go_wp2
    go_ret
    exact ⟨rfl, Below.refl _ _⟩
  | true =>
    have HN := hideP (hb rfl)
    clear hb
    go_wp2_with fail
    · go_ret
      exact ⟨rfl, Below.refl _ _⟩
    · go_ret
      exact ⟨rfl, Below.refl _ _⟩
    refine (addNames_any _ a n c ls w HN.out HA.out).mono ?_
    rintro e w1 ⟨⟨y, rfl⟩, h1⟩
    subst w1
    go_wp2_with fail
    · go_ret
      exact ⟨rfl, Below.refl _ _⟩
    refine (zznewTypeName_any pos nm w).mono ?_
    rintro e w1 ⟨rfl, h1⟩
    have HO : Hid (Blk w1 w.heap.size (tn pos nm .nilIface)) := by rw [h1]; exact Blk.new _ _ _
    have HB : Hid (Below w.heap.size w w1) := by rw [h1]; exact (Below.refl _ _).alloc (Nat.le_refl _) _
    clear h1
    go_wp2_with fail
    refine (zznewTypeName_any pos on w1).mono ?_
    rintro e w2 ⟨rfl, h1⟩
    have HO2 : Hid (Blk w2 w.heap.size (tn pos nm .nilIface)) := by rw [h1]; exact HO.out.alloc _
    have HQ2 : Hid (Blk w2 w1.heap.size (tn pos on .nilIface)) := by rw [h1]; exact Blk.new _ _ _
    have HB2 : Hid (Below w.heap.size w w2) := by rw [h1]; exact HB.out.alloc (Nat.le_of_lt HO.out.lt) _
    have HL1 := hideP HO.out.lt
    have HL2 := hideP HQ2.out.lt
    clear h1 HO HB
    generalize hob : w.heap.size = ob at *
    generalize hqb : w1.heap.size = qb at *
    have HOB := hideP hob
    clear hob hqb
    go_wp2_with fail
    refine (pars_any a n c ls w2 HN.out (HA.out.below HB2.out HOB.out.symm)).mono ?_
    rintro e w3 ⟨a', c', rfl, h1, h2⟩
    have HT3 := hideP h1
    have HO3 := hideP (HO2.out.below h2 HO2.out.lt)
    have HQ3 := hideP (HQ2.out.below h2 HL2.out)
    have HB3 := hideP (HB2.out.trans (h2.mono (Nat.le_of_lt HO2.out.lt)))
    clear h1 h2 HO2 HQ2 HB2
    generalize w2.heap.size = tb at *
    go_wp2_with fail
    refine (namedOver_any ob pos nm .nilIface a' n c' w3 HO3.out HN.out HT3.out.nil).mono ?_
    rintro e w4 ⟨rfl, h1⟩
    have HT4 : Hid (Tps w4 tb n ls a' c') := by rw [h1]; exact named_tps HT3.out _ _ (by have := HL1.out; have := HL2.out; omega)
    have HN4 : Hid (Blk w4 w3.heap.size (nmd ob (.slice a' n c')).toList) := by rw [h1]; exact named_new _ _ _
    have HO4 : Hid (Blk w4 ob (tn pos nm (.iface 60 (.pointer (some ⟨w3.heap.size, 0, none⟩))))) := by rw [h1]; exact named_obj HO3.out _
    have HQ4 : Hid (Blk w4 qb (tn pos on .nilIface)) := by rw [h1]; exact named_blk HQ3.out _ _ (by have := HL1.out; omega)
    have HB4 : Hid (Below ob w w4) := by rw [h1]; exact named_below HB3.out _ (Nat.le_refl _) (Nat.le_of_lt HO3.out.lt)
    have HL3 := hideP HQ3.out.lt
    clear h1 HT3 HO3 HQ3 HB3
    generalize w3.heap.size = nb at *
    go_wp2_with fail
    refine (newNamed_any qb pos on .nilIface w4 HQ4.out).mono ?_
    rintro e w5 ⟨rfl, h1⟩
    have HT5 : Hid (Tps w5 tb n ls a' c') := by rw [h1]; exact named_tps HT4.out _ _ HL2.out
    have HN5 : Hid (Blk w5 nb (nmd ob (.slice a' n c')).toList) := by rw [h1]; exact named_blk HN4.out _ _ (by have := HL3.out; omega)
    have HP5 : Hid (Blk w5 w4.heap.size (nmd qb (.slice none 0 0)).toList) := by rw [h1]; exact named_new _ _ _
    have HO5 : Hid (Blk w5 ob (tn pos nm (.iface 60 (.pointer (some ⟨nb, 0, none⟩))))) := by rw [h1]; exact named_blk HO4.out _ _ (by have := HL1.out; omega)
    have HQ5 : Hid (Blk w5 qb (tn pos on (.iface 60 (.pointer (some ⟨w4.heap.size, 0, none⟩))))) := by rw [h1]; exact named_obj HQ4.out _
    have HB5 : Hid (Below ob w w5) := by rw [h1]; exact named_below HB4.out _ (Nat.le_of_lt HL1.out) (Nat.le_of_lt HO4.out.lt)
    clear h1 HT4 HO4 HQ4 HB4 HN4
    generalize w4.heap.size = pb at *
    go_wp2_with fail
    refine (namedOf_any ob nb pos nm w5 HO5.out).mono ?_
    rintro e w6 ⟨rfl, h1⟩
    subst w6
    go_wp2_with fail
    refine (namedOf_any qb pb pos on w5 HQ5.out).mono ?_
    rintro e w6 ⟨rfl, h1⟩
    subst w6
    have hn1 := neq60 nb
    have hn2 := neq60 pb
    have hE := eql57
    go_wp2_with fail
    refine (typeParams_any _ _ _ w5 HP5.out).mono ?_
    rintro e w6 ⟨rfl, h1⟩
    subst w6
    go_wp2_with fail
    refine (typeParams_any _ _ _ w5 HN5.out).mono ?_
    rintro e w6 ⟨rfl, h1⟩
    subst w6
    go_wp2_with fail
    refine (same_any _ a a' n c c' ls w5 HN.out (HA.out.below HB5.out HOB.out.symm) HT5.out).mono ?_
    rintro e w6 ⟨rfl, m, h1⟩
    have HE : Hid (Below ob w w6) := by rw [h1]; exact below_drewN HB5.out m
    clear h1
    go_wp2
    go_ret
    exact ⟨rfl, by rw [HOB.out]; exact HE.out⟩
end Go.Proofs.Qxb6613578a
