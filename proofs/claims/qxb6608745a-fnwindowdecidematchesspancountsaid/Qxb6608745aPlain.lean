import Derived.Test.Qxb6608745aMeth
namespace Go.Proofs.Qxb6608745a
open Go.RowKit
set_option linter.unusedVariables false

def slotI (L S : Nat) (now : Int) : Int := now * S / L
def startI (L S : Nat) (k : Int) : Int := -(-(k * L) / S)

theorem ediv_uniq {a L q : Int} (hL : 0 < L) (h1 : q * L ≤ a) (h2 : a < (q + 1) * L) : a / L = q := by
  have a1 : q ≤ a / L := (Int.le_ediv_iff_mul_le hL).2 h1
  have a2 : a / L < q + 1 := (Int.ediv_lt_iff_lt_mul hL).2 h2
  omega

theorem ediv_neg_ceil (N L : Nat) (hL : 1 ≤ L) : (-(N : Int)) / (L : Int) = -(((N + (L - 1)) / L : Nat) : Int) := by
  have d := Nat.div_add_mod (N + (L - 1)) L
  have l := Nat.mod_lt (N + (L - 1)) hL
  generalize (N + (L - 1)) / L = c at *
  generalize (N + (L - 1)) % L = r at *
  have hm : ((L : Int) * (c : Int)) = ((L * c : Nat) : Int) := (Int.natCast_mul _ _).symm
  refine ediv_uniq (by omega) ?_ ?_
  · rw [Int.neg_mul, Int.mul_comm, hm]; omega
  · rw [Int.add_mul, Int.neg_mul, Int.mul_comm, hm]; omega

theorem slotI_pos (L S t : Nat) : slotI L S t = ((t * S / L : Nat) : Int) := by
  unfold slotI
  rw [Int.natCast_ediv, Int.natCast_mul]

theorem slotI_neg (L S t : Nat) (hL : 1 ≤ L) : slotI L S (-(t : Int)) = -(((t * S + (L - 1)) / L : Nat) : Int) := by
  unfold slotI
  rw [Int.neg_mul, ← Int.natCast_mul]
  exact ediv_neg_ceil _ _ hL

theorem startI_pos (L S k : Nat) (hS : 1 ≤ S) : startI L S k = ((k * L + (S - 1)) / S : Nat) := by
  unfold startI
  rw [← Int.natCast_mul, ediv_neg_ceil _ _ hS, Int.neg_neg]

theorem startI_neg (L S k : Nat) : startI L S (-(k : Int)) = -((k * L / S : Nat) : Int) := by
  unfold startI
  rw [Int.neg_mul, Int.neg_neg, Int.natCast_ediv, Int.natCast_mul]

/-- Slots and their starts. -/
theorem galois {L S : Nat} (hL : 1 ≤ L) (hS : 1 ≤ S) (now k : Int) : k ≤ slotI L S now ↔ startI L S k ≤ now := by
  unfold slotI startI
  rw [Int.le_ediv_iff_mul_le (by omega)]
  constructor
  · intro h
    have : -now ≤ -(k * L) / S := (Int.le_ediv_iff_mul_le (by omega)).2 (by rw [Int.neg_mul]; omega)
    omega
  · intro h
    have h1 : -now ≤ -(k * L) / S := by omega
    have := (Int.le_ediv_iff_mul_le (by omega)).1 h1
    rw [Int.neg_mul] at this
    omega

theorem galois_lt {L S : Nat} (hL : 1 ≤ L) (hS : 1 ≤ S) (now k : Int) : slotI L S now < k ↔ now < startI L S k := by
  have := galois hL hS now k
  omega

theorem slotI_mono {L S : Nat} (hL : 1 ≤ L) (hS : 1 ≤ S) {a b : Int} (h : a ≤ b) : slotI L S a ≤ slotI L S b :=
  (galois hL hS b _).2 (Int.le_trans ((galois hL hS a _).1 (Int.le_refl _)) h)

theorem startI_add {L S : Nat} (hS : 1 ≤ S) (k : Int) : startI L S (k + S) = startI L S k + L := by
  unfold startI
  rw [Int.add_mul, show -(k * L + (S : Int) * L) = -(k * L) + S * (-(L : Int)) by rw [Int.mul_neg]; omega, Int.add_mul_ediv_left _ _ (by omega)]
  omega

/-- A time in range. -/
def In (x : Int) : Prop := -9223372036854775808 ≤ x ∧ x ≤ 9223372036854775807

theorem in_cases {x : Int} (h : In x) : (∃ t : Nat, x = t ∧ t ≤ 9223372036854775807) ∨ (∃ t : Nat, x = -(t : Int) ∧ 1 ≤ t ∧ t ≤ 9223372036854775808) := by
  obtain ⟨h1, h2⟩ := h
  by_cases h0 : 0 ≤ x
  · exact .inl ⟨x.toNat, by omega, by omega⟩
  · exact .inr ⟨(-x).toNat, by omega, by omega, by omega⟩

theorem slotI_in {L S : Nat} (hS : 1 ≤ S) (hSL : S ≤ L) {x : Int} (h : In x) : In (slotI L S x) := by
  rcases in_cases h with ⟨t, rfl, ht⟩ | ⟨t, rfl, h1, ht⟩
  · rw [slotI_pos]
    have := quo_le (t := t) (by omega : 1 ≤ L) hSL
    generalize t * S / L = q at *
    constructor <;> omega
  · rw [slotI_neg _ _ _ (by omega)]
    have := ceil_le (t := t) (by omega : 1 ≤ L) hSL
    generalize (t * S + (L - 1)) / L = q at *
    constructor <;> omega

theorem zzSlotOf_any (L S : Nat) (now : Int) (hn : In now) (hS : 1 ≤ S) (hSL : S ≤ L) (hL : L ≤ 9223372036854775807) (w : World) :
    Calls Try.prog 11 #[.int .i64 now, .int .i64 L, .int .i64 S] w fun e w' => e = .returned (.int .i64 (slotI L S now)) ∧ w' = w := by
  rcases in_cases hn with ⟨t, rfl, ht⟩ | ⟨t, rfl, h1, ht⟩
  · rw [slotI_pos]; exact zzSlotOf_pos t L S ht hS hSL hL w
  · rw [slotI_neg _ _ _ (by omega)]; exact zzSlotOf_neg t L S h1 ht hS hSL hL w

theorem slotOf_any (lb L S : Nat) (now : Int) (hn : In now) (hS : 1 ≤ S) (hSL : S ≤ L) (hL : L ≤ 9223372036854775807) (w : World)
    (c1 : w.cell? ⟨lb, 1, none⟩ = some (.int .i64 L)) (c2 : w.cell? ⟨lb, 2, none⟩ = some (.int .i64 S)) :
    Calls Try.prog 19 #[.pointer (some ⟨lb, 0, none⟩), .int .i64 now] w fun e w' => e = .returned (.int .i64 (slotI L S now)) ∧ ∃ n, w' = w.drewN n := by
  rcases in_cases hn with ⟨t, rfl, ht⟩ | ⟨t, rfl, h1, ht⟩
  · rw [slotI_pos]; exact slotOf_pos lb t L S ht hS hSL hL w c1 c2
  · rw [slotI_neg _ _ _ (by omega)]; exact slotOf_neg lb t L S h1 ht hS hSL hL w c1 c2

/-- A start as it is handed back: true where it is in range, and never earlier than the least time. -/
def StartIs (s : Int) (e : Ending) : Prop := ∃ (x : Int) (b : Bool), e = .returned (.tuple #[.int .i64 x, .bool b]) ∧ (s ≤ 9223372036854775807 → b = true ∧ (-9223372036854775808 ≤ s → x = s)) ∧ (9223372036854775807 < s → b = false)

theorem startN_is (q : Nat) : StartIs (-(q : Int)) (.returned (.tuple #[.int .i64 (startN q), .bool true])) := by
  refine ⟨_, _, rfl, fun _ => ⟨rfl, fun h => ?_⟩, fun h => by omega⟩
  unfold startN
  split <;> omega

theorem zzSlotStart_any (L S : Nat) (k : Int) (hk : In k) (hS : 1 ≤ S) (hS2 : S ≤ 9223372036854775807) (hL : L ≤ 9223372036854775807) (w : World) :
    Calls Try.prog 18 #[.int .i64 k, .int .i64 L, .int .i64 S] w fun e w' => StartIs (startI L S k) e ∧ w' = w := by
  rcases in_cases hk with ⟨t, rfl, ht⟩ | ⟨t, rfl, h1, ht⟩
  · rw [startI_pos _ _ _ hS]
    refine (zzSlotStart_pos t L S ht hS hS2 hL w).mono ?_
    rintro e w' ⟨rfl, h⟩
    refine ⟨?_, h⟩
    generalize (t * L + (S - 1)) / S = c
    by_cases hc : c ≤ 9223372036854775807
    · rw [startV_yes hc]; exact ⟨_, _, rfl, fun _ => ⟨rfl, fun _ => rfl⟩, fun h => by omega⟩
    · rw [startV_no (by omega)]; exact ⟨_, _, rfl, fun h => by omega, fun _ => rfl⟩
  · rw [startI_neg]
    refine (zzSlotStart_neg t L S h1 ht hS hS2 hL w).mono ?_
    rintro e w' ⟨rfl, h⟩
    exact ⟨startN_is _, h⟩

theorem slotStart_any (lb L S : Nat) (k : Int) (hk : In k) (hS : 1 ≤ S) (hS2 : S ≤ 9223372036854775807) (hL : L ≤ 9223372036854775807)
    (hlo : -18446744073709551616 < startI L S k) (hhi : startI L S k < 18446744073709551616) (w : World)
    (c1 : w.cell? ⟨lb, 1, none⟩ = some (.int .i64 L)) (c2 : w.cell? ⟨lb, 2, none⟩ = some (.int .i64 S)) :
    Calls Try.prog 33 #[.pointer (some ⟨lb, 0, none⟩), .int .i64 k] w fun e w' => StartIs (startI L S k) e ∧ ∃ n, w' = w.drewN n := by
  rcases in_cases hk with ⟨t, rfl, ht⟩ | ⟨t, rfl, h1, ht⟩
  · rw [startI_pos _ _ _ hS] at hhi ⊢
    refine (slotStart_pos lb t L S ht hS hS2 hL (by omega) w c1 c2).mono ?_
    rintro e w' ⟨⟨x, b, rfl, h1, h2⟩, h⟩
    exact ⟨⟨x, b, rfl, fun hc => ⟨(h1 (by omega)).1, fun _ => (h1 (by omega)).2⟩, fun hc => h2 (by omega)⟩, h⟩
  · rw [startI_neg] at hlo ⊢
    refine (slotStart_neg lb t L S h1 ht hS hS2 hL (by omega) w c1 c2).mono ?_
    rintro e w' ⟨rfl, h⟩
    exact ⟨startN_is _, h⟩

/-- How long after now slot o has left the span; the greatest Duration where no request can come then. -/
def waitV (L S : Nat) (o now : Int) : Int :=
  if o + S ≤ 9223372036854775807 ∧ startI L S (o + S) ≤ 9223372036854775807 ∧ startI L S (o + S) - now ≤ 9223372036854775807 then startI L S (o + S) - now else 9223372036854775807

set_option maxHeartbeats 1000000 in
theorem zzWaitFor_any (L S : Nat) (o now : Int) (hn : In now) (ho : In o) (hS : 1 ≤ S) (hSL : S ≤ L) (hL : L ≤ 9223372036854775807) (hlt : slotI L S now < o + S) (w : World) :
    Calls Try.prog 13 #[.int .i64 o, .int .i64 now, .int .i64 L, .int .i64 S] w fun e w' => e = .returned (.int .i64 (waitV L S o now)) ∧ w' = w := by
  have hst := (galois_lt (by omega) hS now (o + S)).1 hlt
  obtain ⟨res, hres⟩ : ∃ res, res = waitV L S o now := ⟨_, rfl⟩
  rw [← hres]
  unfold waitV at hres
  have HN := hideP hn
  have HO := hideP ho
  by_cases hA : o + S ≤ 9223372036854775807
  · have C := hideP (zzSlotStart_any L S (o + S) ⟨by have := ho.1; omega, hA⟩ hS (by omega) hL w)
    generalize startI L S (o + S) = s at *
    have hAb : decide ((9223372036854775807 : Int) - (S : Int) < o) = false := decide_eq_false (by omega)
    have HST := hideP hst
    have HR := hideP hres
    have HA := hideP hA
    have hw1 : -9223372036854775808 ≤ o + (S : Int) := by have := ho.1; omega
    have HL := hideP hL
    clear hres hlt hst hL hSL
    obtain ⟨hn1, hn2⟩ := hn
    obtain ⟨ho1, ho2⟩ := ho
    go_enter Try.func13, Try.ntmps13
    go_wp2_with fail
    refine C.out.mono ?_
    rintro e w1 ⟨⟨x, b, rfl, hx1, hx2⟩, h1⟩
    subst w1
    clear hA hw1 hAb ho1 ho2
    by_cases hB : s ≤ 9223372036854775807
    · obtain ⟨rfl, hx⟩ := hx1 hB
      have hxs : x = s := hx (by have := HST.out; omega)
      subst hxs
      clear hx1 hx2 hx
      have hle : decide (x ≤ now) = false := decide_eq_false (by have := HST.out; omega)
      by_cases hneg : now < 0
      · by_cases hbig : x - now ≤ 9223372036854775807
        · have hb2 : decide ((9223372036854775807 : Int) + now < x) = false := decide_eq_false (by omega)
          have HF : Hid (x - now = res) := by have h := HR.out; rw [if_pos ⟨HA.out, hB, hbig⟩] at h; exact h.symm
          have hlow : 0 ≤ x - now := by have := HST.out; omega
          go_wp2
          go_ret
          exact ⟨congrArg (fun x => Ending.returned (Value.int .i64 x)) HF.out, rfl⟩
        · have hb2 : decide ((9223372036854775807 : Int) + now < x) = true := decide_eq_true (by omega)
          have HF : Hid ((9223372036854775807 : Int) = res) := by have h := HR.out; rw [if_neg (fun h => hbig h.2.2)] at h; exact h.symm
          clear hbig
          go_wp2
          go_ret
          exact ⟨congrArg (fun x => Ending.returned (Value.int .i64 x)) HF.out, rfl⟩
      · have hbig : x - now ≤ 9223372036854775807 := by omega
        have hneg' : decide (now < 0) = false := decide_eq_false hneg
        have HF : Hid (x - now = res) := by have h := HR.out; rw [if_pos ⟨HA.out, hB, hbig⟩] at h; exact h.symm
        have hlow : 0 ≤ x - now := by have := HST.out; omega
        go_wp2
        go_ret
        exact ⟨congrArg (fun x => Ending.returned (Value.int .i64 x)) HF.out, rfl⟩
    · obtain rfl := hx2 (by omega)
      have HF : Hid ((9223372036854775807 : Int) = res) := by have h := HR.out; rw [if_neg (fun h => hB h.2.1)] at h; exact h.symm
      clear hx1 hx2 hB
      go_wp2
      go_ret
      exact ⟨congrArg (fun x => Ending.returned (Value.int .i64 x)) HF.out, rfl⟩
  · have hAb : decide ((9223372036854775807 : Int) - (S : Int) < o) = true := decide_eq_true (by omega)
    have HF : Hid ((9223372036854775807 : Int) = res) := by rw [if_neg (fun h => hA h.1)] at hres; exact hres.symm
    clear hA hlt hst hn ho hres
    go_enter Try.func13, Try.ntmps13
    go_wp2
    go_ret
    exact ⟨congrArg (fun x => Ending.returned (Value.int .i64 x)) HF.out, rfl⟩
end Go.Proofs.Qxb6608745a
