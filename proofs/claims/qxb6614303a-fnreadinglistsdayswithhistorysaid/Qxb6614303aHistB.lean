import Derived.Test.Qxb6614303aHist
namespace Go.Proofs.Qxb6614303a
open Go.RowKit Go.Sort
set_option linter.unusedVariables false

set_option maxHeartbeats 1000000 in
set_option maxRecDepth 100000 in
theorem hist_big (a0 a1 a2 a3 : Option Addr) (n0 n1 n2 n3 c0 c1 c2 c3 : Nat) (ls : List ByteArray) (step : Int) (w : World)
    (A1 : ArgRow w a1 n1 (fun i => .string (ls.getD i ByteArray.empty)))
    (h0 : n0 ≤ maxLen) (h1 : n1 ≤ maxLen) (h2 : n2 ≤ maxLen) (h3 : n3 ≤ maxLen) (hbig : 4096 < n0 ∨ 4096 < n1 ∨ 4096 < n2 ∨ 4096 < n3) :
    Calls Try.prog 5 #[.slice a0 n0 c0, .slice a1 n1 c1, .slice a2 n2 c2, .slice a3 n3 c3, .int .i64 step] w fun e w' => e = .returned (.bool true) ∧ Below w.heap.size w w' := by
  have HB := hideP (bytes11_any a0 a1 a2 a3 n0 n1 n2 n3 c0 c1 c2 c3 ls step w A1 h0 h1 h2 h3)
  clear A1 h0 h1 h2 h3
  by_cases g0 : 4096 < n0
  all_goals by_cases g1 : 4096 < n1
  all_goals by_cases g2 : 4096 < n2
  all_goals by_cases g3 : 4096 < n3
  all_goals first
    | omega
    | (clear hbig
       go_enter Try.func5, Try.ntmps5
       go_wp2_with fail
       refine HB.out.mono ?_
       rintro e w1 ⟨⟨b, rfl⟩, hw⟩
       subst w1
       cases b
       · go_wp2
         go_ret
         exact ⟨rfl, Below.refl _ _⟩
       · go_wp2
         go_ret
         exact ⟨rfl, Below.refl _ _⟩)

set_option maxHeartbeats 1000000 in
set_option maxRecDepth 100000 in
theorem hist_ne (a0 a1 a2 a3 : Option Addr) (n0 n1 n2 n3 c0 c1 c2 c3 : Nat) (ls : List ByteArray) (step : Int) (w : World)
    (A1 : ArgRow w a1 n1 (fun i => .string (ls.getD i ByteArray.empty)))
    (h0 : n0 ≤ maxLen) (h1 : n1 ≤ maxLen) (h2 : n2 ≤ maxLen) (h3 : n3 ≤ maxLen) (s0 : n0 ≤ 4096) (s1 : n1 ≤ 4096) (s2 : n2 ≤ 4096) (s3 : n3 ≤ 4096) (hne : ((n1 : Int) != (n0 : Int)) = true ∨ (((n1 : Int) != (n0 : Int)) = false ∧ ((n3 : Int) != (n2 : Int)) = true)) :
    Calls Try.prog 5 #[.slice a0 n0 c0, .slice a1 n1 c1, .slice a2 n2 c2, .slice a3 n3 c3, .int .i64 step] w fun e w' => e = .returned (.bool true) ∧ Below w.heap.size w w' := by
  have HB := hideP (bytes11_any a0 a1 a2 a3 n0 n1 n2 n3 c0 c1 c2 c3 ls step w A1 h0 h1 h2 h3)
  have HA1 := hideP A1
  clear A1 h0 h1 h2 h3
  rcases hne with hne | ⟨hne, hne2⟩
  all_goals
    go_enter Try.func5, Try.ntmps5
    go_wp2_with fail
    refine HB.out.mono ?_
    rintro e w1 ⟨⟨b, rfl⟩, hw⟩
    subst w1
    cases b
    · go_wp2
      go_ret
      exact ⟨rfl, Below.refl _ _⟩
    go_wp2
    go_loop [11, 12] (fun z i => ∃ (k : Nat) (x : Int), k ≤ n1 ∧ i = .int .i64 k ∧ z = .int .i64 x) (fun _ i => n1 - (intOf i).toNat)
    case atStart => exact ⟨0, _, Nat.zero_le _, rfl, rfl⟩
    case round =>
      obtain ⟨k, x, hk, rfl, rfl⟩ := hrel
      by_cases hlt : k < n1
      · obtain ⟨b1, o1, ha1, hb1, hc1⟩ := HA1.out k hlt
        subst ha1
        have d1 : w.cell? ⟨b1, o1 + k, none⟩ = some (.string (ls.getD k ByteArray.empty)) := hc1 k hlt
        generalize ls.getD k ByteArray.empty = lb at d1
        clear hc1
        have hkz : (k : Int) < (n1 : Int) := by omega
        go_wp2
        · go_ret; exact ⟨rfl, Below.refl _ _⟩
        go_round
        case rel => exact ⟨k + 1, _, by omega, by go_num, rfl⟩
        case measure => simp [intOf]; omega
      · go_wp2
        go_ret
        exact ⟨rfl, Below.refl _ _⟩

theorem hist_any (a0 a1 a2 a3 : Option Addr) (n1 n3 c0 c1 c2 c3 : Nat) (ms ts : List Int) (ls : List ByteArray) (fs : List Nat) (step : Int) (w : World)
    (A0 : ArgRow w a0 ms.length (fun i => .int .i64 (ms.getD i 0))) (A1 : ArgRow w a1 n1 (fun i => .string (ls.getD i ByteArray.empty)))
    (A2 : ArgRow w a2 ts.length (fun i => .int .i64 (ts.getD i 0))) (A3 : ArgRow w a3 n3 (fun i => .float .f64 (fs.getD i 0)))
    (B0 : ∀ i, -9223372036854775808 ≤ ms.getD i 0 ∧ ms.getD i 0 ≤ 9223372036854775807) (B2 : ∀ i, -9223372036854775808 ≤ ts.getD i 0 ∧ ts.getD i 0 ≤ 9223372036854775807)
    (h0 : ms.length ≤ maxLen) (h1 : n1 ≤ maxLen) (h2 : ts.length ≤ maxLen) (h3 : n3 ≤ maxLen) :
    Calls Try.prog 5 #[.slice a0 ms.length c0, .slice a1 n1 c1, .slice a2 ts.length c2, .slice a3 n3 c3, .int .i64 step] w fun e w' => e = .returned (.bool true) ∧ Below w.heap.size w w' := by
  by_cases hbig : 4096 < ms.length ∨ 4096 < n1 ∨ 4096 < ts.length ∨ 4096 < n3
  · exact hist_big a0 a1 a2 a3 _ n1 _ n3 c0 c1 c2 c3 ls step w A1 h0 h1 h2 h3 hbig
  · by_cases e1 : n1 = ms.length
    · by_cases e3 : n3 = ts.length
      · exact hist_walk a0 a1 a2 a3 n1 n3 c0 c1 c2 c3 ms ts ls fs step w A0 A1 A2 A3 B0 B2 h0 h1 h2 h3 (by omega) (by omega) (by omega) (by omega) e1 e3
      · exact hist_ne a0 a1 a2 a3 _ n1 _ n3 c0 c1 c2 c3 ls step w A1 h0 h1 h2 h3 (by omega) (by omega) (by omega) (by omega) (Or.inr ⟨by rw [e1]; simp, by rw [bne_iff_ne]; omega⟩)
    · exact hist_ne a0 a1 a2 a3 _ n1 _ n3 c0 c1 c2 c3 ls step w A1 h0 h1 h2 h3 (by omega) (by omega) (by omega) (by omega) (Or.inl (by rw [bne_iff_ne]; omega))
end Go.Proofs.Qxb6614303a
