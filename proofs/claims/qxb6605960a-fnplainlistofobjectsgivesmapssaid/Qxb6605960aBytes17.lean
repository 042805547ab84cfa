import Derived.Test.Qxb6605960aObjIn
namespace Go.Proofs.Qxb6605960a
open Go.RowKit
set_option linter.unusedVariables false

/-- The call has returned a bool. -/
def IsB (e : Ending) : Prop := ∃ b, e = .returned (.bool b)

set_option maxRecDepth 100000 in
set_option maxHeartbeats 1000000 in
theorem bytes17 (a0 a1 : Option Addr) (b0 o0 l0 c0 b1 o1 l1 c1 : Nat) (ns vs : List ByteArray) (w : World) (h0 : InStr w a0 b0 o0 l0 c0 ns) (h1 : InStr w a1 b1 o1 l1 c1 vs) (m0 : l0 ≤ 9223372036854775807) (m1 : l1 ≤ 9223372036854775807) :
    Calls Try.prog 17 #[.slice a0 l0 c0, .slice a1 l1 c1] w fun e w' => IsB e ∧ w = w' := by
  have H0 := hide h0
  have H1 := hide h1
  clear h0 h1
  by_cases g0 : 1048576 < l0
  · go_enter Try.func17, Try.ntmps17
    go_wp2
    go_ret
    exact ⟨⟨false, rfl⟩, rfl⟩
  · go_enter Try.func17, Try.ntmps17
    go_wp2
    go_loop [5, 6] (fun t i => ∃ k tot : Nat, k ≤ l0 ∧ tot ≤ 1048576 ∧ i = .int .i64 k ∧ t = .int .i64 tot) (fun _ i => l0 - (intOf i).toNat)
    case atStart => exact ⟨0, l0, Nat.zero_le _, by omega, rfl, by simp⟩
    case round =>
      obtain ⟨k, tot, hk, ht, rfl, rfl⟩ := hrel
      by_cases hlt : k < l0
      · obtain ⟨x, _, ha, hc, hsz⟩ := H0.out.at k hlt
        subst ha
        by_cases q1 : 1048576 < x.size
        · go_wp2
          go_ret
          exact ⟨⟨false, rfl⟩, rfl⟩
        · by_cases q2 : 1048576 < tot + x.size
          · go_wp2
            go_ret
            exact ⟨⟨false, rfl⟩, rfl⟩
          · go_wp2
            go_round
            case rel => exact ⟨k + 1, tot + x.size, by omega, by omega, by go_num, by go_num⟩
            case measure => simp [intOf]; omega
      · by_cases q1 : 1048576 < l1
        · go_wp2
          go_ret
          exact ⟨⟨false, rfl⟩, rfl⟩
        · by_cases q2 : 1048576 < tot + l1
          · go_wp2
            go_ret
            exact ⟨⟨false, rfl⟩, rfl⟩
          · go_wp2
            go_loop [5, 7] (fun t i => ∃ k tot : Nat, k ≤ l1 ∧ tot ≤ 1048576 ∧ i = .int .i64 k ∧ t = .int .i64 tot) (fun _ i => l1 - (intOf i).toNat)
            case atStart => exact ⟨0, tot + l1, Nat.zero_le _, by omega, rfl, by go_num⟩
            case round =>
              clear q1 q2 ht
              obtain ⟨j, tot2, hj, ht, rfl, rfl⟩ := hrel
              by_cases hlt1 : j < l1
              · obtain ⟨x, _, ha, hc, hsz⟩ := H1.out.at j hlt1
                subst ha
                by_cases q1 : 1048576 < x.size
                · go_wp2
                  go_ret
                  exact ⟨⟨false, rfl⟩, rfl⟩
                · by_cases q2 : 1048576 < tot2 + x.size
                  · go_wp2
                    go_ret
                    exact ⟨⟨false, rfl⟩, rfl⟩
                  · go_wp2
                    go_round
                    case rel => exact ⟨j + 1, tot2 + x.size, by omega, by omega, by go_num, by go_num⟩
                    case measure => simp [intOf]; omega
              · go_wp2
                go_ret
                exact ⟨⟨true, rfl⟩, rfl⟩
end Go.Proofs.Qxb6605960a
