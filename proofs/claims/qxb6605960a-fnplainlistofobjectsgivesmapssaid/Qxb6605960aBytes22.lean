import Derived.Test.Qxb6605960aRowsIn
import Derived.Test.Qxb6605960aBytes17
namespace Go.Proofs.Qxb6605960a
open Go.RowKit
set_option linter.unusedVariables false

set_option maxRecDepth 100000 in
set_option maxHeartbeats 2000000 in
theorem bytes22 (a0 a1 : Option Addr) (b0 o0 l0 c0 b1 o1 l1 c1 : Nat) (ns vs : List (List ByteArray)) (w : World) (h0 : InRows w a0 b0 o0 l0 c0 ns) (h1 : InRows w a1 b1 o1 l1 c1 vs) (m0 : l0 ≤ 9223372036854775807) (m1 : l1 ≤ 9223372036854775807) :
    Calls Try.prog 22 #[.slice a0 l0 c0, .slice a1 l1 c1] w fun e w' => IsB e ∧ w = w' := by
  have H0 := hide h0
  have H1 := hide h1
  clear h0 h1
  by_cases g0 : 1048576 < l0
  · go_enter Try.func22, Try.ntmps22
    go_wp2
    go_ret
    exact ⟨⟨false, rfl⟩, rfl⟩
  · go_enter Try.func22, Try.ntmps22
    go_wp2
    go_loop [5, 6, 7] (fun t i _ => ∃ k tot : Nat, k ≤ l0 ∧ tot ≤ 1048576 ∧ i = .int .i64 k ∧ t = .int .i64 tot) (fun _ i _ => l0 - (intOf i).toNat)
    case atStart => exact ⟨0, l0, Nat.zero_le _, by omega, rfl, by first | rfl | go_num | simp⟩
    case round =>
      obtain ⟨k, tot, hk, ht, rfl, rfl⟩ := hrel
      by_cases hlt : k < l0
      · obtain ⟨r, ra, rb, ro, rc, _, ha, hc, hIn, hrl⟩ := H0.out.at k hlt
        have HIn := hide hIn
        clear hIn
        subst ha
        by_cases q1 : 1048576 < r.length
        · go_wp2
          go_ret
          exact ⟨⟨false, rfl⟩, rfl⟩
        · by_cases q2 : 1048576 < tot + r.length
          · go_wp2
            go_ret
            exact ⟨⟨false, rfl⟩, rfl⟩
          · go_wp2
            go_loop [5, 7] (fun t i => ∃ j tot : Nat, j ≤ r.length ∧ tot ≤ 1048576 ∧ i = .int .i64 j ∧ t = .int .i64 tot) (fun _ i => r.length - (intOf i).toNat)
            case atStart => exact ⟨0, tot + r.length, Nat.zero_le _, by omega, rfl, by first | rfl | go_num⟩
            case round =>
              clear q1 q2 ht
              obtain ⟨j, tot2, hj, ht, rfl, rfl⟩ := hrel
              by_cases hlj : j < r.length
              · obtain ⟨x, _, hra, hcx, hsz⟩ := HIn.out.at j hlj
                subst hra
                by_cases q1 : 1048576 < x.size
                · go_wp2
                  go_ret
                  exact ⟨⟨false, rfl⟩, rfl⟩
                · by_cases q2 : 1048576 < tot2 + x.size
                  · go_wp2
                    go_ret
                    exact ⟨⟨false, rfl⟩, rfl⟩
                  · go_wp2
                    go_round
                    case rel => exact ⟨j + 1, tot2 + x.size, by omega, by omega, by go_num, by go_num⟩
                    case measure => simp [intOf]; omega
              · go_wp2
                go_round
                case rel => exact ⟨k + 1, tot2, by omega, by omega, by go_num, rfl⟩
                case measure => simp [intOf]; omega
      · by_cases q1 : 1048576 < l1
        · go_wp2
          go_ret
          exact ⟨⟨false, rfl⟩, rfl⟩
        · by_cases q2 : 1048576 < tot + l1
          · go_wp2
            go_ret
            exact ⟨⟨false, rfl⟩, rfl⟩
          · go_wp2
            go_loop [5, 8, 9] (fun t i _ => ∃ k tot : Nat, k ≤ l1 ∧ tot ≤ 1048576 ∧ i = .int .i64 k ∧ t = .int .i64 tot) (fun _ i _ => l1 - (intOf i).toNat)
            case atStart => exact ⟨0, tot + l1, Nat.zero_le _, by omega, rfl, by first | rfl | go_num | simp⟩
            case round =>
              obtain ⟨k, tot, hk, ht, rfl, rfl⟩ := hrel
              by_cases hlt : k < l1
              · obtain ⟨r, ra, rb, ro, rc, _, ha, hc, hIn, hrl⟩ := H1.out.at k hlt
                have HIn := hide hIn
                clear hIn
                subst ha
                by_cases q1 : 1048576 < r.length
                · go_wp2
                  go_ret
                  exact ⟨⟨false, rfl⟩, rfl⟩
                · by_cases q2 : 1048576 < tot + r.length
                  · go_wp2
                    go_ret
                    exact ⟨⟨false, rfl⟩, rfl⟩
                  · go_wp2
                    go_loop [5, 9] (fun t i => ∃ j tot : Nat, j ≤ r.length ∧ tot ≤ 1048576 ∧ i = .int .i64 j ∧ t = .int .i64 tot) (fun _ i => r.length - (intOf i).toNat)
                    case atStart => exact ⟨0, tot + r.length, Nat.zero_le _, by omega, rfl, by first | rfl | go_num⟩
                    case round =>
                      clear q1 q2 ht
                      obtain ⟨j, tot2, hj, ht, rfl, rfl⟩ := hrel
                      by_cases hlj : j < r.length
                      · obtain ⟨x, _, hra, hcx, hsz⟩ := HIn.out.at j hlj
                        subst hra
                        by_cases q1 : 1048576 < x.size
                        · go_wp2
                          go_ret
                          exact ⟨⟨false, rfl⟩, rfl⟩
                        · by_cases q2 : 1048576 < tot2 + x.size
                          · go_wp2
                            go_ret
                            exact ⟨⟨false, rfl⟩, rfl⟩
                          · go_wp2
                            go_round
                            case rel => exact ⟨j + 1, tot2 + x.size, by omega, by omega, by go_num, by go_num⟩
                            case measure => simp [intOf]; omega
                      · go_wp2
                        go_round
                        case rel => exact ⟨k + 1, tot2, by omega, by omega, by go_num, rfl⟩
                        case measure => simp [intOf]; omega
              · go_wp2
                go_ret
                exact ⟨⟨true, rfl⟩, rfl⟩
end Go.Proofs.Qxb6605960a
