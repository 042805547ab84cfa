import Derived.Test.Qxb6605960aBytes22
namespace Go.Proofs.Qxb6605960a
open Go.RowKit
set_option linter.unusedVariables false

set_option maxRecDepth 100000 in
set_option maxHeartbeats 2000000 in
theorem law8_early (a0 a1 : Option Addr) (b0 o0 l0 c0 b1 o1 l1 c1 : Nat) (ns vs : List (List ByteArray)) (w : World) (h0 : InRows w a0 b0 o0 l0 c0 ns) (h1 : InRows w a1 b1 o1 l1 c1 vs) (m0 : l0 ≤ 9223372036854775807) (m1 : l1 ≤ 9223372036854775807) (hl : 4096 < l0 ∨ 4096 < l1) :
    Calls Try.prog 8 #[.slice a0 l0 c0, .slice a1 l1 c1] w fun e w' => e = .returned (.bool true) ∧ Below w.heap.size w w' := by
  have H0 := hide h0
  have H1 := hide h1
  clear h0 h1
  by_cases g0 : 4096 < l0
  · clear hl
    go_enter Try.func8, Try.ntmps8
    go_wp2_with fail
    refine (bytes22 a0 a1 b0 o0 l0 c0 b1 o1 l1 c1 ns vs w H0.out H1.out m0 m1).mono ?_
    rintro e w' ⟨⟨b, rfl⟩, rfl⟩
    cases b with
    | false =>
      go_wp2
      go_ret
      exact ⟨rfl, Below.refl _ _⟩
    | true =>
      go_wp2
      go_ret
      exact ⟨rfl, Below.refl _ _⟩
  · have g1 : 4096 < l1 := by omega
    clear hl
    go_enter Try.func8, Try.ntmps8
    go_wp2_with fail
    refine (bytes22 a0 a1 b0 o0 l0 c0 b1 o1 l1 c1 ns vs w H0.out H1.out m0 m1).mono ?_
    rintro e w' ⟨⟨b, rfl⟩, rfl⟩
    cases b with
    | false =>
      go_wp2
      go_ret
      exact ⟨rfl, Below.refl _ _⟩
    | true =>
      go_wp2
      go_ret
      exact ⟨rfl, Below.refl _ _⟩

end Go.Proofs.Qxb6605960a
