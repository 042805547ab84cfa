import Derived.Test.Qxb6605960aToggle
import Derived.WalkSmall
namespace Go.Proofs.Qxb6605960a
open Go.ChangeShapes Go.WideShapes Go.ChangeAt Go.RowKit

theorem own_cell {w : World} {base : Nat} {e : TypeId} {g n cap : Nat} {xs : List Value} (h : w.ownsRow base e 1 (.slice (some ⟨g, 0, none⟩) n cap) n xs) (j : Nat) (u : Value) (hj : xs[j]? = some u) : w.cell? ⟨g, j, none⟩ = some u := by
  have := h.cells (g := g) rfl j u hj
  by_cases h0 : j = 0
  · subst h0; simpa [Addr.add] using this
  · simpa [Addr.add, h0] using this

set_option maxRecDepth 100000 in
set_option maxHeartbeats 400000 in
theorem orders_lt (a0 a1 a2 a3 : Int) (la0 : 0 ≤ a0) (ua0 : a0 ≤ 65535) (la1 : 0 ≤ a1) (ua1 : a1 ≤ 63) (la2 : 0 ≤ a2) (ua2 : a2 ≤ 65535) (la3 : 0 ≤ a3) (ua3 : a3 ≤ 63) (hlt : a0 < a2) (w : World) :
    Calls Try.prog 4 #[.int .i32 a0, .int .i64 a1, .int .i32 a2, .int .i64 a3] w fun e w' => e = .returned (.bool true) ∧ Below w.heap.size w w' := by
  go_enter Try.func4, Try.ntmps4
  go_wp2_with fail
  refine (zzAppend_in a0 a1 la0 ua0 la1 ua1 w.heap.size _ 0 [] w (World.ownsRow_nil _ _ _ _) (by omega) (Nat.le_refl _)).mono ?_
  rintro e W1 ⟨g1, c1, rfl, o1, b1⟩
  go_wp2_with fail
  refine (zzAppend_in a2 a3 la2 ua2 la3 ua3 w.heap.size _ 1 _ W1 o1 (by omega) b1.size).mono ?_
  rintro e W2 ⟨g2, c2, rfl, o2, b2⟩
  have k0 := own_cell o2 0 _ rfl
  have k1 := own_cell o2 1 _ rfl
  have hb := b1.trans b2
  clear o1 o2 b1 b2
  have e1 : decide (a0 * 64 + a1 < a2 * 64 + a3) = true := by simp; omega
  have e2 : (a0 * 64 + a1 == a2 * 64 + a3) = false := by simp; omega
  have e3 : decide (a0 < a2) = true := by simp; omega
  have e4 : (a0 == a2) = false := by simp; omega
  go_wp2_with fail
  go_quiet (fail)
  go_wp2
  go_ret
  exact ⟨rfl, below_drewN hb _⟩

set_option maxRecDepth 100000 in
set_option maxHeartbeats 400000 in
theorem orders_gt (a0 a1 a2 a3 : Int) (la0 : 0 ≤ a0) (ua0 : a0 ≤ 65535) (la1 : 0 ≤ a1) (ua1 : a1 ≤ 63) (la2 : 0 ≤ a2) (ua2 : a2 ≤ 65535) (la3 : 0 ≤ a3) (ua3 : a3 ≤ 63) (hlt : a2 < a0) (w : World) :
    Calls Try.prog 4 #[.int .i32 a0, .int .i64 a1, .int .i32 a2, .int .i64 a3] w fun e w' => e = .returned (.bool true) ∧ Below w.heap.size w w' := by
  go_enter Try.func4, Try.ntmps4
  go_wp2_with fail
  refine (zzAppend_in a0 a1 la0 ua0 la1 ua1 w.heap.size _ 0 [] w (World.ownsRow_nil _ _ _ _) (by omega) (Nat.le_refl _)).mono ?_
  rintro e W1 ⟨g1, c1, rfl, o1, b1⟩
  go_wp2_with fail
  refine (zzAppend_in a2 a3 la2 ua2 la3 ua3 w.heap.size _ 1 _ W1 o1 (by omega) b1.size).mono ?_
  rintro e W2 ⟨g2, c2, rfl, o2, b2⟩
  have k0 := own_cell o2 0 _ rfl
  have k1 := own_cell o2 1 _ rfl
  have hb := b1.trans b2
  clear o1 o2 b1 b2
  have e1 : decide (a0 * 64 + a1 < a2 * 64 + a3) = false := by simp; omega
  have e2 : (a0 * 64 + a1 == a2 * 64 + a3) = false := by simp; omega
  have e3 : decide (a0 < a2) = false := by simp; omega
  have e4 : (a0 == a2) = false := by simp; omega
  go_wp2_with fail
  go_quiet (fail)
  go_wp2
  go_ret
  exact ⟨rfl, below_drewN hb _⟩

set_option maxRecDepth 100000 in
set_option maxHeartbeats 400000 in
theorem orders_eqlt (a0 a1 a3 : Int) (la0 : 0 ≤ a0) (ua0 : a0 ≤ 65535) (la1 : 0 ≤ a1) (ua1 : a1 ≤ 63) (la3 : 0 ≤ a3) (ua3 : a3 ≤ 63) (hlt : a1 < a3) (w : World) :
    Calls Try.prog 4 #[.int .i32 a0, .int .i64 a1, .int .i32 a0, .int .i64 a3] w fun e w' => e = .returned (.bool true) ∧ Below w.heap.size w w' := by
  go_enter Try.func4, Try.ntmps4
  go_wp2_with fail
  refine (zzAppend_in a0 a1 la0 ua0 la1 ua1 w.heap.size _ 0 [] w (World.ownsRow_nil _ _ _ _) (by omega) (Nat.le_refl _)).mono ?_
  rintro e W1 ⟨g1, c1, rfl, o1, b1⟩
  go_wp2_with fail
  refine (zzAppend_in a0 a3 la0 ua0 la3 ua3 w.heap.size _ 1 _ W1 o1 (by omega) b1.size).mono ?_
  rintro e W2 ⟨g2, c2, rfl, o2, b2⟩
  have k0 := own_cell o2 0 _ rfl
  have k1 := own_cell o2 1 _ rfl
  have hb := b1.trans b2
  clear o1 o2 b1 b2
  have e1 : decide (a0 * 64 + a1 < a0 * 64 + a3) = true := by simp; omega
  have e2 : (a0 * 64 + a1 == a0 * 64 + a3) = false := by simp; omega
  have e3 : decide (a1 < a3) = true := by simp; omega
  have e4 : (a1 == a3) = false := by simp; omega
  go_wp2_with fail
  go_quiet (fail)
  go_wp2
  go_ret
  exact ⟨rfl, below_drewN hb _⟩

set_option maxRecDepth 100000 in
set_option maxHeartbeats 400000 in
theorem orders_eqgt (a0 a1 a3 : Int) (la0 : 0 ≤ a0) (ua0 : a0 ≤ 65535) (la1 : 0 ≤ a1) (ua1 : a1 ≤ 63) (la3 : 0 ≤ a3) (ua3 : a3 ≤ 63) (hlt : a3 < a1) (w : World) :
    Calls Try.prog 4 #[.int .i32 a0, .int .i64 a1, .int .i32 a0, .int .i64 a3] w fun e w' => e = .returned (.bool true) ∧ Below w.heap.size w w' := by
  go_enter Try.func4, Try.ntmps4
  go_wp2_with fail
  refine (zzAppend_in a0 a1 la0 ua0 la1 ua1 w.heap.size _ 0 [] w (World.ownsRow_nil _ _ _ _) (by omega) (Nat.le_refl _)).mono ?_
  rintro e W1 ⟨g1, c1, rfl, o1, b1⟩
  go_wp2_with fail
  refine (zzAppend_in a0 a3 la0 ua0 la3 ua3 w.heap.size _ 1 _ W1 o1 (by omega) b1.size).mono ?_
  rintro e W2 ⟨g2, c2, rfl, o2, b2⟩
  have k0 := own_cell o2 0 _ rfl
  have k1 := own_cell o2 1 _ rfl
  have hb := b1.trans b2
  clear o1 o2 b1 b2
  have e1 : decide (a0 * 64 + a1 < a0 * 64 + a3) = false := by simp; omega
  have e2 : (a0 * 64 + a1 == a0 * 64 + a3) = false := by simp; omega
  have e3 : decide (a1 < a3) = false := by simp; omega
  have e4 : (a1 == a3) = false := by simp; omega
  go_wp2_with fail
  go_quiet (fail)
  go_wp2
  go_ret
  exact ⟨rfl, below_drewN hb _⟩

set_option maxRecDepth 100000 in
set_option maxHeartbeats 400000 in
theorem orders_eqeq (a0 a1 : Int) (la0 : 0 ≤ a0) (ua0 : a0 ≤ 65535) (la1 : 0 ≤ a1) (ua1 : a1 ≤ 63)  (w : World) :
    Calls Try.prog 4 #[.int .i32 a0, .int .i64 a1, .int .i32 a0, .int .i64 a1] w fun e w' => e = .returned (.bool true) ∧ Below w.heap.size w w' := by
  go_enter Try.func4, Try.ntmps4
  go_wp2_with fail
  refine (zzAppend_in a0 a1 la0 ua0 la1 ua1 w.heap.size _ 0 [] w (World.ownsRow_nil _ _ _ _) (by omega) (Nat.le_refl _)).mono ?_
  rintro e W1 ⟨g1, c1, rfl, o1, b1⟩
  go_wp2_with fail
  refine (zzAppend_in a0 a1 la0 ua0 la1 ua1 w.heap.size _ 1 _ W1 o1 (by omega) b1.size).mono ?_
  rintro e W2 ⟨g2, c2, rfl, o2, b2⟩
  have k0 := own_cell o2 0 _ rfl
  have k1 := own_cell o2 1 _ rfl
  have hb := b1.trans b2
  clear o1 o2 b1 b2

  go_wp2_with fail
  go_quiet (fail)
  go_wp2
  go_ret
  exact ⟨rfl, below_drewN hb _⟩

set_option maxRecDepth 100000 in
set_option maxHeartbeats 400000 in
theorem orders_first (a0 a1 a2 a3 : Int) (la0 : 0 ≤ a0) (ua0 : a0 ≤ 65535) (la1 : 0 ≤ a1) (ua1 : a1 ≤ 63) (la2 : 0 ≤ a2) (ua2 : 65535 < a2) (la3 : 0 ≤ a3) (ua3 : a3 ≤ 63) (w : World) :
    Calls Try.prog 4 #[.int .i32 a0, .int .i64 a1, .int .i32 a2, .int .i64 a3] w fun e w' => e = .returned (.bool true) ∧ Below w.heap.size w w' := by
  go_enter Try.func4, Try.ntmps4
  go_wp2_with fail
  refine (zzAppend_in a0 a1 la0 ua0 la1 ua1 w.heap.size _ 0 [] w (World.ownsRow_nil _ _ _ _) (by omega) (Nat.le_refl _)).mono ?_
  rintro e W1 ⟨g1, c1, rfl, o1, b1⟩
  go_wp2_with fail
  refine (zzAppend_out a2 a3 ua2 _ W1).mono ?_
  rintro e W2 ⟨rfl, rfl⟩
  go_wp2
  go_ret
  exact ⟨rfl, b1⟩

set_option maxRecDepth 100000 in
set_option maxHeartbeats 400000 in
theorem orders_second (a0 a1 a2 a3 : Int) (la0 : 0 ≤ a0) (ua0 : 65535 < a0) (la1 : 0 ≤ a1) (ua1 : a1 ≤ 63) (la2 : 0 ≤ a2) (ua2 : a2 ≤ 65535) (la3 : 0 ≤ a3) (ua3 : a3 ≤ 63) (w : World) :
    Calls Try.prog 4 #[.int .i32 a0, .int .i64 a1, .int .i32 a2, .int .i64 a3] w fun e w' => e = .returned (.bool true) ∧ Below w.heap.size w w' := by
  go_enter Try.func4, Try.ntmps4
  go_wp2_with fail
  refine (zzAppend_out a0 a1 ua0 _ w).mono ?_
  rintro e W1 ⟨rfl, rfl⟩
  go_wp2_with fail
  refine (zzAppend_in a2 a3 la2 ua2 la3 ua3 _ _ 0 [] _ (World.ownsRow_nil _ _ _ _) (by omega) (Nat.le_refl _)).mono ?_
  rintro e W2 ⟨g1, c1, rfl, o1, b1⟩
  go_wp2
  go_ret
  exact ⟨rfl, b1⟩

set_option maxRecDepth 100000 in
set_option maxHeartbeats 400000 in
theorem orders_neither (a0 a1 a2 a3 : Int) (la0 : 0 ≤ a0) (ua0 : 65535 < a0) (la1 : 0 ≤ a1) (ua1 : a1 ≤ 63) (la2 : 0 ≤ a2) (ua2 : 65535 < a2) (la3 : 0 ≤ a3) (ua3 : a3 ≤ 63) (w : World) :
    Calls Try.prog 4 #[.int .i32 a0, .int .i64 a1, .int .i32 a2, .int .i64 a3] w fun e w' => e = .returned (.bool true) ∧ Below w.heap.size w w' := by
  go_enter Try.func4, Try.ntmps4
  go_wp2_with fail
  refine (zzAppend_out a0 a1 ua0 _ w).mono ?_
  rintro e W1 ⟨rfl, rfl⟩
  go_wp2_with fail
  refine (zzAppend_out a2 a3 ua2 _ _).mono ?_
  rintro e W2 ⟨rfl, rfl⟩
  go_wp2
  go_ret
  exact ⟨rfl, Below.refl _ _⟩

set_option maxRecDepth 100000 in
set_option maxHeartbeats 400000 in
theorem orders_early (a0 a1 a2 a3 : Int) (h : a0 < 0 ∨ a2 < 0 ∨ a1 < 0 ∨ 63 < a1 ∨ a3 < 0 ∨ 63 < a3) (w : World) :
    Calls Try.prog 4 #[.int .i32 a0, .int .i64 a1, .int .i32 a2, .int .i64 a3] w fun e w' => e = .returned (.bool true) ∧ Below w.heap.size w w' := by
  have e1 : (decide (a0 < 0) || decide (a2 < 0) || decide (a1 < 0) || decide (63 < a1) || decide (a3 < 0) || decide (63 < a3)) = true := by simp; omega
  clear h
  go_enter Try.func4, Try.ntmps4
  go_wp2
  all_goals go_ret
  all_goals exact ⟨rfl, Below.refl _ _⟩

theorem orders_walk (a0 a1 a2 a3 : Int) (w : World) :
    Calls Try.prog 4 #[.int .i32 a0, .int .i64 a1, .int .i32 a2, .int .i64 a3] w fun e w' => e = .returned (.bool true) ∧ Below w.heap.size w w' := by
  by_cases h : a0 < 0 ∨ a2 < 0 ∨ a1 < 0 ∨ 63 < a1 ∨ a3 < 0 ∨ 63 < a3
  · exact orders_early a0 a1 a2 a3 h w
  · by_cases i1 : a0 ≤ 65535
    · by_cases i2 : a2 ≤ 65535
      · rcases Int.lt_trichotomy a0 a2 with c | c | c
        · exact orders_lt a0 a1 a2 a3 (by omega) (by omega) (by omega) (by omega) (by omega) (by omega) (by omega) (by omega) c w
        · subst c
          rcases Int.lt_trichotomy a1 a3 with d | d | d
          · exact orders_eqlt a0 a1 a3 (by omega) (by omega) (by omega) (by omega) (by omega) (by omega) d w
          · subst d
            exact orders_eqeq a0 a1 (by omega) (by omega) (by omega) (by omega) w
          · exact orders_eqgt a0 a1 a3 (by omega) (by omega) (by omega) (by omega) (by omega) (by omega) d w
        · exact orders_gt a0 a1 a2 a3 (by omega) (by omega) (by omega) (by omega) (by omega) (by omega) (by omega) (by omega) c w
      · exact orders_first a0 a1 a2 a3 (by omega) (by omega) (by omega) (by omega) (by omega) (by omega) (by omega) (by omega) w
    · by_cases i2 : a2 ≤ 65535
      · exact orders_second a0 a1 a2 a3 (by omega) (by omega) (by omega) (by omega) (by omega) (by omega) (by omega) (by omega) w
      · exact orders_neither a0 a1 a2 a3 (by omega) (by omega) (by omega) (by omega) (by omega) (by omega) (by omega) (by omega) w
end Go.Proofs.Qxb6605960a
