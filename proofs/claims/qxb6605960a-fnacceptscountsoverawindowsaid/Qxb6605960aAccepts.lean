import Derived.Test.Qxb6605960aRows
import Derived.WalkKit
import Derived.ProofKit
import Derived.OpenShut
import Derived.ShutString
import Derived.ChangeOld
import Derived.Below
import Derived.WalkSpells
import Derived.WalkSmall
import Derived.Laws.BitsAllLaws
namespace Go.Proofs.Qxb6605960a
open Go.ChangeShapes Go.WideShapes Go.ChangeAt Go.RowKit

/-- What '(*function).accepts' answers. -/
def accB (mn mx : Int) (odd : Bool) (x : Int) : Bool := decide (mn ≤ x ∧ x ≤ mx ∧ (odd = false ∨ x.tmod 2 = 1))

theorem accB_lo {mn mx : Int} {odd : Bool} {x : Int} (h : x < mn) : accB mn mx odd x = false := by
  simp only [accB, decide_eq_false_iff_not]; omega
theorem accB_hi {mn mx : Int} {odd : Bool} {x : Int} (h : mx < x) : accB mn mx odd x = false := by
  simp only [accB, decide_eq_false_iff_not]; omega
theorem accB_plain {mn mx x : Int} (h1 : mn ≤ x) (h2 : x ≤ mx) : accB mn mx false x = true := by
  simp [accB, h1, h2]
theorem accB_odd {mn mx x : Int} (h1 : mn ≤ x) (h2 : x ≤ mx) : accB mn mx true x = (x.tmod 2 == 1) := by
  simp [accB, h1, h2]; rfl

/-- A function's three fields that 'accepts' reads. -/
structure Fn3 (w : World) (b : Nat) (mn mx : Int) (odd : Bool) : Prop where
  c1 : w.cell? ⟨b, 1, none⟩ = some (.int .i64 mn)
  c2 : w.cell? ⟨b, 2, none⟩ = some (.int .i64 mx)
  c3 : w.cell? ⟨b, 3, none⟩ = some (.bool odd)

theorem ret_b {a b : Bool} (h : a = b) : Ending.returned (.bool a) = .returned (.bool b) := by rw [h]

set_option maxRecDepth 100000 in
set_option maxHeartbeats 400000 in
theorem accepts_any (b : Nat) (mn mx : Int) (odd : Bool) (x : Int) (w : World) (h : Fn3 w b mn mx odd) :
    Calls Try.prog 26 #[.pointer (some ⟨b, 0, none⟩), .int .i64 x] w fun e w' => e = .returned (.bool (accB mn mx odd x)) ∧ w = w' := by
  obtain ⟨c1, c2, c3⟩ := h
  by_cases h1 : mn ≤ x
  · by_cases h2 : x ≤ mx
    · cases odd with
      | false =>
        go_enter Try.func26, Try.ntmps26
        go_wp2
        go_ret
        exact ⟨ret_b (accB_plain h1 h2).symm, rfl⟩
      | true =>
        go_enter Try.func26, Try.ntmps26
        go_wp2
        go_ret
        exact ⟨ret_b (accB_odd h1 h2).symm, rfl⟩
    · go_enter Try.func26, Try.ntmps26
      go_wp2
      go_ret
      exact ⟨ret_b (accB_hi (by omega)).symm, rfl⟩
  · go_enter Try.func26, Try.ntmps26
    go_wp2
    go_ret
    exact ⟨ret_b (accB_lo (by omega)).symm, rfl⟩

set_option maxRecDepth 100000 in
theorem zzAccepts_any (b : Nat) (mn mx : Int) (odd : Bool) (x : Int) (w : World) (h : Fn3 w b mn mx odd) :
    Calls Try.prog 14 #[.pointer (some ⟨b, 0, none⟩), .int .i64 x] w fun e w' => e = .returned (.bool (accB mn mx odd x)) ∧ w = w' := by
  go_enter Try.func14, Try.ntmps14
  go_wp2_with fail
  refine (accepts_any b mn mx odd x w h).mono ?_
  rintro e w' ⟨rfl, rfl⟩
  go_wp2
  go_ret
  exact ⟨rfl, rfl⟩

set_option maxRecDepth 100000 in
theorem zzNew_any (s : ByteArray) (mn mx : Int) (odd rs : Bool) (hd : Int) (w : World) :
    Calls Try.prog 13 #[.string s, .int .i64 mn, .int .i64 mx, .bool odd, .bool rs, .int .i64 hd] w fun e w' =>
      e = .returned (.pointer (some ⟨w.heap.size, 0, none⟩)) ∧ w.heap.size < w'.heap.size ∧ Fn3 w' w.heap.size mn mx odd ∧ Below w.heap.size w w' := by
  go_enter Try.func13, Try.ntmps13
  go_wp2
  go_ret
  exact ⟨rfl, by simp, ⟨by rw [World.cell?_alloc_at _ _ _ _ rfl]; rfl, by rw [World.cell?_alloc_at _ _ _ _ rfl]; rfl, by rw [World.cell?_alloc_at _ _ _ _ rfl]; rfl⟩, (Below.refl _ _).alloc (Nat.le_refl _) _⟩
end Go.Proofs.Qxb6605960a
