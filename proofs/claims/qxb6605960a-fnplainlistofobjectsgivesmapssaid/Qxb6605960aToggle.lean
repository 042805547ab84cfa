import Derived.Test.Qxb6605960aRows
import Derived.WalkKit
import Derived.ProofKit
import Derived.OpenShut
import Derived.ShutString
import Derived.ChangeOld
import Derived.Below
import Derived.WalkSpells
import Derived.Maps.AppendAt
import Derived.BigQuiet
import Derived.Deep.QuietTactic
import Derived.Laws.BitsAllLaws
namespace Go.Proofs.Qxb6605960a
open Go.ChangeShapes Go.WideShapes Go.ChangeAt Go.RowKit

theorem Try.info26 : (Try.prog.info? 26).map (fun i => (i.zero, i.size, i.bytes)) = some (some (.int .u32 0), 1, 4) := by kernel_rfl

theorem or_shift (a b : Nat) (hb : b ≤ 63) : a * 64 ||| b = a * 64 + b := by
  have := Nat.two_pow_add_eq_or_of_lt (i := 6) (b := b) (by omega) a
  rw [show a * 64 = 2 ^ 6 * a by omega]
  exact this.symm

theorem or_toggle (at_ bit : Int) (ha0 : 0 ≤ at_) (ha1 : at_ ≤ 65535) (hb0 : 0 ≤ bit) (hb1 : bit ≤ 63) : bits .or .u32 (at_ * 64) bit = at_ * 64 + bit := by
  rw [u32_or _ _ (by omega) (by omega) hb0 (by omega)]
  obtain ⟨a, rfl⟩ := Int.eq_ofNat_of_zero_le ha0
  obtain ⟨b, rfl⟩ := Int.eq_ofNat_of_zero_le hb0
  have h := or_shift a b (by omega)
  have e : ((a : Int) * 64).toNat = a * 64 := by omega
  rw [e, Int.toNat_natCast, h]
  omega

theorem own_succ {w : World} {base : Nat} {e : TypeId} {size : Nat} {v : Value} {n : Nat} {xs : List Value} (h : w.ownsRow base e size v (n + 1) xs) : ∃ g cap, v = .slice (some ⟨g, 0, none⟩) (n + 1) cap := by
  rcases h.2 with ⟨_, h0⟩ | ⟨g, cap, cur, rfl, _⟩
  · omega
  · exact ⟨g, cap, rfl⟩

/-- What a call owns lies at or above its base. -/
theorem own_base {w : World} {base : Nat} {e : TypeId} {size : Nat} {v : Value} {n : Nat} {xs : List Value} (h : w.ownsRow base e size v n xs) {k : Nat} (hk : v.ownBlock = some k) : base ≤ k := by
  rcases h.2 with ⟨rfl, _⟩ | ⟨g, cap, cur, rfl, hg, _⟩
  · simp [Value.ownBlock] at hk
  · simp [Value.ownBlock] at hk; omega

set_option maxRecDepth 100000 in
set_option maxHeartbeats 400000 in
/-- 'appendToggle' at a unit: one entry more, in the call's own row. -/
theorem appendToggle_in (at_ bit : Int) (ha0 : 0 ≤ at_) (ha1 : at_ ≤ 65535) (hb0 : 0 ≤ bit) (hb1 : bit ≤ 63) (base : Nat) (v : Value) (n : Nat) (xs : List Value) (w : World)
    (hown : w.ownsRow base 26 1 v n xs) (hn : n ≤ 1048576) (hbase : base ≤ w.heap.size) :
    Calls Try.prog 25 #[v, .int .i32 at_, .int .i64 bit] w fun e w' =>
      ∃ v', e = .returned v' ∧ w'.ownsRow base 26 1 v' (n + 1) (xs ++ [.int .u32 (at_ * 64 + bit)]) ∧ Below base w w' := by
  obtain ⟨i0, hi, hz0, hz1, hz2⟩ := info_parts Try.info26
  have hor := or_toggle at_ bit ha0 ha1 hb0 hb1
  go_enter Try.func25, Try.ntmps25
  go_wp2_with (at_builtin; refine wpList_append_own _ rfl _ _ 22 rfl base 26 i0 (.int .u32 0) 1 4 Try.underlying22 hi hz0 hz1 hz2 rfl (by decide) _ _ _ rfl (hown.alloc _) ⟨w.heap.size, 0, none⟩ 1 1 [.int .u32 (at_ * 64 + bit)] rfl rfl (cell_one_new _ _ _) (fun x hx => by simp at hx; subst hx; rfl) (by unfold maxLen; omega) (by omega) (by simp; omega) ?_; intro v' w3 hown' hgrow3 hnil3)
  go_ret
  exact ⟨v', rfl, hown', ((Below.refl base w).alloc hbase _).grown hgrow3 (by simp; omega) (fun k hk => own_base hown hk)⟩

set_option maxRecDepth 100000 in
theorem appendToggle_out (at_ bit : Int) (ha1 : 65535 < at_) (v : Value) (w : World) :
    Calls Try.prog 25 #[v, .int .i32 at_, .int .i64 bit] w fun e w' => e = .returned v ∧ w' = w := by
  go_enter Try.func25, Try.ntmps25
  go_wp2
  go_ret
  exact ⟨rfl, rfl⟩

set_option maxRecDepth 100000 in
theorem zzAppend_in (at_ bit : Int) (ha0 : 0 ≤ at_) (ha1 : at_ ≤ 65535) (hb0 : 0 ≤ bit) (hb1 : bit ≤ 63) (base : Nat) (v : Value) (n : Nat) (xs : List Value) (w : World)
    (hown : w.ownsRow base 26 1 v n xs) (hn : n ≤ 1048576) (hbase : base ≤ w.heap.size) :
    Calls Try.prog 11 #[v, .int .i32 at_, .int .i64 bit] w fun e w' =>
      ∃ g cap, e = .returned (.slice (some ⟨g, 0, none⟩) (n + 1) cap) ∧ w'.ownsRow base 26 1 (.slice (some ⟨g, 0, none⟩) (n + 1) cap) (n + 1) (xs ++ [.int .u32 (at_ * 64 + bit)]) ∧ Below base w w' := by
  go_enter Try.func11, Try.ntmps11
  go_wp2_with fail
  refine (appendToggle_in at_ bit ha0 ha1 hb0 hb1 base v n xs w hown hn hbase).mono ?_
  rintro e w' ⟨v', rfl, h1, h2⟩
  obtain ⟨g, cap, rfl⟩ := own_succ h1
  go_wp2
  go_ret
  exact ⟨g, cap, rfl, h1, h2⟩

set_option maxRecDepth 100000 in
theorem zzAppend_out (at_ bit : Int) (ha1 : 65535 < at_) (v : Value) (w : World) :
    Calls Try.prog 11 #[v, .int .i32 at_, .int .i64 bit] w fun e w' => e = .returned v ∧ w' = w := by
  go_enter Try.func11, Try.ntmps11
  go_wp2_with fail
  refine (appendToggle_out at_ bit ha1 v w).mono ?_
  rintro e w' ⟨rfl, rfl⟩
  go_wp2
  go_ret
  exact ⟨rfl, rfl⟩
end Go.Proofs.Qxb6605960a
