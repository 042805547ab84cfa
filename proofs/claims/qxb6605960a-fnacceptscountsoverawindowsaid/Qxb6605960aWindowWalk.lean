import Derived.Test.Qxb6605960aAccepts
namespace Go.Proofs.Qxb6605960a
open Go.ChangeShapes Go.WideShapes Go.ChangeAt Go.RowKit
set_option linter.unusedVariables false

/-- What 'zzAcceptedIn' answers: the closed form. -/
def accIn (mn mx : Int) (odd : Bool) (lo hi : Int) : Int :=
  if odd = true then
    (if min hi mx < max (max lo mn) 1 then 0 else (min hi mx + 1) / 2 - max (max lo mn) 1 / 2)
  else
    (if min hi mx < max lo mn then 0 else min hi mx - max lo mn + 1)

theorem accIn_start (mn mx : Int) (odd : Bool) (lo : Int) : accIn mn mx odd lo (lo - 1) = 0 := by
  unfold accIn
  split
  · rw [if_pos (by omega)]
  · rw [if_pos (by omega)]

theorem tmod2 (x : Int) : x.tmod 2 = 1 ↔ 1 ≤ x ∧ x % 2 = 1 := by
  by_cases h : 0 ≤ x
  · rw [Int.tmod_eq_emod_of_nonneg h]; omega
  · obtain ⟨n, hn⟩ := Int.eq_ofNat_of_zero_le (show 0 ≤ -x by omega)
    have e : x = -(n : Int) := by omega
    rw [e, Int.neg_tmod, Int.tmod_eq_emod_of_nonneg (by omega)]
    omega

theorem accIn_yes (mn mx : Int) (odd : Bool) (lo hi : Int) (h0 : lo ≤ hi) (h : accB mn mx odd hi = true) : accIn mn mx odd lo hi = accIn mn mx odd lo (hi - 1) + 1 := by
  simp only [accB, decide_eq_true_eq] at h
  rw [tmod2] at h
  unfold accIn
  cases odd with
  | false => simp only [Bool.false_eq_true, if_false]; split <;> split <;> omega
  | true => simp only [if_true]; split <;> split <;> simp at h <;> omega

theorem accIn_no (mn mx : Int) (odd : Bool) (lo hi : Int) (h0 : lo ≤ hi) (h : accB mn mx odd hi = false) : accIn mn mx odd lo hi = accIn mn mx odd lo (hi - 1) := by
  simp only [accB, decide_eq_false_iff_not] at h
  rw [tmod2] at h
  unfold accIn
  cases odd with
  | false => simp only [Bool.false_eq_true, if_false]; simp at h; split <;> split <;> omega
  | true => simp only [if_true]; simp at h; split <;> split <;> omega

theorem accIn_bd (mn mx : Int) (odd : Bool) (lo hi : Int) (h0 : lo - 1 ≤ hi) : 0 ≤ accIn mn mx odd lo hi ∧ accIn mn mx odd lo hi ≤ hi - lo + 1 := by
  unfold accIn
  split <;> split <;> omega

set_option maxRecDepth 100000 in
theorem bytes12 (s : ByteArray) (mn mx : Int) (od rs : Bool) (hd lo wd : Int) (hn : s.size ≤ 65536) (w : World) :
    Calls Try.prog 12 #[.string s, .int .i64 mn, .int .i64 mx, .bool od, .bool rs, .int .i64 hd, .int .i64 lo, .int .i64 wd] w fun e w' => e = .returned (.bool true) ∧ w = w' := by
  go_enter Try.func12, Try.ntmps12
  go_wp2
  go_ret
  exact ⟨rfl, rfl⟩

theorem ret_i {k : IntKind} {a b : Int} (h : a = b) : Ending.returned (.int k a) = .returned (.int k b) := by rw [h]

set_option maxRecDepth 100000 in
set_option maxHeartbeats 1000000 in
theorem acceptedIn_any (mn mx : Int) (odd : Bool) (lo hi : Int) (l1 : -9223372036854775808 ≤ mn) (l2 : mn ≤ 9223372036854775807) (l3 : -9223372036854775808 ≤ mx) (l4 : mx ≤ 9223372036854775807)
    (l5 : -9223372036854775808 ≤ lo) (l6 : lo ≤ hi) (l7 : hi < 9223372036854775807) (l8 : hi ≤ lo + 4096) (w : World) :
    Calls Try.prog 15 #[.int .i64 mn, .int .i64 mx, .bool odd, .int .i64 lo, .int .i64 hi] w fun e w' => e = .returned (.int .i64 (accIn mn mx odd lo hi)) ∧ w = w' := by
  cases odd with
  | false =>
    go_enter Try.func15, Try.ntmps15
    go_wp2
    all_goals go_ret
    all_goals exact ⟨ret_i (by unfold accIn; simp only [Bool.false_eq_true, if_false]; split <;> omega), rfl⟩
  | true =>
    go_enter Try.func15, Try.ntmps15
    go_wp2
    all_goals go_ret
    all_goals exact ⟨ret_i (by unfold accIn; simp only [if_true]; split <;> omega), rfl⟩

set_option maxRecDepth 100000 in
set_option maxHeartbeats 400000 in
theorem window_early (s : ByteArray) (mn mx : Int) (od rs : Bool) (hd lo wd : Int) (hm : s.size ≤ 9223372036854775807) (h : 65536 < s.size ∨ wd < 1 ∨ 4096 < wd ∨ 9223372036854771711 < lo) (w : World) :
    Calls Try.prog 5 #[.string s, .int .i64 mn, .int .i64 mx, .bool od, .bool rs, .int .i64 hd, .int .i64 lo, .int .i64 wd] w fun e w' => e = .returned (.bool true) ∧ Below w.heap.size w w' := by
  by_cases h1 : 1048576 < s.size
  · clear h
    go_enter Try.func5, Try.ntmps5
    go_wp2
    go_ret
    exact ⟨rfl, Below.refl _ _⟩
  · by_cases h2 : 65536 < s.size
    · clear h
      go_enter Try.func5, Try.ntmps5
      go_wp2
      go_ret
      exact ⟨rfl, Below.refl _ _⟩
    · by_cases h3 : wd < 1
      · clear h
        go_enter Try.func5, Try.ntmps5
        go_wp2
        go_ret
        exact ⟨rfl, Below.refl _ _⟩
      · by_cases h4 : 4096 < wd
        · clear h
          go_enter Try.func5, Try.ntmps5
          go_wp2
          go_ret
          exact ⟨rfl, Below.refl _ _⟩
        · have h5 : 9223372036854771711 < lo := by omega
          clear h
          go_enter Try.func5, Try.ntmps5
          go_wp2
          go_ret
          exact ⟨rfl, Below.refl _ _⟩

set_option maxRecDepth 100000 in
set_option maxHeartbeats 1000000 in
theorem window_main (s : ByteArray) (mn mx : Int) (od rs : Bool) (hd lo : Int) (wd : Nat) (hn : s.size ≤ 65536) (l1 : -9223372036854775808 ≤ mn) (l2 : mn ≤ 9223372036854775807) (l3 : -9223372036854775808 ≤ mx) (l4 : mx ≤ 9223372036854775807)
    (l5 : -9223372036854775808 ≤ lo) (l6 : lo ≤ 9223372036854771711) (l7 : 1 ≤ wd) (l8 : wd ≤ 4096) (w : World) :
    Calls Try.prog 5 #[.string s, .int .i64 mn, .int .i64 mx, .bool od, .bool rs, .int .i64 hd, .int .i64 lo, .int .i64 wd] w fun e w' => e = .returned (.bool true) ∧ Below w.heap.size w w' := by
  go_enter Try.func5, Try.ntmps5
  go_wp2_with (go_at_call 12; refine (bytes12 s mn mx od rs hd lo wd hn w).mono ?_; rintro e w' ⟨rfl, rfl⟩)
  refine (zzNew_any s mn mx od rs hd w).mono ?_
  rintro e W1 ⟨rfl, z1, F1, b1⟩
  go_wp2_with fail
  go_loop [18, 19] (fun c i => ∃ k : Nat, k ≤ wd ∧ i = .int .i64 k ∧ c = .int .i64 (accIn mn mx od lo (lo + k - 1))) (fun _ i => wd - (intOf i).toNat)
  case atStart => exact ⟨0, Nat.zero_le _, rfl, by simp [accIn_start]⟩
  case round =>
    obtain ⟨k, hk, rfl, rfl⟩ := hrel
    by_cases hlt : k < wd
    · have hbd := accIn_bd mn mx od lo (lo + k - 1) (by omega)
      by_cases hb : accB mn mx od (lo + k) = true
      · have hy := accIn_yes mn mx od lo (lo + k) (by omega) hb
        have HG : Hid (accIn mn mx od lo (lo + k) = accIn mn mx od lo (lo + ((k + 1 : Nat) : Int) - 1)) := by show _ = _; congr 1; omega
        generalize accIn mn mx od lo (lo + k - 1) = c at hy hbd
        go_wp2_with (first | (go_at_call 14; refine (zzAccepts_any _ mn mx od (lo + k) _ F1).mono ?_; rintro e w' ⟨rfl, rfl⟩) | (go_at_call 15; refine (acceptedIn_any mn mx od lo (lo + k) l1 l2 l3 l4 l5 (by omega) (by omega) (by omega) _).mono ?_; rintro e w' ⟨rfl, rfl⟩))
        go_round
        case rel => exact ⟨k + 1, by omega, by go_num, by rw [← HG.out, hy]⟩
        case measure => simp [intOf]; omega
      · simp only [Bool.not_eq_true] at hb
        have hy := accIn_no mn mx od lo (lo + k) (by omega) hb
        have HG : Hid (accIn mn mx od lo (lo + k) = accIn mn mx od lo (lo + ((k + 1 : Nat) : Int) - 1)) := by show _ = _; congr 1; omega
        generalize accIn mn mx od lo (lo + k - 1) = c at hy hbd
        go_wp2_with (first | (go_at_call 14; refine (zzAccepts_any _ mn mx od (lo + k) _ F1).mono ?_; rintro e w' ⟨rfl, rfl⟩) | (go_at_call 15; refine (acceptedIn_any mn mx od lo (lo + k) l1 l2 l3 l4 l5 (by omega) (by omega) (by omega) _).mono ?_; rintro e w' ⟨rfl, rfl⟩))
        go_round
        case rel => exact ⟨k + 1, by omega, by go_num, by rw [← HG.out, hy]⟩
        case measure => simp [intOf]; omega
    · go_wp2
      go_ret
      exact ⟨rfl, b1⟩

theorem window_walk (s : ByteArray) (mn mx : Int) (od rs : Bool) (hd lo wd : Int) (hm : s.size ≤ 9223372036854775807) (l1 : -9223372036854775808 ≤ mn ∧ mn ≤ 9223372036854775807) (l3 : -9223372036854775808 ≤ mx ∧ mx ≤ 9223372036854775807)
    (l5 : -9223372036854775808 ≤ lo) (w : World) :
    Calls Try.prog 5 #[.string s, .int .i64 mn, .int .i64 mx, .bool od, .bool rs, .int .i64 hd, .int .i64 lo, .int .i64 wd] w fun e w' => e = .returned (.bool true) ∧ Below w.heap.size w w' := by
  by_cases he : 65536 < s.size ∨ wd < 1 ∨ 4096 < wd ∨ 9223372036854771711 < lo
  · exact window_early s mn mx od rs hd lo wd hm he w
  · obtain ⟨n, rfl⟩ := Int.eq_ofNat_of_zero_le (show 0 ≤ wd by omega)
    exact window_main s mn mx od rs hd lo n (by omega) l1.1 l1.2 l3.1 l3.2 l5 (by omega) (by omega) (by omega) w
end Go.Proofs.Qxb6605960a
