import Derived.Test.Qxb6605960aAccepts
namespace Go.Proofs.Qxb6605960a
open Go.ChangeShapes Go.WideShapes Go.ChangeAt Go.RowKit
set_option linter.unusedVariables false

theorem and_one_i64 (x : Int) (h0 : 0 ≤ x) (h1 : x ≤ 9223372036854775807) : bits .and .i64 x 1 = x % 2 := by
  obtain ⟨n, rfl⟩ := Int.eq_ofNat_of_zero_le h0
  show IntKind.i64.wrap ((BitVec.ofInt 64 (n : Int) &&& BitVec.ofInt 64 1).toNat : Int) = _
  have e : (BitVec.ofInt 64 (n : Int) &&& BitVec.ofInt 64 1).toNat = n % 2 := by
    rw [BitVec.toNat_and, BitVec.ofInt_natCast, BitVec.toNat_ofNat]
    have : (BitVec.ofInt 64 1).toNat = 1 := rfl
    rw [this, Nat.and_one_is_mod]
    omega
  rw [e, IntKind.wrap_i64]
  omega

set_option maxRecDepth 100000 in
theorem bytes16 (s : ByteArray) (mn mx : Int) (rs : Bool) (hd x : Int) (hn : s.size ≤ 65536) (w : World) :
    Calls Try.prog 16 #[.string s, .int .i64 mn, .int .i64 mx, .bool rs, .int .i64 hd, .int .i64 x] w fun e w' => e = .returned (.bool true) ∧ w = w' := by
  go_enter Try.func16, Try.ntmps16
  go_wp2
  go_ret
  exact ⟨rfl, rfl⟩

set_option maxRecDepth 100000 in
set_option maxHeartbeats 400000 in
theorem odd_early (s : ByteArray) (mn mx : Int) (rs : Bool) (hd x : Int) (hm : s.size ≤ 9223372036854775807) (h : 65536 < s.size ∨ x < mn ∨ mx ≤ x) (w : World) :
    Calls Try.prog 6 #[.string s, .int .i64 mn, .int .i64 mx, .bool rs, .int .i64 hd, .int .i64 x] w fun e w' => e = .returned (.bool true) ∧ Below w.heap.size w w' := by
  by_cases h1 : 1048576 < s.size
  · clear h
    go_enter Try.func6, Try.ntmps6
    go_wp2
    go_ret
    exact ⟨rfl, Below.refl _ _⟩
  · by_cases h2 : 65536 < s.size
    · clear h
      go_enter Try.func6, Try.ntmps6
      go_wp2
      go_ret
      exact ⟨rfl, Below.refl _ _⟩
    · by_cases h3 : x < mn
      · clear h
        go_enter Try.func6, Try.ntmps6
        go_wp2
        go_ret
        exact ⟨rfl, Below.refl _ _⟩
      · have h4 : mx ≤ x := by omega
        clear h
        go_enter Try.func6, Try.ntmps6
        go_wp2
        go_ret
        exact ⟨rfl, Below.refl _ _⟩

theorem Fn3.below {w w' : World} {b B : Nat} {mn mx : Int} {odd : Bool} (h : Fn3 w b mn mx odd) (hb : Below B w w') (hl : b < B) : Fn3 w' b mn mx odd :=
  ⟨(hb.cell (p := ⟨b, 1, none⟩) hl).trans h.c1, (hb.cell (p := ⟨b, 2, none⟩) hl).trans h.c2, (hb.cell (p := ⟨b, 3, none⟩) hl).trans h.c3⟩

theorem tmod2_nonpos (x : Int) (h : x ≤ 0) : (x.tmod 2 == 1) = false := by
  obtain ⟨n, hn⟩ := Int.eq_ofNat_of_zero_le (show 0 ≤ -x by omega)
  have e : x = -(n : Int) := by omega
  rw [e, Int.neg_tmod, Int.tmod_eq_emod_of_nonneg (by omega)]
  simp
  omega
theorem tmod2_odd (x : Int) (h : 0 ≤ x) (h1 : x % 2 = 1) : (x.tmod 2 == 1) = true := by
  rw [Int.tmod_eq_emod_of_nonneg h, h1]; rfl
theorem tmod2_even (x : Int) (h : 0 ≤ x) (h1 : x % 2 = 0) : (x.tmod 2 == 1) = false := by
  rw [Int.tmod_eq_emod_of_nonneg h, h1]; rfl

set_option maxRecDepth 100000 in
set_option maxHeartbeats 1000000 in
theorem odd_neg_n_x (s : ByteArray) (mn mx x : Int) (rs : Bool) (hd : Int) (hn : s.size ≤ 65536) (lmn : -9223372036854775808 < mn) (lmx : mx < 9223372036854775807) (h1 : mn ≤ x) (h2 : x < mx) (hx : x < 0) (w : World) :
    Calls Try.prog 6 #[.string s, .int .i64 mn, .int .i64 mx, .bool rs, .int .i64 hd, .int .i64 x] w fun e w' => e = .returned (.bool true) ∧ Below w.heap.size w w' := by
  have p1 : accB mn mx false x = true := accB_plain h1 (by omega)
  have p2 : accB mn mx false (x + 1) = true := accB_plain (by omega) (by omega)
  have p3 : accB mn mx false (mn - 1) = false := accB_lo (by omega)
  have p4 : accB mn mx true (mn - 1) = false := accB_lo (by omega)
  have p5 : accB mn mx false (mx + 1) = false := accB_hi (by omega)
  have p6 : accB mn mx true (mx + 1) = false := accB_hi (by omega)
  have q1 : accB mn mx true x = false := by rw [accB_odd h1 (by omega), tmod2_nonpos _ (by omega)]
  have q2 : accB mn mx true (x + 1) = false := by rw [accB_odd (by omega) (by omega), tmod2_nonpos _ (by omega)]
  go_enter Try.func6, Try.ntmps6
  go_wp2_with (go_at_call 16; refine (bytes16 s mn mx rs hd x hn w).mono ?_; rintro e w' ⟨rfl, rfl⟩)
  refine (zzNew_any s mn mx false rs hd w).mono ?_
  rintro e W1 ⟨rfl, z1, F1, b1⟩
  go_wp2_with fail
  refine (zzNew_any s mn mx true rs hd W1).mono ?_
  rintro e W2 ⟨rfl, z2, F2, b2⟩
  have F1' : Fn3 W2 w.heap.size mn mx false := F1.below b2 z1
  have hB := b1.trans (b2.mono b1.size)
  clear F1 b1 b2 z1 z2
  go_wp2_with fail
  refine (zzAccepts_any _ mn mx false x _ F1').mono ?_
  rintro e w' ⟨rfl, rfl⟩
  go_wp2_with fail
  refine (zzAccepts_any _ mn mx false (x + 1) _ F1').mono ?_
  rintro e w' ⟨rfl, rfl⟩
  go_wp2_with fail
  refine (zzAccepts_any _ mn mx false (mn - 1) _ F1').mono ?_
  rintro e w' ⟨rfl, rfl⟩
  go_wp2_with fail
  refine (zzAccepts_any _ mn mx true (mn - 1) _ F2).mono ?_
  rintro e w' ⟨rfl, rfl⟩
  go_wp2_with fail
  refine (zzAccepts_any _ mn mx false (mx + 1) _ F1').mono ?_
  rintro e w' ⟨rfl, rfl⟩
  go_wp2_with fail
  refine (zzAccepts_any _ mn mx true (mx + 1) _ F2).mono ?_
  rintro e w' ⟨rfl, rfl⟩
  go_wp2_with fail
  refine (zzAccepts_any _ mn mx true x _ F2).mono ?_
  rintro e w' ⟨rfl, rfl⟩
  go_wp2_with fail
  refine (zzAccepts_any _ mn mx true (x + 1) _ F2).mono ?_
  rintro e w' ⟨rfl, rfl⟩
  go_wp2
  all_goals go_ret
  all_goals exact ⟨rfl, hB⟩

set_option maxRecDepth 100000 in
set_option maxHeartbeats 1000000 in
theorem odd_neg_n (s : ByteArray) (mn x : Int) (rs : Bool) (hd : Int) (hn : s.size ≤ 65536) (lmn : -9223372036854775808 < mn) (h1 : mn ≤ x) (h2 : x < 9223372036854775807) (hx : x < 0) (w : World) :
    Calls Try.prog 6 #[.string s, .int .i64 mn, .int .i64 9223372036854775807, .bool rs, .int .i64 hd, .int .i64 x] w fun e w' => e = .returned (.bool true) ∧ Below w.heap.size w w' := by
  have p1 : accB mn 9223372036854775807 false x = true := accB_plain h1 (by omega)
  have p2 : accB mn 9223372036854775807 false (x + 1) = true := accB_plain (by omega) (by omega)
  have p3 : accB mn 9223372036854775807 false (mn - 1) = false := accB_lo (by omega)
  have p4 : accB mn 9223372036854775807 true (mn - 1) = false := accB_lo (by omega)
  have q1 : accB mn 9223372036854775807 true x = false := by rw [accB_odd h1 (by omega), tmod2_nonpos _ (by omega)]
  have q2 : accB mn 9223372036854775807 true (x + 1) = false := by rw [accB_odd (by omega) (by omega), tmod2_nonpos _ (by omega)]
  go_enter Try.func6, Try.ntmps6
  go_wp2_with (go_at_call 16; refine (bytes16 s mn 9223372036854775807 rs hd x hn w).mono ?_; rintro e w' ⟨rfl, rfl⟩)
  refine (zzNew_any s mn 9223372036854775807 false rs hd w).mono ?_
  rintro e W1 ⟨rfl, z1, F1, b1⟩
  go_wp2_with fail
  refine (zzNew_any s mn 9223372036854775807 true rs hd W1).mono ?_
  rintro e W2 ⟨rfl, z2, F2, b2⟩
  have F1' : Fn3 W2 w.heap.size mn 9223372036854775807 false := F1.below b2 z1
  have hB := b1.trans (b2.mono b1.size)
  clear F1 b1 b2 z1 z2
  go_wp2_with fail
  refine (zzAccepts_any _ mn 9223372036854775807 false x _ F1').mono ?_
  rintro e w' ⟨rfl, rfl⟩
  go_wp2_with fail
  refine (zzAccepts_any _ mn 9223372036854775807 false (x + 1) _ F1').mono ?_
  rintro e w' ⟨rfl, rfl⟩
  go_wp2_with fail
  refine (zzAccepts_any _ mn 9223372036854775807 false (mn - 1) _ F1').mono ?_
  rintro e w' ⟨rfl, rfl⟩
  go_wp2_with fail
  refine (zzAccepts_any _ mn 9223372036854775807 true (mn - 1) _ F2).mono ?_
  rintro e w' ⟨rfl, rfl⟩
  go_wp2_with fail
  refine (zzAccepts_any _ mn 9223372036854775807 true x _ F2).mono ?_
  rintro e w' ⟨rfl, rfl⟩
  go_wp2_with fail
  refine (zzAccepts_any _ mn 9223372036854775807 true (x + 1) _ F2).mono ?_
  rintro e w' ⟨rfl, rfl⟩
  go_wp2
  all_goals go_ret
  all_goals exact ⟨rfl, hB⟩

set_option maxRecDepth 100000 in
set_option maxHeartbeats 1000000 in
theorem odd_neg_x (s : ByteArray) (mx x : Int) (rs : Bool) (hd : Int) (hn : s.size ≤ 65536) (lmx : mx < 9223372036854775807) (h1 : (-9223372036854775808) ≤ x) (h2 : x < mx) (hx : x < 0) (w : World) :
    Calls Try.prog 6 #[.string s, .int .i64 (-9223372036854775808), .int .i64 mx, .bool rs, .int .i64 hd, .int .i64 x] w fun e w' => e = .returned (.bool true) ∧ Below w.heap.size w w' := by
  have p1 : accB (-9223372036854775808) mx false x = true := accB_plain h1 (by omega)
  have p2 : accB (-9223372036854775808) mx false (x + 1) = true := accB_plain (by omega) (by omega)
  have p5 : accB (-9223372036854775808) mx false (mx + 1) = false := accB_hi (by omega)
  have p6 : accB (-9223372036854775808) mx true (mx + 1) = false := accB_hi (by omega)
  have q1 : accB (-9223372036854775808) mx true x = false := by rw [accB_odd h1 (by omega), tmod2_nonpos _ (by omega)]
  have q2 : accB (-9223372036854775808) mx true (x + 1) = false := by rw [accB_odd (by omega) (by omega), tmod2_nonpos _ (by omega)]
  go_enter Try.func6, Try.ntmps6
  go_wp2_with (go_at_call 16; refine (bytes16 s (-9223372036854775808) mx rs hd x hn w).mono ?_; rintro e w' ⟨rfl, rfl⟩)
  refine (zzNew_any s (-9223372036854775808) mx false rs hd w).mono ?_
  rintro e W1 ⟨rfl, z1, F1, b1⟩
  go_wp2_with fail
  refine (zzNew_any s (-9223372036854775808) mx true rs hd W1).mono ?_
  rintro e W2 ⟨rfl, z2, F2, b2⟩
  have F1' : Fn3 W2 w.heap.size (-9223372036854775808) mx false := F1.below b2 z1
  have hB := b1.trans (b2.mono b1.size)
  clear F1 b1 b2 z1 z2
  go_wp2_with fail
  refine (zzAccepts_any _ (-9223372036854775808) mx false x _ F1').mono ?_
  rintro e w' ⟨rfl, rfl⟩
  go_wp2_with fail
  refine (zzAccepts_any _ (-9223372036854775808) mx false (x + 1) _ F1').mono ?_
  rintro e w' ⟨rfl, rfl⟩
  go_wp2_with fail
  refine (zzAccepts_any _ (-9223372036854775808) mx false (mx + 1) _ F1').mono ?_
  rintro e w' ⟨rfl, rfl⟩
  go_wp2_with fail
  refine (zzAccepts_any _ (-9223372036854775808) mx true (mx + 1) _ F2).mono ?_
  rintro e w' ⟨rfl, rfl⟩
  go_wp2_with fail
  refine (zzAccepts_any _ (-9223372036854775808) mx true x _ F2).mono ?_
  rintro e w' ⟨rfl, rfl⟩
  go_wp2_with fail
  refine (zzAccepts_any _ (-9223372036854775808) mx true (x + 1) _ F2).mono ?_
  rintro e w' ⟨rfl, rfl⟩
  go_wp2
  all_goals go_ret
  all_goals exact ⟨rfl, hB⟩

set_option maxRecDepth 100000 in
set_option maxHeartbeats 1000000 in
theorem odd_neg (s : ByteArray) (x : Int) (rs : Bool) (hd : Int) (hn : s.size ≤ 65536)  (h1 : (-9223372036854775808) ≤ x) (h2 : x < 9223372036854775807) (hx : x < 0) (w : World) :
    Calls Try.prog 6 #[.string s, .int .i64 (-9223372036854775808), .int .i64 9223372036854775807, .bool rs, .int .i64 hd, .int .i64 x] w fun e w' => e = .returned (.bool true) ∧ Below w.heap.size w w' := by
  have p1 : accB (-9223372036854775808) 9223372036854775807 false x = true := accB_plain h1 (by omega)
  have p2 : accB (-9223372036854775808) 9223372036854775807 false (x + 1) = true := accB_plain (by omega) (by omega)
  have q1 : accB (-9223372036854775808) 9223372036854775807 true x = false := by rw [accB_odd h1 (by omega), tmod2_nonpos _ (by omega)]
  have q2 : accB (-9223372036854775808) 9223372036854775807 true (x + 1) = false := by rw [accB_odd (by omega) (by omega), tmod2_nonpos _ (by omega)]
  go_enter Try.func6, Try.ntmps6
  go_wp2_with (go_at_call 16; refine (bytes16 s (-9223372036854775808) 9223372036854775807 rs hd x hn w).mono ?_; rintro e w' ⟨rfl, rfl⟩)
  refine (zzNew_any s (-9223372036854775808) 9223372036854775807 false rs hd w).mono ?_
  rintro e W1 ⟨rfl, z1, F1, b1⟩
  go_wp2_with fail
  refine (zzNew_any s (-9223372036854775808) 9223372036854775807 true rs hd W1).mono ?_
  rintro e W2 ⟨rfl, z2, F2, b2⟩
  have F1' : Fn3 W2 w.heap.size (-9223372036854775808) 9223372036854775807 false := F1.below b2 z1
  have hB := b1.trans (b2.mono b1.size)
  clear F1 b1 b2 z1 z2
  go_wp2_with fail
  refine (zzAccepts_any _ (-9223372036854775808) 9223372036854775807 false x _ F1').mono ?_
  rintro e w' ⟨rfl, rfl⟩
  go_wp2_with fail
  refine (zzAccepts_any _ (-9223372036854775808) 9223372036854775807 false (x + 1) _ F1').mono ?_
  rintro e w' ⟨rfl, rfl⟩
  go_wp2_with fail
  refine (zzAccepts_any _ (-9223372036854775808) 9223372036854775807 true x _ F2).mono ?_
  rintro e w' ⟨rfl, rfl⟩
  go_wp2_with fail
  refine (zzAccepts_any _ (-9223372036854775808) 9223372036854775807 true (x + 1) _ F2).mono ?_
  rintro e w' ⟨rfl, rfl⟩
  go_wp2
  all_goals go_ret
  all_goals exact ⟨rfl, hB⟩

set_option maxRecDepth 100000 in
set_option maxHeartbeats 1000000 in
theorem odd_one_n_x (s : ByteArray) (mn mx x : Int) (rs : Bool) (hd : Int) (hn : s.size ≤ 65536) (lmn : -9223372036854775808 < mn) (lmx : mx < 9223372036854775807) (h1 : mn ≤ x) (h2 : x < mx) (hx : 0 ≤ x) (hx2 : x % 2 = 1) (w : World) :
    Calls Try.prog 6 #[.string s, .int .i64 mn, .int .i64 mx, .bool rs, .int .i64 hd, .int .i64 x] w fun e w' => e = .returned (.bool true) ∧ Below w.heap.size w w' := by
  have p1 : accB mn mx false x = true := accB_plain h1 (by omega)
  have p2 : accB mn mx false (x + 1) = true := accB_plain (by omega) (by omega)
  have p3 : accB mn mx false (mn - 1) = false := accB_lo (by omega)
  have p4 : accB mn mx true (mn - 1) = false := accB_lo (by omega)
  have p5 : accB mn mx false (mx + 1) = false := accB_hi (by omega)
  have p6 : accB mn mx true (mx + 1) = false := accB_hi (by omega)
  have q1 : accB mn mx true x = true := by rw [accB_odd h1 (by omega), tmod2_odd _ hx hx2]
  have q2 : accB mn mx true (x + 1) = false := by rw [accB_odd (by omega) (by omega), tmod2_even _ (by omega) (by omega)]
  have q3 : bits .and .i64 x 1 = 1 := by rw [and_one_i64 x hx (by omega), hx2]
  clear hx2
  go_enter Try.func6, Try.ntmps6
  go_wp2_with (go_at_call 16; refine (bytes16 s mn mx rs hd x hn w).mono ?_; rintro e w' ⟨rfl, rfl⟩)
  refine (zzNew_any s mn mx false rs hd w).mono ?_
  rintro e W1 ⟨rfl, z1, F1, b1⟩
  go_wp2_with fail
  refine (zzNew_any s mn mx true rs hd W1).mono ?_
  rintro e W2 ⟨rfl, z2, F2, b2⟩
  have F1' : Fn3 W2 w.heap.size mn mx false := F1.below b2 z1
  have hB := b1.trans (b2.mono b1.size)
  clear F1 b1 b2 z1 z2
  go_wp2_with fail
  refine (zzAccepts_any _ mn mx false x _ F1').mono ?_
  rintro e w' ⟨rfl, rfl⟩
  go_wp2_with fail
  refine (zzAccepts_any _ mn mx false (x + 1) _ F1').mono ?_
  rintro e w' ⟨rfl, rfl⟩
  go_wp2_with fail
  refine (zzAccepts_any _ mn mx false (mn - 1) _ F1').mono ?_
  rintro e w' ⟨rfl, rfl⟩
  go_wp2_with fail
  refine (zzAccepts_any _ mn mx true (mn - 1) _ F2).mono ?_
  rintro e w' ⟨rfl, rfl⟩
  go_wp2_with fail
  refine (zzAccepts_any _ mn mx false (mx + 1) _ F1').mono ?_
  rintro e w' ⟨rfl, rfl⟩
  go_wp2_with fail
  refine (zzAccepts_any _ mn mx true (mx + 1) _ F2).mono ?_
  rintro e w' ⟨rfl, rfl⟩
  go_wp2_with fail
  refine (zzAccepts_any _ mn mx true x _ F2).mono ?_
  rintro e w' ⟨rfl, rfl⟩
  go_wp2_with fail
  refine (zzAccepts_any _ mn mx true (x + 1) _ F2).mono ?_
  rintro e w' ⟨rfl, rfl⟩
  go_wp2
  all_goals go_ret
  all_goals exact ⟨rfl, hB⟩

set_option maxRecDepth 100000 in
set_option maxHeartbeats 1000000 in
theorem odd_one_n (s : ByteArray) (mn x : Int) (rs : Bool) (hd : Int) (hn : s.size ≤ 65536) (lmn : -9223372036854775808 < mn) (h1 : mn ≤ x) (h2 : x < 9223372036854775807) (hx : 0 ≤ x) (hx2 : x % 2 = 1) (w : World) :
    Calls Try.prog 6 #[.string s, .int .i64 mn, .int .i64 9223372036854775807, .bool rs, .int .i64 hd, .int .i64 x] w fun e w' => e = .returned (.bool true) ∧ Below w.heap.size w w' := by
  have p1 : accB mn 9223372036854775807 false x = true := accB_plain h1 (by omega)
  have p2 : accB mn 9223372036854775807 false (x + 1) = true := accB_plain (by omega) (by omega)
  have p3 : accB mn 9223372036854775807 false (mn - 1) = false := accB_lo (by omega)
  have p4 : accB mn 9223372036854775807 true (mn - 1) = false := accB_lo (by omega)
  have q1 : accB mn 9223372036854775807 true x = true := by rw [accB_odd h1 (by omega), tmod2_odd _ hx hx2]
  have q2 : accB mn 9223372036854775807 true (x + 1) = false := by rw [accB_odd (by omega) (by omega), tmod2_even _ (by omega) (by omega)]
  have q3 : bits .and .i64 x 1 = 1 := by rw [and_one_i64 x hx (by omega), hx2]
  clear hx2
  go_enter Try.func6, Try.ntmps6
  go_wp2_with (go_at_call 16; refine (bytes16 s mn 9223372036854775807 rs hd x hn w).mono ?_; rintro e w' ⟨rfl, rfl⟩)
  refine (zzNew_any s mn 9223372036854775807 false rs hd w).mono ?_
  rintro e W1 ⟨rfl, z1, F1, b1⟩
  go_wp2_with fail
  refine (zzNew_any s mn 9223372036854775807 true rs hd W1).mono ?_
  rintro e W2 ⟨rfl, z2, F2, b2⟩
  have F1' : Fn3 W2 w.heap.size mn 9223372036854775807 false := F1.below b2 z1
  have hB := b1.trans (b2.mono b1.size)
  clear F1 b1 b2 z1 z2
  go_wp2_with fail
  refine (zzAccepts_any _ mn 9223372036854775807 false x _ F1').mono ?_
  rintro e w' ⟨rfl, rfl⟩
  go_wp2_with fail
  refine (zzAccepts_any _ mn 9223372036854775807 false (x + 1) _ F1').mono ?_
  rintro e w' ⟨rfl, rfl⟩
  go_wp2_with fail
  refine (zzAccepts_any _ mn 9223372036854775807 false (mn - 1) _ F1').mono ?_
  rintro e w' ⟨rfl, rfl⟩
  go_wp2_with fail
  refine (zzAccepts_any _ mn 9223372036854775807 true (mn - 1) _ F2).mono ?_
  rintro e w' ⟨rfl, rfl⟩
  go_wp2_with fail
  refine (zzAccepts_any _ mn 9223372036854775807 true x _ F2).mono ?_
  rintro e w' ⟨rfl, rfl⟩
  go_wp2_with fail
  refine (zzAccepts_any _ mn 9223372036854775807 true (x + 1) _ F2).mono ?_
  rintro e w' ⟨rfl, rfl⟩
  go_wp2
  all_goals go_ret
  all_goals exact ⟨rfl, hB⟩

set_option maxRecDepth 100000 in
set_option maxHeartbeats 1000000 in
theorem odd_one_x (s : ByteArray) (mx x : Int) (rs : Bool) (hd : Int) (hn : s.size ≤ 65536) (lmx : mx < 9223372036854775807) (h1 : (-9223372036854775808) ≤ x) (h2 : x < mx) (hx : 0 ≤ x) (hx2 : x % 2 = 1) (w : World) :
    Calls Try.prog 6 #[.string s, .int .i64 (-9223372036854775808), .int .i64 mx, .bool rs, .int .i64 hd, .int .i64 x] w fun e w' => e = .returned (.bool true) ∧ Below w.heap.size w w' := by
  have p1 : accB (-9223372036854775808) mx false x = true := accB_plain h1 (by omega)
  have p2 : accB (-9223372036854775808) mx false (x + 1) = true := accB_plain (by omega) (by omega)
  have p5 : accB (-9223372036854775808) mx false (mx + 1) = false := accB_hi (by omega)
  have p6 : accB (-9223372036854775808) mx true (mx + 1) = false := accB_hi (by omega)
  have q1 : accB (-9223372036854775808) mx true x = true := by rw [accB_odd h1 (by omega), tmod2_odd _ hx hx2]
  have q2 : accB (-9223372036854775808) mx true (x + 1) = false := by rw [accB_odd (by omega) (by omega), tmod2_even _ (by omega) (by omega)]
  have q3 : bits .and .i64 x 1 = 1 := by rw [and_one_i64 x hx (by omega), hx2]
  clear hx2
  go_enter Try.func6, Try.ntmps6
  go_wp2_with (go_at_call 16; refine (bytes16 s (-9223372036854775808) mx rs hd x hn w).mono ?_; rintro e w' ⟨rfl, rfl⟩)
  refine (zzNew_any s (-9223372036854775808) mx false rs hd w).mono ?_
  rintro e W1 ⟨rfl, z1, F1, b1⟩
  go_wp2_with fail
  refine (zzNew_any s (-9223372036854775808) mx true rs hd W1).mono ?_
  rintro e W2 ⟨rfl, z2, F2, b2⟩
  have F1' : Fn3 W2 w.heap.size (-9223372036854775808) mx false := F1.below b2 z1
  have hB := b1.trans (b2.mono b1.size)
  clear F1 b1 b2 z1 z2
  go_wp2_with fail
  refine (zzAccepts_any _ (-9223372036854775808) mx false x _ F1').mono ?_
  rintro e w' ⟨rfl, rfl⟩
  go_wp2_with fail
  refine (zzAccepts_any _ (-9223372036854775808) mx false (x + 1) _ F1').mono ?_
  rintro e w' ⟨rfl, rfl⟩
  go_wp2_with fail
  refine (zzAccepts_any _ (-9223372036854775808) mx false (mx + 1) _ F1').mono ?_
  rintro e w' ⟨rfl, rfl⟩
  go_wp2_with fail
  refine (zzAccepts_any _ (-9223372036854775808) mx true (mx + 1) _ F2).mono ?_
  rintro e w' ⟨rfl, rfl⟩
  go_wp2_with fail
  refine (zzAccepts_any _ (-9223372036854775808) mx true x _ F2).mono ?_
  rintro e w' ⟨rfl, rfl⟩
  go_wp2_with fail
  refine (zzAccepts_any _ (-9223372036854775808) mx true (x + 1) _ F2).mono ?_
  rintro e w' ⟨rfl, rfl⟩
  go_wp2
  all_goals go_ret
  all_goals exact ⟨rfl, hB⟩

set_option maxRecDepth 100000 in
set_option maxHeartbeats 1000000 in
theorem odd_one (s : ByteArray) (x : Int) (rs : Bool) (hd : Int) (hn : s.size ≤ 65536)  (h1 : (-9223372036854775808) ≤ x) (h2 : x < 9223372036854775807) (hx : 0 ≤ x) (hx2 : x % 2 = 1) (w : World) :
    Calls Try.prog 6 #[.string s, .int .i64 (-9223372036854775808), .int .i64 9223372036854775807, .bool rs, .int .i64 hd, .int .i64 x] w fun e w' => e = .returned (.bool true) ∧ Below w.heap.size w w' := by
  have p1 : accB (-9223372036854775808) 9223372036854775807 false x = true := accB_plain h1 (by omega)
  have p2 : accB (-9223372036854775808) 9223372036854775807 false (x + 1) = true := accB_plain (by omega) (by omega)
  have q1 : accB (-9223372036854775808) 9223372036854775807 true x = true := by rw [accB_odd h1 (by omega), tmod2_odd _ hx hx2]
  have q2 : accB (-9223372036854775808) 9223372036854775807 true (x + 1) = false := by rw [accB_odd (by omega) (by omega), tmod2_even _ (by omega) (by omega)]
  have q3 : bits .and .i64 x 1 = 1 := by rw [and_one_i64 x hx (by omega), hx2]
  clear hx2
  go_enter Try.func6, Try.ntmps6
  go_wp2_with (go_at_call 16; refine (bytes16 s (-9223372036854775808) 9223372036854775807 rs hd x hn w).mono ?_; rintro e w' ⟨rfl, rfl⟩)
  refine (zzNew_any s (-9223372036854775808) 9223372036854775807 false rs hd w).mono ?_
  rintro e W1 ⟨rfl, z1, F1, b1⟩
  go_wp2_with fail
  refine (zzNew_any s (-9223372036854775808) 9223372036854775807 true rs hd W1).mono ?_
  rintro e W2 ⟨rfl, z2, F2, b2⟩
  have F1' : Fn3 W2 w.heap.size (-9223372036854775808) 9223372036854775807 false := F1.below b2 z1
  have hB := b1.trans (b2.mono b1.size)
  clear F1 b1 b2 z1 z2
  go_wp2_with fail
  refine (zzAccepts_any _ (-9223372036854775808) 9223372036854775807 false x _ F1').mono ?_
  rintro e w' ⟨rfl, rfl⟩
  go_wp2_with fail
  refine (zzAccepts_any _ (-9223372036854775808) 9223372036854775807 false (x + 1) _ F1').mono ?_
  rintro e w' ⟨rfl, rfl⟩
  go_wp2_with fail
  refine (zzAccepts_any _ (-9223372036854775808) 9223372036854775807 true x _ F2).mono ?_
  rintro e w' ⟨rfl, rfl⟩
  go_wp2_with fail
  refine (zzAccepts_any _ (-9223372036854775808) 9223372036854775807 true (x + 1) _ F2).mono ?_
  rintro e w' ⟨rfl, rfl⟩
  go_wp2
  all_goals go_ret
  all_goals exact ⟨rfl, hB⟩

set_option maxRecDepth 100000 in
set_option maxHeartbeats 1000000 in
theorem odd_two_n_x (s : ByteArray) (mn mx x : Int) (rs : Bool) (hd : Int) (hn : s.size ≤ 65536) (lmn : -9223372036854775808 < mn) (lmx : mx < 9223372036854775807) (h1 : mn ≤ x) (h2 : x < mx) (hx : 0 ≤ x) (hx2 : x % 2 = 0) (w : World) :
    Calls Try.prog 6 #[.string s, .int .i64 mn, .int .i64 mx, .bool rs, .int .i64 hd, .int .i64 x] w fun e w' => e = .returned (.bool true) ∧ Below w.heap.size w w' := by
  have p1 : accB mn mx false x = true := accB_plain h1 (by omega)
  have p2 : accB mn mx false (x + 1) = true := accB_plain (by omega) (by omega)
  have p3 : accB mn mx false (mn - 1) = false := accB_lo (by omega)
  have p4 : accB mn mx true (mn - 1) = false := accB_lo (by omega)
  have p5 : accB mn mx false (mx + 1) = false := accB_hi (by omega)
  have p6 : accB mn mx true (mx + 1) = false := accB_hi (by omega)
  have q1 : accB mn mx true x = false := by rw [accB_odd h1 (by omega), tmod2_even _ hx hx2]
  have q2 : accB mn mx true (x + 1) = true := by rw [accB_odd (by omega) (by omega), tmod2_odd _ (by omega) (by omega)]
  have q3 : bits .and .i64 x 1 = 0 := by rw [and_one_i64 x hx (by omega), hx2]
  clear hx2
  go_enter Try.func6, Try.ntmps6
  go_wp2_with (go_at_call 16; refine (bytes16 s mn mx rs hd x hn w).mono ?_; rintro e w' ⟨rfl, rfl⟩)
  refine (zzNew_any s mn mx false rs hd w).mono ?_
  rintro e W1 ⟨rfl, z1, F1, b1⟩
  go_wp2_with fail
  refine (zzNew_any s mn mx true rs hd W1).mono ?_
  rintro e W2 ⟨rfl, z2, F2, b2⟩
  have F1' : Fn3 W2 w.heap.size mn mx false := F1.below b2 z1
  have hB := b1.trans (b2.mono b1.size)
  clear F1 b1 b2 z1 z2
  go_wp2_with fail
  refine (zzAccepts_any _ mn mx false x _ F1').mono ?_
  rintro e w' ⟨rfl, rfl⟩
  go_wp2_with fail
  refine (zzAccepts_any _ mn mx false (x + 1) _ F1').mono ?_
  rintro e w' ⟨rfl, rfl⟩
  go_wp2_with fail
  refine (zzAccepts_any _ mn mx false (mn - 1) _ F1').mono ?_
  rintro e w' ⟨rfl, rfl⟩
  go_wp2_with fail
  refine (zzAccepts_any _ mn mx true (mn - 1) _ F2).mono ?_
  rintro e w' ⟨rfl, rfl⟩
  go_wp2_with fail
  refine (zzAccepts_any _ mn mx false (mx + 1) _ F1').mono ?_
  rintro e w' ⟨rfl, rfl⟩
  go_wp2_with fail
  refine (zzAccepts_any _ mn mx true (mx + 1) _ F2).mono ?_
  rintro e w' ⟨rfl, rfl⟩
  go_wp2_with fail
  refine (zzAccepts_any _ mn mx true x _ F2).mono ?_
  rintro e w' ⟨rfl, rfl⟩
  go_wp2_with fail
  refine (zzAccepts_any _ mn mx true (x + 1) _ F2).mono ?_
  rintro e w' ⟨rfl, rfl⟩
  go_wp2
  all_goals go_ret
  all_goals exact ⟨rfl, hB⟩

set_option maxRecDepth 100000 in
set_option maxHeartbeats 1000000 in
theorem odd_two_n (s : ByteArray) (mn x : Int) (rs : Bool) (hd : Int) (hn : s.size ≤ 65536) (lmn : -9223372036854775808 < mn) (h1 : mn ≤ x) (h2 : x < 9223372036854775807) (hx : 0 ≤ x) (hx2 : x % 2 = 0) (w : World) :
    Calls Try.prog 6 #[.string s, .int .i64 mn, .int .i64 9223372036854775807, .bool rs, .int .i64 hd, .int .i64 x] w fun e w' => e = .returned (.bool true) ∧ Below w.heap.size w w' := by
  have p1 : accB mn 9223372036854775807 false x = true := accB_plain h1 (by omega)
  have p2 : accB mn 9223372036854775807 false (x + 1) = true := accB_plain (by omega) (by omega)
  have p3 : accB mn 9223372036854775807 false (mn - 1) = false := accB_lo (by omega)
  have p4 : accB mn 9223372036854775807 true (mn - 1) = false := accB_lo (by omega)
  have q1 : accB mn 9223372036854775807 true x = false := by rw [accB_odd h1 (by omega), tmod2_even _ hx hx2]
  have q2 : accB mn 9223372036854775807 true (x + 1) = true := by rw [accB_odd (by omega) (by omega), tmod2_odd _ (by omega) (by omega)]
  have q3 : bits .and .i64 x 1 = 0 := by rw [and_one_i64 x hx (by omega), hx2]
  clear hx2
  go_enter Try.func6, Try.ntmps6
  go_wp2_with (go_at_call 16; refine (bytes16 s mn 9223372036854775807 rs hd x hn w).mono ?_; rintro e w' ⟨rfl, rfl⟩)
  refine (zzNew_any s mn 9223372036854775807 false rs hd w).mono ?_
  rintro e W1 ⟨rfl, z1, F1, b1⟩
  go_wp2_with fail
  refine (zzNew_any s mn 9223372036854775807 true rs hd W1).mono ?_
  rintro e W2 ⟨rfl, z2, F2, b2⟩
  have F1' : Fn3 W2 w.heap.size mn 9223372036854775807 false := F1.below b2 z1
  have hB := b1.trans (b2.mono b1.size)
  clear F1 b1 b2 z1 z2
  go_wp2_with fail
  refine (zzAccepts_any _ mn 9223372036854775807 false x _ F1').mono ?_
  rintro e w' ⟨rfl, rfl⟩
  go_wp2_with fail
  refine (zzAccepts_any _ mn 9223372036854775807 false (x + 1) _ F1').mono ?_
  rintro e w' ⟨rfl, rfl⟩
  go_wp2_with fail
  refine (zzAccepts_any _ mn 9223372036854775807 false (mn - 1) _ F1').mono ?_
  rintro e w' ⟨rfl, rfl⟩
  go_wp2_with fail
  refine (zzAccepts_any _ mn 9223372036854775807 true (mn - 1) _ F2).mono ?_
  rintro e w' ⟨rfl, rfl⟩
  go_wp2_with fail
  refine (zzAccepts_any _ mn 9223372036854775807 true x _ F2).mono ?_
  rintro e w' ⟨rfl, rfl⟩
  go_wp2_with fail
  refine (zzAccepts_any _ mn 9223372036854775807 true (x + 1) _ F2).mono ?_
  rintro e w' ⟨rfl, rfl⟩
  go_wp2
  all_goals go_ret
  all_goals exact ⟨rfl, hB⟩

set_option maxRecDepth 100000 in
set_option maxHeartbeats 1000000 in
theorem odd_two_x (s : ByteArray) (mx x : Int) (rs : Bool) (hd : Int) (hn : s.size ≤ 65536) (lmx : mx < 9223372036854775807) (h1 : (-9223372036854775808) ≤ x) (h2 : x < mx) (hx : 0 ≤ x) (hx2 : x % 2 = 0) (w : World) :
    Calls Try.prog 6 #[.string s, .int .i64 (-9223372036854775808), .int .i64 mx, .bool rs, .int .i64 hd, .int .i64 x] w fun e w' => e = .returned (.bool true) ∧ Below w.heap.size w w' := by
  have p1 : accB (-9223372036854775808) mx false x = true := accB_plain h1 (by omega)
  have p2 : accB (-9223372036854775808) mx false (x + 1) = true := accB_plain (by omega) (by omega)
  have p5 : accB (-9223372036854775808) mx false (mx + 1) = false := accB_hi (by omega)
  have p6 : accB (-9223372036854775808) mx true (mx + 1) = false := accB_hi (by omega)
  have q1 : accB (-9223372036854775808) mx true x = false := by rw [accB_odd h1 (by omega), tmod2_even _ hx hx2]
  have q2 : accB (-9223372036854775808) mx true (x + 1) = true := by rw [accB_odd (by omega) (by omega), tmod2_odd _ (by omega) (by omega)]
  have q3 : bits .and .i64 x 1 = 0 := by rw [and_one_i64 x hx (by omega), hx2]
  clear hx2
  go_enter Try.func6, Try.ntmps6
  go_wp2_with (go_at_call 16; refine (bytes16 s (-9223372036854775808) mx rs hd x hn w).mono ?_; rintro e w' ⟨rfl, rfl⟩)
  refine (zzNew_any s (-9223372036854775808) mx false rs hd w).mono ?_
  rintro e W1 ⟨rfl, z1, F1, b1⟩
  go_wp2_with fail
  refine (zzNew_any s (-9223372036854775808) mx true rs hd W1).mono ?_
  rintro e W2 ⟨rfl, z2, F2, b2⟩
  have F1' : Fn3 W2 w.heap.size (-9223372036854775808) mx false := F1.below b2 z1
  have hB := b1.trans (b2.mono b1.size)
  clear F1 b1 b2 z1 z2
  go_wp2_with fail
  refine (zzAccepts_any _ (-9223372036854775808) mx false x _ F1').mono ?_
  rintro e w' ⟨rfl, rfl⟩
  go_wp2_with fail
  refine (zzAccepts_any _ (-9223372036854775808) mx false (x + 1) _ F1').mono ?_
  rintro e w' ⟨rfl, rfl⟩
  go_wp2_with fail
  refine (zzAccepts_any _ (-9223372036854775808) mx false (mx + 1) _ F1').mono ?_
  rintro e w' ⟨rfl, rfl⟩
  go_wp2_with fail
  refine (zzAccepts_any _ (-9223372036854775808) mx true (mx + 1) _ F2).mono ?_
  rintro e w' ⟨rfl, rfl⟩
  go_wp2_with fail
  refine (zzAccepts_any _ (-9223372036854775808) mx true x _ F2).mono ?_
  rintro e w' ⟨rfl, rfl⟩
  go_wp2_with fail
  refine (zzAccepts_any _ (-9223372036854775808) mx true (x + 1) _ F2).mono ?_
  rintro e w' ⟨rfl, rfl⟩
  go_wp2
  all_goals go_ret
  all_goals exact ⟨rfl, hB⟩

set_option maxRecDepth 100000 in
set_option maxHeartbeats 1000000 in
theorem odd_two (s : ByteArray) (x : Int) (rs : Bool) (hd : Int) (hn : s.size ≤ 65536)  (h1 : (-9223372036854775808) ≤ x) (h2 : x < 9223372036854775807) (hx : 0 ≤ x) (hx2 : x % 2 = 0) (w : World) :
    Calls Try.prog 6 #[.string s, .int .i64 (-9223372036854775808), .int .i64 9223372036854775807, .bool rs, .int .i64 hd, .int .i64 x] w fun e w' => e = .returned (.bool true) ∧ Below w.heap.size w w' := by
  have p1 : accB (-9223372036854775808) 9223372036854775807 false x = true := accB_plain h1 (by omega)
  have p2 : accB (-9223372036854775808) 9223372036854775807 false (x + 1) = true := accB_plain (by omega) (by omega)
  have q1 : accB (-9223372036854775808) 9223372036854775807 true x = false := by rw [accB_odd h1 (by omega), tmod2_even _ hx hx2]
  have q2 : accB (-9223372036854775808) 9223372036854775807 true (x + 1) = true := by rw [accB_odd (by omega) (by omega), tmod2_odd _ (by omega) (by omega)]
  have q3 : bits .and .i64 x 1 = 0 := by rw [and_one_i64 x hx (by omega), hx2]
  clear hx2
  go_enter Try.func6, Try.ntmps6
  go_wp2_with (go_at_call 16; refine (bytes16 s (-9223372036854775808) 9223372036854775807 rs hd x hn w).mono ?_; rintro e w' ⟨rfl, rfl⟩)
  refine (zzNew_any s (-9223372036854775808) 9223372036854775807 false rs hd w).mono ?_
  rintro e W1 ⟨rfl, z1, F1, b1⟩
  go_wp2_with fail
  refine (zzNew_any s (-9223372036854775808) 9223372036854775807 true rs hd W1).mono ?_
  rintro e W2 ⟨rfl, z2, F2, b2⟩
  have F1' : Fn3 W2 w.heap.size (-9223372036854775808) 9223372036854775807 false := F1.below b2 z1
  have hB := b1.trans (b2.mono b1.size)
  clear F1 b1 b2 z1 z2
  go_wp2_with fail
  refine (zzAccepts_any _ (-9223372036854775808) 9223372036854775807 false x _ F1').mono ?_
  rintro e w' ⟨rfl, rfl⟩
  go_wp2_with fail
  refine (zzAccepts_any _ (-9223372036854775808) 9223372036854775807 false (x + 1) _ F1').mono ?_
  rintro e w' ⟨rfl, rfl⟩
  go_wp2_with fail
  refine (zzAccepts_any _ (-9223372036854775808) 9223372036854775807 true x _ F2).mono ?_
  rintro e w' ⟨rfl, rfl⟩
  go_wp2_with fail
  refine (zzAccepts_any _ (-9223372036854775808) 9223372036854775807 true (x + 1) _ F2).mono ?_
  rintro e w' ⟨rfl, rfl⟩
  go_wp2
  all_goals go_ret
  all_goals exact ⟨rfl, hB⟩

theorem odd_walk (s : ByteArray) (mn mx : Int) (rs : Bool) (hd x : Int) (hm : s.size ≤ 9223372036854775807) (l1 : -9223372036854775808 ≤ mn) (l2 : mx ≤ 9223372036854775807) (w : World) :
    Calls Try.prog 6 #[.string s, .int .i64 mn, .int .i64 mx, .bool rs, .int .i64 hd, .int .i64 x] w fun e w' => e = .returned (.bool true) ∧ Below w.heap.size w w' := by
  by_cases he : 65536 < s.size ∨ x < mn ∨ mx ≤ x
  · exact odd_early s mn mx rs hd x hm he w
  · have hn : s.size ≤ 65536 := by omega
    have h1 : mn ≤ x := by omega
    have h2 : x < mx := by omega
    clear he
    by_cases k1 : -9223372036854775808 < mn
    · by_cases k2 : mx < 9223372036854775807
      · by_cases c : x < 0
        · exact odd_neg_n_x s mn mx x rs hd hn k1 k2 h1 h2 c w
        · rcases Int.emod_two_eq x with d | d
          · exact odd_two_n_x s mn mx x rs hd hn k1 k2 h1 h2 (by omega) d w
          · exact odd_one_n_x s mn mx x rs hd hn k1 k2 h1 h2 (by omega) d w
      · obtain rfl : mx = 9223372036854775807 := by omega
        by_cases c : x < 0
        · exact odd_neg_n s mn x rs hd hn k1 h1 h2 c w
        · rcases Int.emod_two_eq x with d | d
          · exact odd_two_n s mn x rs hd hn k1 h1 h2 (by omega) d w
          · exact odd_one_n s mn x rs hd hn k1 h1 h2 (by omega) d w
    · obtain rfl : mn = -9223372036854775808 := by omega
      by_cases k2 : mx < 9223372036854775807
      · by_cases c : x < 0
        · exact odd_neg_x s mx x rs hd hn k2 h1 h2 c w
        · rcases Int.emod_two_eq x with d | d
          · exact odd_two_x s mx x rs hd hn k2 h1 h2 (by omega) d w
          · exact odd_one_x s mx x rs hd hn k2 h1 h2 (by omega) d w
      · obtain rfl : mx = 9223372036854775807 := by omega
        by_cases c : x < 0
        · exact odd_neg s x rs hd hn h1 h2 c w
        · rcases Int.emod_two_eq x with d | d
          · exact odd_two s x rs hd hn h1 h2 (by omega) d w
          · exact odd_one s x rs hd hn h1 h2 (by omega) d w
end Go.Proofs.Qxb6605960a
