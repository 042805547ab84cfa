import Derived.Test.Qxb6605960aClone
import Derived.Test.Qxb6605960aOrdersWalk
namespace Go.Proofs.Qxb6605960a
open Go.ChangeShapes Go.WideShapes Go.ChangeAt Go.RowKit

theorem and_low (at_ bit : Int) (ha0 : 0 ≤ at_) (ha1 : at_ ≤ 65535) (hb0 : 0 ≤ bit) (hb1 : bit ≤ 63) : bits .and .u32 (at_ * 64 + bit) 63 = bit := by
  rw [u32_and _ _ (by omega) (by omega) (by omega) (by omega)]
  obtain ⟨a, rfl⟩ := Int.eq_ofNat_of_zero_le ha0
  obtain ⟨b, rfl⟩ := Int.eq_ofNat_of_zero_le hb0
  have e : ((a : Int) * 64 + (b : Int)).toNat = a * 64 + b := by omega
  have h : (a * 64 + b) &&& 63 = (a * 64 + b) % 2 ^ 6 := Nat.and_two_pow_sub_one_eq_mod _ 6
  rw [e, show (63 : Int).toNat = 63 from rfl, h]
  omega

set_option maxRecDepth 100000 in
set_option maxHeartbeats 400000 in
theorem decodes_early (a : Option Addr) (len cap : Nat) (at_ bit : Int) (h : 65536 < len ∨ at_ < 0 ∨ bit < 0 ∨ 63 < bit) (hm : len ≤ 9223372036854775807) (w : World) :
    Calls Try.prog 3 #[.slice a len cap, .int .i32 at_, .int .i64 bit] w fun e w' => e = .returned (.bool true) ∧ Below w.heap.size w w' := by
  by_cases h1 : 1048576 < len
  · clear h
    go_enter Try.func3, Try.ntmps3
    go_wp2
    go_ret
    exact ⟨rfl, Below.refl _ _⟩
  · by_cases h2 : 65536 < len
    · clear h
      go_enter Try.func3, Try.ntmps3
      go_wp2
      go_ret
      exact ⟨rfl, Below.refl _ _⟩
    · have e1 : (decide (at_ < 0) || decide (bit < 0) || decide (63 < bit)) = true := by simp; omega
      clear h
      go_enter Try.func3, Try.ntmps3
      go_wp2
      all_goals go_ret
      all_goals exact ⟨rfl, Below.refl _ _⟩

set_option maxRecDepth 100000 in
set_option maxHeartbeats 400000 in
theorem decodes_nil_out (at_ bit : Int) (ha1 : 65535 < at_) (hb0 : 0 ≤ bit) (hb1 : bit ≤ 63) (w : World) :
    Calls Try.prog 3 #[.slice none 0 0, .int .i32 at_, .int .i64 bit] w fun e w' => e = .returned (.bool true) ∧ Below w.heap.size w w' := by
  go_enter Try.func3, Try.ntmps3
  go_wp2_with (first | (go_at_call 10; refine (cloneU32_nil _).mono ?_; rintro e w' ⟨rfl, rfl⟩) | (go_at_call 11; refine (zzAppend_out at_ bit ha1 _ _).mono ?_; rintro e w' ⟨rfl, rfl⟩) | go_in)
  refine wp_loop_rounds 1 ?_
  rw [rounds_succ]
  go_wp2
  go_ret
  exact ⟨rfl, Below.refl _ _⟩

set_option maxRecDepth 100000 in
set_option maxHeartbeats 400000 in
theorem decodes_nil_in (at_ bit : Int) (ha0 : 0 ≤ at_) (ha1 : at_ ≤ 65535) (hb0 : 0 ≤ bit) (hb1 : bit ≤ 63) (w : World) :
    Calls Try.prog 3 #[.slice none 0 0, .int .i32 at_, .int .i64 bit] w fun e w' => e = .returned (.bool true) ∧ Below w.heap.size w w' := by
  have hand := and_low at_ bit ha0 ha1 hb0 hb1
  have hdiv : (at_ * 64 + bit) / 64 = at_ := by omega
  go_enter Try.func3, Try.ntmps3
  go_wp2_with (first | (go_at_call 10; refine (cloneU32_nil _).mono ?_; rintro e w' ⟨rfl, rfl⟩) | (go_at_call 11; refine (zzAppend_in at_ bit ha0 ha1 hb0 hb1 _ _ 0 [] _ (World.ownsRow_nil _ _ _ _) (by omega) (Nat.le_refl _)).mono ?_; rintro e w' ⟨g, c, rfl, o1, b1⟩) | go_in)
  have k0 := own_cell o1 0 _ rfl
  refine wp_loop_rounds 1 ?_
  rw [rounds_succ]
  go_wp2
  all_goals go_ret
  all_goals exact ⟨rfl, b1⟩

/-- What an owned row holds reads so in any later world that keeps its block. -/
theorem own_cell_below {w w' : World} {base B : Nat} {e : TypeId} {g n cap : Nat} {xs : List Value} (h : w.ownsRow base e 1 (.slice (some ⟨g, 0, none⟩) n cap) n xs) (hb : Below B w w') (hg : g < B) (j : Nat) (u : Value) (hj : xs[j]? = some u) : w'.cell? ⟨g, j, none⟩ = some u :=
  (hb.cell (p := ⟨g, j, none⟩) hg).trans (own_cell h j u hj)

theorem own_lt {w : World} {base : Nat} {e : TypeId} {size g n cap : Nat} {xs : List Value} (h : w.ownsRow base e size (.slice (some ⟨g, 0, none⟩) n cap) n xs) : g < w.heap.size := by
  rcases h.2 with ⟨h0, _⟩ | ⟨g', cap', cur, hv, hb, hg, _⟩
  · simp at h0
  · simp only [Value.slice.injEq, Option.some.injEq, Addr.mk.injEq, and_true, true_and] at hv
    obtain ⟨rfl, rfl⟩ := hv
    exact (Array.getElem?_eq_some_iff.1 hg).1

set_option maxRecDepth 100000 in
theorem bytes9 (a : Option Addr) (len cap : Nat) (at_ bit : Int) (hn : len ≤ 65536) (w : World) : Calls Try.prog 9 #[.slice a len cap, .int .i32 at_, .int .i64 bit] w fun e w' => e = .returned (.bool true) ∧ w = w' := by
  go_enter Try.func9, Try.ntmps9
  go_wp2
  go_ret
  exact ⟨rfl, rfl⟩

set_option maxRecDepth 100000 in
set_option maxHeartbeats 800000 in
theorem decodes_out (a : Addr) (len cap : Nat) (zs : List Int) (at_ bit : Int) (ha1 : 65535 < at_) (hb0 : 0 ≤ bit) (hb1 : bit ≤ 63) (hn : len ≤ 65536) (w : World)
    (hl : zs.length = len) (hc : ∀ j v, (zs.map (Value.int .u32))[j]? = some v → w.cell? (a.add j) = some v) :
    Calls Try.prog 3 #[.slice (some a) len cap, .int .i32 at_, .int .i64 bit] w fun e w' => e = .returned (.bool true) ∧ Below w.heap.size w w' := by
  have H1 : ∀ v ∈ zs.map (Value.int .u32), v.oneCell' = true := by intro v hv; simp at hv; obtain ⟨z, _, rfl⟩ := hv; rfl
  have HL : Hid (zs.length = len) := hl
  have HC : Hid (∀ j v, (zs.map (Value.int .u32))[j]? = some v → w.cell? (a.add j) = some v) := hc
  clear hl hc
  go_enter Try.func3, Try.ntmps3
  go_wp2_with (go_at_call 9; refine (bytes9 (some a) len cap at_ bit hn w).mono ?_; rintro e w' ⟨rfl, rfl⟩)
  refine (cloneU32_some a len cap (zs.map (Value.int .u32)) w (by simpa using HL.out) HC.out H1 (by omega)).mono ?_
  rintro e W1 ⟨rfl, o1, b1⟩
  have c1 := fun j v hj => (World.ownsRow.cells o1 (g := w.heap.size) rfl j v hj)
  go_wp2_with fail
  refine (cloneU32_some ⟨w.heap.size, 0, none⟩ len len (zs.map (Value.int .u32)) W1 (by simpa using HL.out) c1 H1 (by omega)).mono ?_
  rintro e W2 ⟨rfl, o2, b2⟩
  go_wp2_with fail
  refine (zzAppend_out at_ bit ha1 _ _).mono ?_
  rintro e W3 ⟨rfl, rfl⟩
  have k1 : Hid (∀ j u, (zs.map (Value.int .u32))[j]? = some u → W3.cell? ⟨w.heap.size, j, none⟩ = some u) := fun j u hj => own_cell_below o1 b2 (own_lt o1) j u hj
  have k2 : Hid (∀ j u, (zs.map (Value.int .u32))[j]? = some u → W3.cell? ⟨W1.heap.size, j, none⟩ = some u) := fun j u hj => own_cell o2 j u hj
  have hB := b1.trans (b2.mono b1.size)
  clear o1 o2 b1 b2 c1 HC H1
  go_wp2
  go_loopw [47] (fun i wr => ∃ k m : Nat, k ≤ len ∧ i = .int .i64 k ∧ wr = W3.drewN m) (fun i _ => len - (intOf i).toNat)
  case atStart => exact ⟨0, 0, Nat.zero_le _, rfl, rfl⟩
  case round =>
    obtain ⟨k, m, hk, rfl, rfl⟩ := hrel
    by_cases hlt : k < len
    · have hx : (zs.map (Value.int .u32))[k]? = some (.int .u32 (zs[k]'(by rw [HL.out]; exact hlt))) := by simp [HL.out, hlt]
      have f1 : W3.cell? ⟨w.heap.size, k, none⟩ = some (.int .u32 (zs[k]'(by rw [HL.out]; exact hlt))) := k1.out k _ hx
      have f2 : W3.cell? ⟨W1.heap.size, k, none⟩ = some (.int .u32 (zs[k]'(by rw [HL.out]; exact hlt))) := k2.out k _ hx
      generalize (zs[k]'(by rw [HL.out]; exact hlt)) = x at f1 f2
      clear hx k1 k2
      go_wp2_with fail
      go_quiet (fail)
      go_wp2
      go_roundw
      case rel => exact ⟨k + 1, _, by omega, by go_num, rfl⟩
      case measure => simp [intOf]; omega
    · clear k1 k2
      go_wp2
      go_ret
      exact ⟨rfl, below_drewN hB _⟩
set_option maxRecDepth 100000 in
set_option maxHeartbeats 800000 in
theorem decodes_in (a : Addr) (len cap : Nat) (zs : List Int) (at_ bit : Int) (ha0 : 0 ≤ at_) (ha1 : at_ ≤ 65535) (hb0 : 0 ≤ bit) (hb1 : bit ≤ 63) (hn : len ≤ 65536) (w : World)
    (hl : zs.length = len) (hc : ∀ j v, (zs.map (Value.int .u32))[j]? = some v → w.cell? (a.add j) = some v) :
    Calls Try.prog 3 #[.slice (some a) len cap, .int .i32 at_, .int .i64 bit] w fun e w' => e = .returned (.bool true) ∧ Below w.heap.size w w' := by
  have hand := and_low at_ bit ha0 ha1 hb0 hb1
  have hdiv : (at_ * 64 + bit) / 64 = at_ := by omega
  have H1 : ∀ v ∈ zs.map (Value.int .u32), v.oneCell' = true := by intro v hv; simp at hv; obtain ⟨z, _, rfl⟩ := hv; rfl
  have HL : Hid (zs.length = len) := hl
  have HC : Hid (∀ j v, (zs.map (Value.int .u32))[j]? = some v → w.cell? (a.add j) = some v) := hc
  clear hl hc
  go_enter Try.func3, Try.ntmps3
  go_wp2_with (go_at_call 9; refine (bytes9 (some a) len cap at_ bit hn w).mono ?_; rintro e w' ⟨rfl, rfl⟩)
  refine (cloneU32_some a len cap (zs.map (Value.int .u32)) w (by simpa using HL.out) HC.out H1 (by omega)).mono ?_
  rintro e W1 ⟨rfl, o1, b1⟩
  have c1 := fun j v hj => (World.ownsRow.cells o1 (g := w.heap.size) rfl j v hj)
  go_wp2_with fail
  refine (cloneU32_some ⟨w.heap.size, 0, none⟩ len len (zs.map (Value.int .u32)) W1 (by simpa using HL.out) c1 H1 (by omega)).mono ?_
  rintro e W2 ⟨rfl, o2, b2⟩
  go_wp2_with fail
  refine (zzAppend_in at_ bit ha0 ha1 hb0 hb1 W1.heap.size _ len (zs.map (Value.int .u32)) W2 o2 (by omega) b2.size).mono ?_
  rintro e W3 ⟨g3, c3, rfl, o3, b3⟩
  have k1 : Hid (∀ j u, (zs.map (Value.int .u32))[j]? = some u → W3.cell? ⟨w.heap.size, j, none⟩ = some u) := fun j u hj => own_cell_below o1 (b2.trans b3) (own_lt o1) j u hj
  have k2 : Hid (∀ j u, (zs.map (Value.int .u32))[j]? = some u → W3.cell? ⟨g3, j, none⟩ = some u) := fun j u hj => own_cell o3 j u (by rw [List.getElem?_append_left (List.getElem?_eq_some_iff.1 hj).1]; exact hj)
  have k3 : W3.cell? ⟨g3, len, none⟩ = some (.int .u32 (at_ * 64 + bit)) := own_cell o3 len _ (by simp [HL.out])
  have hB := b1.trans ((b2.trans b3).mono b1.size)
  clear o1 o2 o3 b1 b2 b3 c1 HC H1
  go_wp2
  go_loopw [68] (fun i wr => ∃ k m : Nat, k ≤ len ∧ i = .int .i64 k ∧ wr = W3.drewN m) (fun i _ => len - (intOf i).toNat)
  case atStart => exact ⟨0, 0, Nat.zero_le _, rfl, rfl⟩
  case round =>
    obtain ⟨k, m, hk, rfl, rfl⟩ := hrel
    by_cases hlt : k < len
    · have hx : (zs.map (Value.int .u32))[k]? = some (.int .u32 (zs[k]'(by rw [HL.out]; exact hlt))) := by simp [HL.out, hlt]
      have f1 : W3.cell? ⟨w.heap.size, k, none⟩ = some (.int .u32 (zs[k]'(by rw [HL.out]; exact hlt))) := k1.out k _ hx
      have f2 : W3.cell? ⟨g3, k, none⟩ = some (.int .u32 (zs[k]'(by rw [HL.out]; exact hlt))) := k2.out k _ hx
      generalize (zs[k]'(by rw [HL.out]; exact hlt)) = x at f1 f2
      clear hx k1 k2
      go_wp2_with fail
      go_quiet (fail)
      go_wp2
      go_roundw
      case rel => exact ⟨k + 1, _, by omega, by go_num, rfl⟩
      case measure => simp [intOf]; omega
    · clear k1 k2
      obtain rfl : k = len := by omega
      go_wp2
      all_goals go_ret
      all_goals exact ⟨rfl, below_drewN hB _⟩

theorem decodes_walk (a0 : Option Addr) (len cap : Nat) (zs : List Int) (at_ bit : Int) (w : World) (hm : len ≤ 9223372036854775807)
    (h : (a0 = none ∧ len = 0 ∧ cap = 0) ∨ ∃ a, a0 = some a ∧ zs.length = len ∧ ∀ j v, (zs.map (Value.int .u32))[j]? = some v → w.cell? (a.add j) = some v) :
    Calls Try.prog 3 #[.slice a0 len cap, .int .i32 at_, .int .i64 bit] w fun e w' => e = .returned (.bool true) ∧ Below w.heap.size w w' := by
  by_cases he : 65536 < len ∨ at_ < 0 ∨ bit < 0 ∨ 63 < bit
  · exact decodes_early a0 len cap at_ bit he hm w
  · rcases h with ⟨rfl, rfl, rfl⟩ | ⟨a, rfl, hl, hc⟩
    · by_cases hi : at_ ≤ 65535
      · exact decodes_nil_in at_ bit (by omega) hi (by omega) (by omega) w
      · exact decodes_nil_out at_ bit (by omega) (by omega) (by omega) w
    · by_cases hi : at_ ≤ 65535
      · exact decodes_in a len cap zs at_ bit (by omega) hi (by omega) (by omega) (by omega) w hl hc
      · exact decodes_out a len cap zs at_ bit (by omega) (by omega) (by omega) (by omega) w hl hc
end Go.Proofs.Qxb6605960a
