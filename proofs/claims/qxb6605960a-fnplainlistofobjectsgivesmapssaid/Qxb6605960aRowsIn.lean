import Derived.Test.Qxb6605960aObjIn
namespace Go.Proofs.Qxb6605960a
open Go.RowKit
set_option linter.unusedVariables false

theorem Try.info35 : (Try.prog.info? 35).map (fun i => (i.zero, i.size, i.bytes)) = some (some (.slice none 0 0), 1, 24) := by kernel_rfl

/-- A slice of slices of strings that came in. -/
structure InRows (w : World) (a : Option Addr) (b off len cap : Nat) (rs : List (List ByteArray)) : Prop where
  l : rs.length = len
  nil : a = none → len = 0 ∧ cap = 0
  ha : 0 < len → a = some ⟨b, off, none⟩
  c : ∀ i r, rs[i]? = some r → ∃ ra rb ro rc, w.cell? ⟨b, off + i, none⟩ = some (.slice ra r.length rc) ∧ InStr w ra rb ro r.length rc r ∧ r.length ≤ 9223372036854775807

/-- A slice of slices of strings of the call's own. -/
structure RowsAt (n₀ : Nat) (w : World) (a : Option Addr) (b len : Nat) (rs : List (List ByteArray)) : Prop where
  l : rs.length = len
  ha : 0 < len → a = some ⟨b, 0, none⟩
  hb : 0 < len → b < n₀
  c : ∀ i r, rs[i]? = some r → ∃ na bn, w.cell? ⟨b, i, none⟩ = some (.slice na r.length r.length) ∧ StrAt n₀ w na bn r.length r

theorem InRows.below {w w' : World} {a : Option Addr} {b off len cap : Nat} {rs : List (List ByteArray)} (h : InRows w a b off len cap rs) (hb : Below w.heap.size w w') : InRows w' a b off len cap rs := by
  refine ⟨h.l, h.nil, h.ha, fun i r hr => ?_⟩
  obtain ⟨ra, rb, ro, rc, h1, h2, h3⟩ := h.c i r hr
  exact ⟨ra, rb, ro, rc, (hb.cell (p := ⟨b, off + i, none⟩) (World.block_lt_of_cell? w _ h1)).trans h1, h2.below hb, h3⟩
theorem RowsAt.below {n₀ : Nat} {w w' : World} {a : Option Addr} {b len : Nat} {rs : List (List ByteArray)} (h : RowsAt n₀ w a b len rs) (hb : Below n₀ w w') : RowsAt n₀ w' a b len rs := by
  refine ⟨h.l, h.ha, h.hb, fun i r hr => ?_⟩
  obtain ⟨na, bn, h1, h2⟩ := h.c i r hr
  have hi : i < rs.length := (List.getElem?_eq_some_iff.1 hr).1
  exact ⟨na, bn, (hb.cell (p := ⟨b, i, none⟩) (h.hb (by have := h.l; omega))).trans h1, h2.below hb⟩
theorem RowsAt.mono {n₀ n₁ : Nat} {w : World} {a : Option Addr} {b len : Nat} {rs : List (List ByteArray)} (h : RowsAt n₀ w a b len rs) (hn : n₀ ≤ n₁) : RowsAt n₁ w a b len rs :=
  ⟨h.l, h.ha, fun hp => Nat.lt_of_lt_of_le (h.hb hp) hn, fun i r hr => by obtain ⟨na, bn, h1, h2⟩ := h.c i r hr; exact ⟨na, bn, h1, h2.mono hn⟩⟩
theorem InRows.at {w : World} {a : Option Addr} {b off len cap : Nat} {rs : List (List ByteArray)} (h : InRows w a b off len cap rs) (k : Nat) (hk : k < len) :
    ∃ r ra rb ro rc, rs[k]? = some r ∧ a = some ⟨b, off, none⟩ ∧ w.cell? ⟨b, off + k, none⟩ = some (.slice ra r.length rc) ∧ InStr w ra rb ro r.length rc r ∧ r.length ≤ 9223372036854775807 := by
  have hl : k < rs.length := by have := h.l; omega
  obtain ⟨ra, rb, ro, rc, h1, h2, h3⟩ := h.c k _ (List.getElem?_eq_getElem hl)
  exact ⟨rs[k], ra, rb, ro, rc, List.getElem?_eq_getElem hl, h.ha (by omega), h1, h2, h3⟩
theorem RowsAt.at {n₀ : Nat} {w : World} {a : Option Addr} {b len : Nat} {rs : List (List ByteArray)} (h : RowsAt n₀ w a b len rs) (k : Nat) (hk : k < len) :
    ∃ r na bn, rs[k]? = some r ∧ a = some ⟨b, 0, none⟩ ∧ w.cell? ⟨b, k, none⟩ = some (.slice na r.length r.length) ∧ StrAt n₀ w na bn r.length r := by
  have hl : k < rs.length := by have := h.l; omega
  obtain ⟨na, bn, h1, h2⟩ := h.c k _ (List.getElem?_eq_getElem hl)
  exact ⟨rs[k], na, bn, List.getElem?_eq_getElem hl, h.ha (by omega), h1, h2⟩

theorem size_setCell (w : World) (a : Addr) (v : Value) : (w.setCell a v).heap.size = w.heap.size := by simp [World.setCell]

theorem StrAt.setOther {n₀ : Nat} {w : World} {a : Option Addr} {b len : Nat} {xs : List ByteArray} (h : StrAt n₀ w a b len xs) (g j : Nat) (v : Value) (hne : 0 < len → b ≠ g) : StrAt n₀ (w.setCell ⟨g, j, none⟩ v) a b len xs :=
  ⟨h.l, h.ha, h.hb, fun i hi => (World.cell?_of_block (w := w) (a := ⟨b, i, none⟩) (Below.heap_setCell w ⟨g, j, none⟩ v b (hne (by have := h.l; omega)))).trans (h.c i hi)⟩

theorem cloneS2 (a : Option Addr) (b off len cap : Nat) (ss : List ByteArray) (w : World) (h : InStr w a b off len cap ss) (hn : len ≤ 4096) :
    Calls Try.prog 18 #[.slice a len cap] w fun e w' => ∃ na bn, e = .returned (.slice na len len) ∧ StrAt w'.heap.size w' na bn len ss ∧ (0 < len → w.heap.size ≤ bn) ∧ Below w.heap.size w w' := by
  cases a with
  | none =>
    obtain ⟨rfl, rfl⟩ := h.nil rfl
    refine (cloneStrings_nil w).mono ?_
    rintro e w' ⟨rfl, rfl⟩
    exact ⟨none, 0, rfl, ⟨h.l, fun hp => by omega, fun hp => by omega, fun j hj => by have := h.l; omega⟩, fun hp => by omega, Below.refl _ _⟩
  | some ad =>
    have hc : ∀ j v, (ss.map Value.string)[j]? = some v → w.cell? (ad.add j) = some v := by
      intro j v hv
      have hj : j < ss.length := by have := (List.getElem?_eq_some_iff.1 hv).1; simpa using this
      have ha := h.ha (by have := h.l; omega)
      cases ha
      rw [addr_add, h.c j hj]
      simp [hj] at hv
      rw [hv]
    refine (cloneStrings_some ad len cap (ss.map Value.string) w (by simpa using h.l) hc (fun v hv => by simp at hv; obtain ⟨z, _, rfl⟩ := hv; rfl) (by omega)).mono ?_
    rintro e w' ⟨rfl, hown, hb⟩
    obtain ⟨hR, hl⟩ := rowAt_of_own hown
    exact ⟨_, w.heap.size, rfl, ⟨h.l, fun _ => rfl, fun _ => hR.lt, fun j hj => hR.cell' j _ (by simp [hj])⟩, fun _ => Nat.le_refl _, hb⟩

set_option maxRecDepth 100000 in
theorem cloneRows_nil (w : World) : Calls Try.prog 23 #[.slice none 0 0] w fun e w' => e = .returned (.slice none 0 0) ∧ w' = w := by
  have hq := fun (wx : World) => Lib.run_eql_slice_nil (P := Try.prog) wx 45 35 none 0 0 0 0 Try.underlying45
  go_enter Try.func23, Try.ntmps23
  go_wp2
  go_ret
  exact ⟨rfl, rfl⟩

set_option maxRecDepth 100000 in
set_option maxHeartbeats 1000000 in
theorem cloneRows_some (ad : Addr) (b off len cap : Nat) (rs : List (List ByteArray)) (w : World) (h : InRows w (some ad) b off len cap rs) (hn : len ≤ 4096) (hr : ∀ r ∈ rs, r.length ≤ 4096) :
    Calls Try.prog 23 #[.slice (some ad) len cap] w fun e w' => e = .returned (.slice (some ⟨w.heap.size, 0, none⟩) len len) ∧ RowsAt w'.heap.size w' (some ⟨w.heap.size, 0, none⟩) w.heap.size len rs ∧ Below w.heap.size w w' := by
  obtain ⟨i0, hi, hz0, hz1, hz2⟩ := info_parts Try.info35
  have hq := fun (wx : World) => Lib.run_eql_slice_nil (P := Try.prog) wx 45 35 (some ad) len cap 0 0 Try.underlying45
  have HI := hide h
  have HRL := hide hr
  clear h hr
  go_enter Try.func23, Try.ntmps23
  go_wp2_with (at_make; refine wpList_make_full _ rfl _ _ 45 rfl w.heap.size 35 i0 (.slice none 0 0) 1 Try.underlying45 hi hz0 hz1 _ _ _ _ len rfl rfl rfl rfl (by rw [hz2]; omega) (by unfold maxLen; omega) (Nat.le_refl _) ?_; intro w1 hown hgrow)
  obtain ⟨hR0, hl0⟩ := rowAt_of_own hown
  have hB1 : Below w.heap.size w w1 := (Below.refl _ _).grown hgrow (Nat.le_refl _) (fun k hk => by simp at hk)
  generalize (madeCells (Value.slice none 0 0).cells (len * 1)).toList = xs0 at hR0 hl0
  clear hown hgrow hi hz0 hz1 hz2
  go_loopw [12] (fun i wr => ∃ (k : Nat) (xs : List Value), k ≤ len ∧ i = .int .i64 k ∧ xs.length = len ∧ RowAt wr w.heap.size 35 xs ∧ Hid (∀ j r, j < k → rs[j]? = some r → ∃ na bn, xs[j]? = some (.slice na r.length r.length) ∧ StrAt wr.heap.size wr na bn r.length r ∧ (0 < r.length → w.heap.size < bn)) ∧ Below w.heap.size w wr) (fun i _ => len - (intOf i).toNat)
  case atStart => exact ⟨0, xs0, Nat.zero_le _, rfl, hl0, hR0, hide (fun j r h => by omega), hB1⟩
  case round =>
    clear hR0 hl0 hB1 xs0
    obtain ⟨k, xs, hk, rfl, hxl, hR, hxs, hB⟩ := hrel
    by_cases hlt : k < len
    · obtain ⟨r, ra, rb, ro, rc, hr1, ha, hc, hIn, _⟩ := HI.out.at k hlt
      have hcw : wr.cell? ⟨b, off + k, none⟩ = some (.slice ra r.length rc) := (hB.cell (p := ⟨b, off + k, none⟩) (World.block_lt_of_cell? w _ hc)).trans hc
      have HRr := hide hr1
      have HIn := hide (hIn.below hB)
      have hrl : r.length ≤ 4096 := HRL.out r (List.mem_of_getElem? hr1)
      have HR := hide hR
      have HL := hide hxl
      cases ha
      clear hr1 hIn hc hR hxl
      go_wp2_with fail
      refine (cloneS2 ra rb ro r.length rc r wr HIn.out hrl).mono ?_
      rintro e w2 ⟨na, bn, rfl, hSt, hfr, hB2⟩
      have HFR := hide hfr
      clear hfr
      have hR2 := HR.out.below hB2 HR.out.lt
      obtain ⟨old, hst⟩ := hR2.old k (by rw [HL.out]; exact hlt)
      have hfz := hR2.frozen k
      have HR2 := hide hR2
      have HSt := hide hSt
      have hlt2 := HR.out.lt
      clear hR2 hSt
      go_wp2
      go_roundw
      case rel => exact ⟨k + 1, xs.set k (.slice na r.length r.length), by omega, by go_num, by simp [HL.out], HR2.out.set k _, hide (fun j q hj hq => by
          rw [size_setCell]
          by_cases hjk : j = k
          · subst hjk
            rw [HRr.out] at hq; cases hq
            exact ⟨na, bn, by rw [List.getElem?_set_self (by rw [HL.out]; omega)], HSt.out.setOther _ _ _ (fun hp => by have := HFR.out hp; omega), fun hp => by have := HFR.out hp; omega⟩
          · obtain ⟨na', bn', h1, h2, h3⟩ := hxs.out j q (by omega) hq
            exact ⟨na', bn', by rw [List.getElem?_set_ne (by omega)]; exact h1, ((h2.below hB2).mono hB2.size).setOther _ _ _ (fun hp => by have := h3 hp; omega), h3⟩),
        (hB.trans (hB2.mono hB.size)).setCell (p := ⟨w.heap.size, k, none⟩) (Nat.le_refl _) _⟩
      case measure => simp [intOf]; omega
    · obtain rfl : k = len := by omega
      go_wp2
      go_ret
      refine ⟨rfl, ⟨HI.out.l, fun _ => rfl, fun _ => hR.lt, fun i r hr => ?_⟩, hB⟩
      have hi : i < k := by have := (List.getElem?_eq_some_iff.1 hr).1; rw [HI.out.l] at this; exact this
      obtain ⟨na, bn, h1, h2, _⟩ := hxs.out i r hi hr
      exact ⟨na, bn, hR.cell' i _ h1, h2⟩

theorem cloneR (a : Option Addr) (b off len cap : Nat) (rs : List (List ByteArray)) (w : World) (h : InRows w a b off len cap rs) (hn : len ≤ 4096) (hr : ∀ r ∈ rs, r.length ≤ 4096) :
    Calls Try.prog 23 #[.slice a len cap] w fun e w' => ∃ na bn, e = .returned (.slice na len len) ∧ RowsAt w'.heap.size w' na bn len rs ∧ Below w.heap.size w w' := by
  cases a with
  | none =>
    obtain ⟨rfl, rfl⟩ := h.nil rfl
    refine (cloneRows_nil w).mono ?_
    rintro e w' ⟨rfl, rfl⟩
    exact ⟨none, 0, rfl, ⟨h.l, fun hp => by omega, fun hp => by omega, fun i r hr' => by have := (List.getElem?_eq_some_iff.1 hr').1; have := h.l; omega⟩, Below.refl _ _⟩
  | some ad =>
    refine (cloneRows_some ad b off len cap rs w h hn hr).mono ?_
    rintro e w' ⟨rfl, h1, h2⟩
    exact ⟨_, _, rfl, h1, h2⟩
end Go.Proofs.Qxb6605960a
