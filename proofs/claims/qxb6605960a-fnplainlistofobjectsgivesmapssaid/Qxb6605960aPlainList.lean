import Derived.Test.Qxb6605960aZzObj
namespace Go.Proofs.Qxb6605960a
open Go.RowKit
set_option linter.unusedVariables false

theorem ObjAt.mono {n₀ n₁ : Nat} {W : World} {bo : Nat} {na : Option Addr} {bn bv len : Nat} {ns vs : List ByteArray} (h : ObjAt n₀ W bo na bn bv len ns vs) (hn : n₀ ≤ n₁) : ObjAt n₁ W bo na bn bv len ns vs :=
  ⟨Nat.lt_of_lt_of_le h.hbo hn, fun hp => Nat.lt_of_lt_of_le (h.hbn hp) hn, h.hna, Nat.lt_of_lt_of_le h.hbv hn, h.ln, h.lv, h.cn, h.cv, h.en, h.ev⟩

/-- A row of interface values, each an object. -/
def ObjsAt (n₀ : Nat) (W : World) (bv : Nat) (N V : List (List ByteArray)) : Prop :=
  ∀ (i : Nat) (r q : List ByteArray), N[i]? = some r → V[i]? = some q → ∃ bo na bn bvv, W.cell? ⟨bv, i, none⟩ = some (.iface 60 (.pointer (some ⟨bo, 0, none⟩))) ∧ ObjAt n₀ W bo na bn bvv r.length r q

theorem ObjsAt.below {n₀ : Nat} {W W' : World} {bv : Nat} {N V : List (List ByteArray)} (h : ObjsAt n₀ W bv N V) (hbv : bv < n₀) (hb : Below n₀ W W') : ObjsAt n₀ W' bv N V := by
  intro i r q hr hq
  obtain ⟨bo, na, bn, bvv, h1, h2⟩ := h i r q hr hq
  exact ⟨bo, na, bn, bvv, (hb.cell (p := ⟨bv, i, none⟩) hbv).trans h1, h2.below hb⟩

set_option maxRecDepth 100000 in
set_option maxHeartbeats 1000000 in
theorem plain_list (bv n : Nat) (N V : List (List ByteArray)) (hn : n ≤ 4096) (hN : N.length = n) (hV : V.length = n) (hrl : ∀ r ∈ N, r.length ≤ 4096) (w : World) (hbv : bv < w.heap.size) (hO : ObjsAt w.heap.size w bv N V) :
    Calls Try.prog 27 #[.iface 56 (.slice (some ⟨bv, 0, none⟩) n n)] w fun e w' => ∃ xs : List Value, e = .returned (.iface 56 (.slice (some ⟨w.heap.size, 0, none⟩) n n)) ∧ xs.length = n ∧ RowAt w' w.heap.size 20 xs ∧
      (∀ (j : Nat) (r q : List ByteArray), N[j]? = some r → V[j]? = some q → ∃ M, xs[j]? = some (.iface 57 (.map (some M))) ∧ M < w'.heap.size ∧ SMap w' M (mapOf (r.zip q))) ∧ Below w.heap.size w w' := by
  obtain ⟨i0, hi, hz0, hz1, hz2⟩ := info_parts Try.info20
  have t1 := ta_list_list (some ⟨bv, 0, none⟩) n n
  have HO := hide hO
  have HN := hide hN
  have HV := hide hV
  have HRL := hide hrl
  clear hO hN hV hrl
  go_enter Try.func27, Try.ntmps27
  go_wp2_with (at_make; refine wpList_make_full _ rfl _ _ 56 rfl w.heap.size 20 i0 .nilIface 1 Try.underlying56 hi hz0 hz1 _ _ _ _ n rfl rfl rfl rfl (by rw [hz2]; omega) (by unfold maxLen; omega) (Nat.le_refl _) ?_; intro w1 hown hgrow)
  obtain ⟨hR0, hl0⟩ := rowAt_of_own hown
  have hB1 : Below w.heap.size w w1 := (Below.refl _ _).grown hgrow (Nat.le_refl _) (fun k hk => by simp at hk)
  generalize (madeCells (Value.nilIface).cells (n * 1)).toList = xs0 at hR0 hl0
  clear hown hgrow hi hz0 hz1 hz2 t1
  go_loopw [20] (fun i wr => ∃ (k : Nat) (xs : List Value), k ≤ n ∧ i = .int .i64 k ∧ xs.length = n ∧ RowAt wr w.heap.size 20 xs ∧
      Hid (∀ (j : Nat) (r q : List ByteArray), j < k → N[j]? = some r → V[j]? = some q → ∃ M, xs[j]? = some (.iface 57 (.map (some M))) ∧ w.heap.size < M ∧ M < wr.heap.size ∧ SMap wr M (mapOf (r.zip q))) ∧ Below w.heap.size w wr) (fun i _ => n - (intOf i).toNat)
  case atStart => exact ⟨0, xs0, Nat.zero_le _, rfl, hl0, hR0, hide (fun j r q h => by omega), hB1⟩
  case round =>
    clear hR0 hl0 hB1 xs0
    obtain ⟨k, xs, hk, rfl, hxl, hR, hxs, hB⟩ := hrel
    by_cases hlt : k < n
    · have e1 : N[k]? = some (N[k]'(by rw [HN.out]; exact hlt)) := List.getElem?_eq_getElem _
      have e2 : V[k]? = some (V[k]'(by rw [HV.out]; exact hlt)) := List.getElem?_eq_getElem _
      generalize N[k]'(by rw [HN.out]; exact hlt) = r at e1
      generalize V[k]'(by rw [HV.out]; exact hlt) = q at e2
      obtain ⟨bo, na, bn, bvv, hc, hOb⟩ := HO.out.below hbv hB k r q e1 e2
      have hrl : r.length ≤ 4096 := HRL.out r (List.mem_of_getElem? e1)
      have HE1 := hide e1
      have HE2 := hide e2
      have HOB := hide (hOb.mono hB.size)
      have HR := hide hR
      have HL := hide hxl
      clear e1 e2 hOb hR hxl
      go_wp2_with fail
      refine (plain_object bo na bn bvv r.length r q hrl wr HOB.out).mono ?_
      rintro e w2 ⟨rfl, hS, hB2⟩
      have hlt1 := HR.out.lt
      have hR2 := HR.out.below hB2 hlt1
      obtain ⟨old, hst⟩ := hR2.old k (by rw [HL.out]; exact hlt)
      have hfz := hR2.frozen k
      have HR2 := hide hR2
      have HS := hide hS
      have HSl := hide hS.lt
      clear hR2 hS
      go_wp2
      go_roundw
      case rel => exact ⟨k + 1, xs.set k (.iface 57 (.map (some wr.heap.size))), by omega, by go_num, by simp [HL.out], HR2.out.set k _, hide (fun j r' q' hj hr' hq' => by
          by_cases hjk : j = k
          · subst hjk
            rw [HE1.out] at hr'; cases hr'
            rw [HE2.out] at hq'; cases hq'
            exact ⟨wr.heap.size, by rw [List.getElem?_set_self (by rw [HL.out]; omega)], hlt1, by have := HSl.out; simpa [World.setCell] using this, HS.out.same (Below.heap_setCell _ _ _ _ (by show wr.heap.size ≠ w.heap.size; omega))⟩
          · obtain ⟨M, h1, h2, h3, h4⟩ := hxs.out j r' q' (by omega) hr' hq'
            exact ⟨M, by rw [List.getElem?_set_ne (by omega)]; exact h1, h2, by have := hB2.size; simp [World.setCell]; omega, (h4.same (hB2.block M h3)).same (Below.heap_setCell _ _ _ _ (by show M ≠ w.heap.size; omega))⟩),
        (hB.trans (hB2.mono hB.size)).setCell (p := ⟨w.heap.size, k, none⟩) (Nat.le_refl _) _⟩
      case measure => simp [intOf]; omega
    · obtain rfl : k = n := by omega
      go_wp2
      go_ret
      refine ⟨xs, rfl, hxl, hR, fun j r q hr hq => ?_, hB⟩
      obtain ⟨M, h1, _, h3, h4⟩ := hxs.out j r q (by have := (List.getElem?_eq_some_iff.1 hr).1; rw [HN.out] at this; exact this) hr hq
      exact ⟨M, h1, h3, h4⟩
end Go.Proofs.Qxb6605960a
