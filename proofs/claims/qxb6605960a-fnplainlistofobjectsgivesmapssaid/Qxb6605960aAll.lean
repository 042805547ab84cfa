import Derived.RangeFuncNested
import Derived.RangeFuncBound
import Derived.RangeFuncCalls
import Derived.RangeFuncLeaves
import Derived.RangeFuncBox
import Derived.Shelf.Abstract
import Derived.Shelf.RegionOpen
import Derived.WalkKit
import Derived.OwnWalkIn
import Derived.TacticsInMore
import Derived.LoopNIn
import Derived.LoopIn
import Derived.WalkSmall
import Derived.Test.Qxb6605960aTail
import Derived.Test.Qxb6605960aRowAt
import Derived.Test.Qxb6605960aRows
namespace Go.Proofs.Qxb6605960a
open Go.RowKit Go.Shelf

attribute [local go_sem] Oper.semAt_some

/-- What a round keeps: all below n₀, and the box Bo. -/
def KpObj (n₀ Bo : Nat) (W W' : World) : Prop := Below n₀ W W' ∧ W'.heap[Bo]? = W.heap[Bo]?

theorem KpObj.trans {n₀ Bo : Nat} {A B C : World} (h : KpObj n₀ Bo A B) (k : KpObj n₀ Bo B C) : KpObj n₀ Bo A C := ⟨h.1.trans k.1, k.2.trans h.2⟩

theorem KpObj.of_drew {n₀ Bo : Nat} {A B : World} (h : KpObj n₀ Bo A.drew B) : KpObj n₀ Bo A B := ⟨((Below.refl n₀ A).drew).trans h.1, h.2⟩

/-- An object in memory: its two slices. -/
structure ObjAt (n₀ : Nat) (W : World) (bo : Nat) (na : Option Addr) (bn bv len : Nat) (ns vs : List ByteArray) : Prop where
  hbo : bo < n₀
  hbn : 0 < len → bn < n₀
  hna : 0 < len → na = some ⟨bn, 0, none⟩
  hbv : bv < n₀
  ln : ns.length = len
  lv : vs.length = len
  cn : W.cell? ⟨bo, 0, none⟩ = some (.slice na len len)
  cv : W.cell? ⟨bo, 1, none⟩ = some (.slice (some ⟨bv, 0, none⟩) len len)
  en : ∀ j (h : j < ns.length), W.cell? ⟨bn, j, none⟩ = some (.string ns[j])
  ev : ∀ j (h : j < vs.length), W.cell? ⟨bv, j, none⟩ = some (.iface 9 (.string vs[j]))

theorem ObjAt.below {n₀ : Nat} {W W' : World} {bo : Nat} {na : Option Addr} {bn bv len : Nat} {ns vs : List ByteArray} (h : ObjAt n₀ W bo na bn bv len ns vs) (hb : Below n₀ W W') : ObjAt n₀ W' bo na bn bv len ns vs :=
  ⟨h.hbo, h.hbn, h.hna, h.hbv, h.ln, h.lv, (hb.cell (p := ⟨bo, 0, none⟩) h.hbo).trans h.cn, (hb.cell (p := ⟨bo, 1, none⟩) h.hbo).trans h.cv,
    fun j hj => (hb.cell (p := ⟨bn, j, none⟩) (h.hbn (by have := h.ln; omega))).trans (h.en j hj), fun j hj => (hb.cell (p := ⟨bv, j, none⟩) h.hbv).trans (h.ev j hj)⟩

set_option maxRecDepth 100000 in
theorem len_in (F : Fence) (n : Nat) (hF : ∀ f, F.fn f) (hro : F.round = none) (bo len : Nat) (a : Option Addr) (cap : Nat) (w : World) (hc : w.cell? ⟨bo, 0, none⟩ = some (.slice a len cap)) :
    CallsIn F n Try.prog 28 #[.pointer (some ⟨bo, 0, none⟩)] w fun e w' => e = .returned (.int .i64 len) ∧ w = w' := by
  refine callsIn_of_wp Try.func28 rfl (hF _) ?_ hro
  simp only [Try.ntmps28, List.size_toArray, List.length_cons, List.length_nil, Nat.reduceAdd, Nat.reduceSub, Array.replicate_succ, Array.replicate_zero, List.push_toArray, List.append_toArray, List.nil_append, List.cons_append]
  gi_wp2
  go_ret
  exact ⟨rfl, rfl⟩

theorem drew_grown (w : World) : w.grownBy w.drew none := ⟨rfl, rfl, rfl, Nat.le_refl _, fun _ _ _ => rfl⟩

set_option maxRecDepth 100000 in
set_option maxHeartbeats 400000 in
theorem all1_in (F : Fence) (n : Nat) (hF : ∀ f, F.fn f) (hFw : Hid (F = Fence.wide)) (hro : F.round = none) (hn : 1 ≤ n) (l Bo n₀ bo : Nat) (na : Option Addr) (bn bv len : Nat) (ns vs : List ByteArray) (hlen : len ≤ 4096) (J Jx : List (ByteArray × ByteArray) → World → Prop)
    (W : World) (hAb : AbidesFrom W.heap.size J)
    (hY : ∀ pre x W, J pre W → pre.length < len → YieldAt F (n - 1) Try.prog l #[.string x.1, .iface 9 (.string x.2)] W fun e W' =>
      (e = .returned (.bool true) ∧ J (pre ++ [x]) W' ∧ KpObj n₀ Bo W W') ∨ (e = .returned (.bool false) ∧ Jx (pre ++ [x]) W'))
    (hBo : W.cell? ⟨Bo, 0, none⟩ = some (.pointer (some ⟨bo, 0, none⟩))) (hO : ObjAt n₀ W bo na bn bv len ns vs) (h0 : J [] W) :
    CallsIn F n Try.prog 30 #[.func (.yield l) #[] #[], .pointer (some ⟨Bo, 0, none⟩)] W fun e W' => (∃ v, e = .returned v) ∧
      ((∃ ys, ys = ns.zip vs ∧ J ys W') ∨ (∃ pre, pre <+: ns.zip vs ∧ Jx pre W')) := by
  refine callsIn_of_wp Try.func30 rfl (hF _) ?_ hro
  simp only [Try.ntmps30, List.size_toArray, List.length_cons, List.length_nil, Nat.reduceAdd, Nat.reduceSub, Array.replicate_succ, Array.replicate_zero, List.push_toArray, List.append_toArray, List.nil_append, List.cons_append]
  have hcn := hO.cn
  gi_wp2_with (gi_at_call 28; refine (len_in F _ hF hro bo len _ len W hcn).mono ?_; rintro e w' ⟨rfl, rfl⟩)
  gi_loopw [6] (fun i wr => ∃ k : Nat, k ≤ len ∧ i = .int .i64 k ∧ J ((ns.zip vs).take k) wr ∧ KpObj n₀ Bo W wr)
    (fun i _ => len - (intOf i).toNat)
  case atStart => exact ⟨0, Nat.zero_le _, rfl, h0, Below.refl _ _, rfl⟩
  case round =>
    obtain ⟨k, hk, rfl, hJs, hKp⟩ := hrel
    have hO' := hO.below hKp.1
    have hBo' : wr.cell? ⟨Bo, 0, none⟩ = some (.pointer (some ⟨bo, 0, none⟩)) := (World.cell?_of_block (w := W) (a := ⟨Bo, 0, none⟩) hKp.2).trans hBo
    by_cases hlt : k < len
    · have hln := hO.ln
      have hlv := hO.lv
      have hcn' := hO'.cn
      rw [hO'.hna (by omega)] at hcn'
      have hcv' := hO'.cv
      have hen := hO'.en k (by omega)
      have hev := hO'.ev k (by omega)
      have hz : (ns.zip vs).take (k + 1) = (ns.zip vs).take k ++ [(ns[k]'(by omega), vs[k]'(by omega))] := by
        rw [List.take_succ_eq_append_getElem (by simp; omega)]; simp
      obtain ⟨fn, tmps, assign, body, hy, hR⟩ := hY _ (ns[k]'(by omega), vs[k]'(by omega)) wr.drew (hAb _ _ _ none hJs (drew_grown _) (fun r e => by cases e)) (by simp; omega)
      generalize ns[k]'(by omega) = x at hz hen hy hR
      generalize vs[k]'(by omega) = y at hz hev hy hR
      have HZ := hide hz
      clear hz hln hlv
      dsimp only at hy
      have hmx : Try.prog.follows .mixedOrders = true := by kernel_rfl
      gi_wp2
      refine wpIn_region_still_tail 15 hFw.out hmx (by kernel_rfl) ?_
      simp only [List.take_succ_cons, List.take_zero, List.drop_succ_cons, List.drop_zero]
      repeat still_step
      refine wpStill_nil ?_
      gi_wp2_with fail
      refine hR.mono ?_
      rintro e W3 (⟨rfl, hJ3, hk3⟩ | ⟨rfl, hJx3⟩)
      · gi_wp2
        go_roundw
        case rel => exact ⟨k + 1, by omega, by simp, by rw [HZ.out]; exact hJ3, hKp.trans (hk3.of_drew)⟩
        case measure => simp [intOf]; omega
      · gi_wp2
        refine bodyPost_ret (results_none rfl _ _ _) rfl ?_
        exact ⟨⟨_, rfl⟩, .inr ⟨_, ⟨(ns.zip vs).drop (k + 1), by rw [← HZ.out]; exact List.take_append_drop _ _⟩, hJx3⟩⟩
    · have hz : (ns.zip vs).take k = ns.zip vs := List.take_of_length_le (by simp [hO.ln, hO.lv]; omega)
      rw [hz] at hJs
      clear hz
      gi_wp2
      go_end0
      exact ⟨⟨_, rfl⟩, .inl ⟨_, rfl, hJs⟩⟩

set_option maxHeartbeats 1000000 in
/-- '(*Object).All': the receiver is boxed; the function value captures the box. -/
theorem all_in (F : Fence) (n : Nat) (hF : ∀ f, F.fn f) (hro : F.round = none) (p0 : Option Addr) (w : World) :
    CallsIn F n Try.prog 29 #[.pointer p0] w fun e w' => e = .returned (.func (.func 30) #[] #[.pointer (some ⟨w.heap.size, 0, none⟩)]) ∧ w' = w.alloc (.cells #[.pointer p0] 60) := by
  refine callsIn_of_wp Try.func29 rfl (hF _) ?_ hro
  simp only [Try.ntmps29, List.size_toArray, List.length_cons, List.length_nil, Nat.reduceAdd, Nat.reduceSub, Array.replicate_succ, Array.replicate_zero, List.push_toArray, List.append_toArray, List.nil_append, List.cons_append]
  gi_wp2
  go_ret
  exact ⟨rfl, rfl⟩

theorem all_stops (F : Fence) (n : Nat) (hF : ∀ f, F.fn f) (hFw : Hid (F = Fence.wide)) (hro : F.round = none) (hn : 1 ≤ n) (Bo n₀ bo : Nat) (na : Option Addr) (bn bv len : Nat) (ns vs : List ByteArray) (hlen : len ≤ 4096) (w : World) (hBo : Bo < w.heap.size) (hn₀ : n₀ ≤ w.heap.size)
    (hc : w.cell? ⟨Bo, 0, none⟩ = some (.pointer (some ⟨bo, 0, none⟩))) (hO : ObjAt n₀ w bo na bn bv len ns vs) :
    SeqStopsK F n Try.prog 30 #[.pointer (some ⟨Bo, 0, none⟩)] (fun x : ByteArray × ByteArray => #[Value.string x.1, Value.iface 9 (Value.string x.2)]) (KpObj n₀ Bo) (fun ys => ys = ns.zip vs) (fun pre => pre <+: ns.zip vs) len w := fun l J Jx W hW hJ _ hY h0 =>
  all1_in F n hF hFw hro hn l Bo n₀ bo na bn bv len ns vs hlen J Jx W hJ hY ((hW.cell (p := ⟨Bo, 0, none⟩) hBo).trans hc) (hO.below (hW.mono hn₀)) h0
end Go.Proofs.Qxb6605960a
