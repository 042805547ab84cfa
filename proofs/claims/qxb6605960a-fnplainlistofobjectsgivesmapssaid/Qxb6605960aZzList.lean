import Derived.Test.Qxb6605960aPlainList
import Derived.Test.Qxb6605960aRowsIn
import Derived.Test.Qxb6605960aSortBase
namespace Go.Proofs.Qxb6605960a
open Go.RowKit
set_option linter.unusedVariables false

theorem Try.info38 : (Try.prog.info? 38).map (fun i => (i.zero, i.size, i.bytes)) = some (some (.slice none 0 0), 1, 24) := by kernel_rfl

theorem ObjAt.setOther {n₀ : Nat} {W : World} {bo : Nat} {na : Option Addr} {bn bv len : Nat} {ns vs : List ByteArray} (h : ObjAt n₀ W bo na bn bv len ns vs) (g j : Nat) (v : Value) (h1 : bo ≠ g) (h2 : bv ≠ g) (h3 : 0 < len → bn ≠ g) :
    ObjAt n₀ (W.setCell ⟨g, j, none⟩ v) bo na bn bv len ns vs := by
  have k : ∀ b i, b ≠ g → (W.setCell ⟨g, j, none⟩ v).cell? ⟨b, i, none⟩ = W.cell? ⟨b, i, none⟩ := fun b i hb => World.cell?_of_block (w := W) (a := ⟨b, i, none⟩) (Below.heap_setCell W ⟨g, j, none⟩ v b hb)
  exact ⟨h.hbo, h.hbn, h.hna, h.hbv, h.ln, h.lv, (k bo 0 h1).trans h.cn, (k bo 1 h1).trans h.cv, fun i hi => (k bn i (h3 (by have := h.ln; omega))).trans (h.en i hi), fun i hi => (k bv i h2).trans (h.ev i hi)⟩

/-- What is known of element j of the list of objects. -/
def ObjIx (wr : World) (gv : Nat) (xs : List Value) (j : Nat) (r q : List ByteArray) : Prop :=
  ∃ bo na bn bvv, xs[j]? = some (.iface 60 (.pointer (some ⟨bo, 0, none⟩))) ∧ ObjAt wr.heap.size wr bo na bn bvv r.length r q ∧ gv < bo ∧ gv < bvv ∧ (0 < r.length → bn < gv)

theorem ObjIx.keep {wr w' : World} {gv : Nat} {xs xs' : List Value} {j : Nat} {r q : List ByteArray} (h : ObjIx wr gv xs j r q) (hb : Below wr.heap.size wr w') (hx : xs'[j]? = xs[j]?) (k : Nat) (v : Value) : ObjIx (w'.setCell ⟨gv, k, none⟩ v) gv xs' j r q := by
  obtain ⟨bo, na, bn, bvv, h1, h2, h3, h4, h5⟩ := h
  refine ⟨bo, na, bn, bvv, hx.trans h1, ?_, h3, h4, h5⟩
  rw [size_setCell]
  exact ((h2.below hb).mono hb.size).setOther _ _ _ (by omega) (by omega) (fun hp => by have := h5 hp; omega)

theorem below_le {n : Nat} {a b : World} (h : Below n a b) (hn : n ≤ a.heap.size) : n ≤ b.heap.size := Nat.le_trans hn h.size

/-- What is known of row j of the answers. -/
def AnsIx (wr : World) (lo : Nat) (ms ss gs fs : List Value) (j : Nat) (r q : List ByteArray) : Prop :=
  ms[j]? = some (.bool true) ∧ ss[j]? = some (.int .i64 (firsts (kyOf r) r.length)) ∧ ∃ (g f : Nat) (gl fl : List Value), gs[j]? = some (.slice (some ⟨g, 0, none⟩) r.length r.length) ∧ fs[j]? = some (.slice (some ⟨f, 0, none⟩) r.length r.length) ∧
    lo < g ∧ g < wr.heap.size ∧ lo < f ∧ f < wr.heap.size ∧ RowAt wr g 9 gl ∧ RowAt wr f 4 fl ∧
    (∀ (l : Nat) (x : ByteArray), r[l]? = some x → gl[l]? = some (.string ((lastV (r.zip q) x).getD ByteArray.empty))) ∧ (∀ l, l < r.length → fl[l]? = some (.bool true))

theorem AnsIx.keep {wr w' : World} {lo : Nat} {ms ss gs fs ms' ss' gs' fs' : List Value} {j : Nat} {r q : List ByteArray} (h : AnsIx wr lo ms ss gs fs j r q) (hk : ∀ b, lo < b → b < wr.heap.size → w'.heap[b]? = wr.heap[b]?) (hs : wr.heap.size ≤ w'.heap.size)
    (h1 : ms'[j]? = ms[j]?) (h2 : ss'[j]? = ss[j]?) (h3 : gs'[j]? = gs[j]?) (h4 : fs'[j]? = fs[j]?) : AnsIx w' lo ms' ss' gs' fs' j r q := by
  obtain ⟨a1, a2, g, f, gl, fl, a3, a4, a5, a6, a7, a8, a9, a10, a11, a12⟩ := h
  exact ⟨h1.trans a1, h2.trans a2, g, f, gl, fl, h3.trans a3, h4.trans a4, a5, by omega, a7, by omega, (hk g a5 a6).trans a9, (hk f a7 a8).trans a10, a11, a12⟩

set_option maxRecDepth 100000 in
set_option maxHeartbeats 2000000 in
theorem zzList (na va : Option Addr) (bn bv n : Nat) (N V : List (List ByteArray)) (hn : n ≤ 4096) (w : World) (hN : RowsAt w.heap.size w na bn n N) (hV : RowsAt w.heap.size w va bv n V) (hrl : ∀ r ∈ N, r.length ≤ 4096)
    (heq : ∀ (i : Nat) (r q : List ByteArray), N[i]? = some r → V[i]? = some q → q.length = r.length) :
    Calls Try.prog 24 #[.slice na n n, .slice va n n] w fun e w' => ∃ (gm gs gg gf : Nat) (ms ss gl fl : List Value), e = .returned (.tuple #[.bool true, .int .i64 n, .slice (some ⟨gm, 0, none⟩) n n, .slice (some ⟨gs, 0, none⟩) n n, .slice (some ⟨gg, 0, none⟩) n n, .slice (some ⟨gf, 0, none⟩) n n]) ∧
      RowAt w' gm 4 ms ∧ RowAt w' gs 3 ss ∧ RowAt w' gg 35 gl ∧ RowAt w' gf 38 fl ∧ (∀ (j : Nat) (r q : List ByteArray), N[j]? = some r → V[j]? = some q → AnsIx w' gf ms ss gl fl j r q) ∧ Below w.heap.size w w' := by
  obtain ⟨i0, hi, hz0, hz1, hz2⟩ := info_parts Try.info20
  have HN := hide hN
  have HV := hide hV
  have HRL := hide hrl
  have HEQ := hide heq
  clear hN hV hrl heq
  go_enter Try.func24, Try.ntmps24
  go_wp2_with fail
  obtain ⟨w1, hrun, hown, hgrow⟩ := run_make_full (P := Try.prog) w w.heap.size 56 20 i0 .nilIface 1 Try.underlying56 hi hz0 hz1 .i64 .i64 n (by rw [hz2]; omega) (by unfold maxLen; omega) (Nat.le_refl _)
  rw [hrun]
  clear hrun
  obtain ⟨hR0, hl0⟩ := rowAt_of_own hown
  have hB1 : Below w.heap.size w w1 := (Below.refl _ _).grown hgrow (Nat.le_refl _) (fun k hk => by simp at hk)
  generalize (madeCells (Value.nilIface).cells (n * 1)).toList = xs0 at hR0 hl0
  clear hown hgrow
  go_wp2_with fail
  go_loopw [30] (fun i wr => ∃ (k : Nat) (xs : List Value), k ≤ n ∧ i = .int .i64 k ∧ xs.length = n ∧ RowAt wr w.heap.size 20 xs ∧ Hid (∀ (j : Nat) (r q : List ByteArray), j < k → N[j]? = some r → V[j]? = some q → ObjIx wr w.heap.size xs j r q) ∧ Below w.heap.size w wr) (fun i _ => n - (intOf i).toNat)
  case atStart => exact ⟨0, xs0, Nat.zero_le _, rfl, hl0, hR0, hide (fun j r q h => by omega), hB1⟩
  case round =>
    clear hR0 hl0 hB1 xs0
    obtain ⟨k, xs, hk, rfl, hxl, hR, hxs, hB⟩ := hrel
    by_cases hlt : k < n
    · obtain ⟨r, rna, rbn, hr, hna, hcn, hSn⟩ := (HN.out.below hB).at k hlt
      obtain ⟨q, qna, qbn, hq, hva, hcv, hSv⟩ := (HV.out.below hB).at k hlt
      have hrl : r.length ≤ 4096 := HRL.out r (List.mem_of_getElem? hr)
      have hqr : q.length = r.length := HEQ.out k r q hr hq
      have hql : q.length ≤ 4096 := by omega
      have HQR := hide hqr
      have HRr := hide hr
      have HQq := hide hq
      have HSn := hide hSn
      have HSv := hide hSv
      have HR := hide hR
      have HL := hide hxl
      have hlt1 := hR.lt
      subst hna
      subst hva
      clear hqr hr hq hSn hSv hR hxl
      go_wp2_with fail
      obtain ⟨w2, hrun, hown, hgrow⟩ := run_make_full (P := Try.prog) wr wr.heap.size 56 20 i0 .nilIface 1 Try.underlying56 hi hz0 hz1 .i64 .i64 q.length (by rw [hz2]; omega) (by unfold maxLen; omega) (Nat.le_refl _)
      rw [hrun]
      clear hrun
      obtain ⟨hR0, hl0⟩ := rowAt_of_own hown
      have hB1 : Below wr.heap.size wr w2 := (Below.refl _ _).grown hgrow (Nat.le_refl _) (fun k hk => by simp at hk)
      generalize (madeCells (Value.nilIface).cells (q.length * 1)).toList = ys0 at hR0 hl0
      have hcv2 := (hB1.cell (p := ⟨bv, k, none⟩) (World.block_lt_of_cell? wr _ hcv)).trans hcv
      clear hown hgrow
      have hgle := hB.size
      have HOLD := hide (fun (w' : World) (hb : Below wr.heap.size wr w') => (⟨HSn.out.below (hb.mono hB.size), (hb.cell (p := ⟨bn, k, none⟩) (World.block_lt_of_cell? wr _ hcn)).trans hcn, fun j r' q' (hj : j < k) hr' hq' k' v xs' hx => (hxs.out j r' q' hj hr' hq').keep (xs' := xs') hb hx k' v, HR.out.below hb hlt1, hB.trans (hb.mono hB.size), hb.size⟩ : StrAt w.heap.size w' rna rbn r.length r ∧ w'.cell? ⟨bn, k, none⟩ = some (.slice rna r.length r.length) ∧
          (∀ j r' q', j < k → N[j]? = some r' → V[j]? = some q' → ∀ k' v (xs' : List Value), xs'[j]? = xs[j]? → ObjIx (w'.setCell ⟨w.heap.size, k', none⟩ v) w.heap.size xs' j r' q') ∧ RowAt w' w.heap.size 20 xs ∧ Below w.heap.size w w' ∧ wr.heap.size ≤ w'.heap.size))
      have HSq := hide (fun (w' : World) (hb : Below wr.heap.size wr w') => HSv.out.below (hb.mono hB.size))
      generalize hgq : wr.heap.size = gq at hR0 hB1 hgle hlt1 HOLD HSq ⊢
      have HGQ := hide hgq
      clear hgq
      go_wp2_with fail
      go_loopw [44] (fun i wr' => ∃ (j : Nat) (ys : List Value), j ≤ q.length ∧ i = .int .i64 j ∧ ys.length = q.length ∧ RowAt wr' gq 20 ys ∧ Hid (∀ l y, l < j → q[l]? = some y → ys[l]? = some (.iface 9 (.string y))) ∧ Below gq wr wr') (fun i _ => q.length - (intOf i).toNat)
      case atStart => exact ⟨0, ys0, Nat.zero_le _, rfl, hl0, hR0, hide (fun l y h => by omega), hB1⟩
      case round =>
        clear hR0 hl0 hB1 ys0 hcv2
        obtain ⟨j, ys, hj, rfl, hyl, hRy, hys, hB2⟩ := hrel
        by_cases hlj : j < q.length
        · obtain ⟨y, hy, hqa, hcy⟩ := (HSq.out _ hB2).at j hlj
          obtain ⟨old, hst⟩ := hRy.old j (by omega)
          have hfz := hRy.frozen j
          have HY := hide hy
          have HRy := hide hRy
          have HYL := hide hyl
          subst hqa
          clear hy hRy hyl
          go_wp2
          go_roundw
          case rel => exact ⟨j + 1, ys.set j (.iface 9 (.string y)), by omega, by go_num, by simp [HYL.out], HRy.out.set j _, hide (fun l z hl hz => by
              by_cases hlj : l = j
              · subst hlj
                rw [HY.out] at hz; cases hz
                rw [List.getElem?_set_self (by rw [HYL.out]; omega)]
              · rw [List.getElem?_set_ne (by omega)]; exact hys.out l z (by omega) hz), hB2.setCell (p := ⟨gq, j, none⟩) (Nat.le_refl _) _⟩
          case measure => simp [intOf]; omega
        · obtain rfl : j = q.length := by omega
          have hgs := hB2.size
          have hgw : gq ≤ wr.heap.size := by have := HGQ.out; have := hB2.size; omega
          have hcn2 := (HOLD.out _ hB2).2.1
          obtain ⟨o1, _, o3, o4, o5, _⟩ := HOLD.out _ (hB2.alloc hgw (.cells #[.slice rna r.length r.length, .slice (some ⟨gq, 0, none⟩) q.length q.length, .slice none 0 0, .map none] 63))
          obtain ⟨old, hst⟩ := o4.old k (by rw [HL.out]; exact hlt)
          have hfz := o4.frozen k
          have hOb : ObjAt (wr.heap.size + 1) (wr.alloc (.cells #[.slice rna r.length r.length, .slice (some ⟨gq, 0, none⟩) q.length q.length, .slice none 0 0, .map none] 63)) wr.heap.size rna rbn gq r.length r q := by
            have hgl := hRy.lt
            refine ⟨by omega, fun hp => by have := o1.hb hp; omega, o1.ha, by omega, rfl, HQR.out, ?_, ?_, o1.c, fun l hl => ?_⟩
            · rw [World.cell?_alloc_at _ _ _ _ rfl]; rfl
            · rw [World.cell?_alloc_at _ _ _ _ rfl, ← HQR.out]; rfl
            · exact (hRy.alloc _).cell' l _ (hys.out l _ hl (List.getElem?_eq_getElem hl))
          have HOB := hide hOb
          have HO1 := hide o1
          have HO3 := hide o3
          have HO4 := hide o4
          clear hOb o1 o3 o4 hRy hyl
          go_wp2
          go_roundw
          case rel => exact ⟨k + 1, xs.set k (.iface 60 (.pointer (some ⟨wr.heap.size, 0, none⟩))), by omega, by go_num, by simp [HL.out], HO4.out.set k _, hide (fun j r' q' hj hr' hq' => by
              by_cases hjk : j = k
              · subst hjk
                rw [HRr.out] at hr'; cases hr'
                rw [HQq.out] at hq'; cases hq'
                refine ⟨wr.heap.size, rna, rbn, gq, by rw [List.getElem?_set_self (by rw [HL.out]; omega)], ?_, by omega, by omega, HO1.out.hb⟩
                rw [size_setCell, World.size_alloc]
                exact HOB.out.setOther _ _ _ (by omega) (by omega) (fun hp => by have := HO1.out.hb hp; omega)
              · exact HO3.out j r' q' (by omega) hr' hq' k _ _ (by rw [List.getElem?_set_ne (by omega)])), o5.setCell (p := ⟨w.heap.size, k, none⟩) (Nat.le_refl _) _⟩
          case measure => simp [intOf]; omega
    · obtain rfl : k = n := by omega
      have hOs : ObjsAt wr.heap.size wr w.heap.size N V := fun i r q hr hq => by
        obtain ⟨bo, na', bn', bvv, h1, h2, _⟩ := hxs.out i r q (by have := (List.getElem?_eq_some_iff.1 hr).1; rw [HN.out.l] at this; exact this) hr hq
        exact ⟨bo, na', bn', bvv, hR.cell' i _ h1, h2⟩
      have HOs := hide hOs
      have hRlt := hR.lt
      have tl := ta_list_list (some ⟨wr.heap.size, 0, none⟩) k k
      clear hOs hR hxs hxl
      go_wp2_with fail
      refine (plain_list w.heap.size k N V hn HN.out.l HV.out.l HRL.out wr hRlt HOs.out).mono ?_
      rintro e W1 ⟨ls, rfl, hll, hRl, hmaps, hB2⟩
      have hBw : Below w.heap.size w W1 := hB.trans (hB2.mono hB.size)
      have HN1 := hide (HN.out.below hBw)
      have HMP := hide hmaps
      have HRl := hide hRl
      have hgl := hRl.lt
      have hwW := hBw.size
      clear hmaps hRl hll hB2 HOs
      generalize wr.heap.size = gL at HRl hgl tl ⊢
      go_wp2_with fail
      obtain ⟨i4, fi, fz0, fz1, fz2⟩ := info_parts Try.info4
      obtain ⟨i3, ji, jz0, jz1, jz2⟩ := info_parts Try.info3
      obtain ⟨i35, gi, gz0, gz1, gz2⟩ := info_parts Try.info35
      obtain ⟨i38, ki, kz0, kz1, kz2⟩ := info_parts Try.info38
      obtain ⟨i9, li, lz0, lz1, lz2⟩ := info_parts Try.info9
      obtain ⟨w3, hrun, hown3, hgrow3⟩ := run_make_full (P := Try.prog) W1 W1.heap.size 38 4 i4 (.bool false) 1 Try.underlying38 fi fz0 fz1 .i64 .i64 k (by rw [fz2]; omega) (by unfold maxLen; omega) (Nat.le_refl _)
      rw [hrun]
      clear hrun
      go_wp2_with fail
      obtain ⟨w4, hrun, hown4, hgrow4⟩ := run_make_full (P := Try.prog) w3 w3.heap.size 41 3 i3 (.int .i64 0) 1 Try.underlying41 ji jz0 jz1 .i64 .i64 k (by rw [jz2]; omega) (by unfold maxLen; omega) (Nat.le_refl _)
      rw [hrun]
      clear hrun
      go_wp2_with fail
      obtain ⟨w5, hrun, hown5, hgrow5⟩ := run_make_full (P := Try.prog) w4 w4.heap.size 45 35 i35 (.slice none 0 0) 1 Try.underlying45 gi gz0 gz1 .i64 .i64 k (by rw [gz2]; omega) (by unfold maxLen; omega) (Nat.le_refl _)
      rw [hrun]
      clear hrun
      go_wp2_with fail
      obtain ⟨w6, hrun, hown6, hgrow6⟩ := run_make_full (P := Try.prog) w5 w5.heap.size 48 38 i38 (.slice none 0 0) 1 Try.underlying48 ki kz0 kz1 .i64 .i64 k (by rw [kz2]; omega) (by unfold maxLen; omega) (Nat.le_refl _)
      rw [hrun]
      clear hrun
      obtain ⟨hm3, hml⟩ := rowAt_of_own hown3
      obtain ⟨hs4, hsl⟩ := rowAt_of_own hown4
      obtain ⟨hg5, hgl5⟩ := rowAt_of_own hown5
      obtain ⟨hf6, hfl6⟩ := rowAt_of_own hown6
      have hlt3 := hm3.lt
      have hlt4 := hs4.lt
      have hlt5 := hg5.lt
      have hm6 := ((hm3.kept hgrow4 (by simp)).kept hgrow5 (by simp)).kept hgrow6 (by simp)
      have hs6 := (hs4.kept hgrow5 (by simp)).kept hgrow6 (by simp)
      have hg6 := hg5.kept hgrow6 (by simp)
      have hB3 : Below W1.heap.size W1 w3 := (Below.refl _ _).grown hgrow3 (Nat.le_refl _) (fun k hk => by simp at hk)
      have hB4 : Below W1.heap.size W1 w4 := hB3.grown hgrow4 hB3.size (fun k hk => by simp at hk)
      have hB5 : Below W1.heap.size W1 w5 := hB4.grown hgrow5 hB4.size (fun k hk => by simp at hk)
      have hB6 : Below W1.heap.size W1 w6 := hB5.grown hgrow6 hB5.size (fun k hk => by simp at hk)
      generalize (madeCells (Value.bool false).cells (k * 1)).toList = ms0 at hm6 hml
      generalize (madeCells (Value.int IntKind.i64 0).cells (k * 1)).toList = ss0 at hs6 hsl
      generalize (madeCells (Value.slice none 0 0).cells (k * 1)).toList = gs0 at hg6 hgl5 hf6 hfl6
      generalize hn1 : W1.heap.size = n1 at hm6 hB6 hlt3 hgl hwW ⊢
      generalize w3.heap.size = gs at hs6 hlt3 hlt4 ⊢
      generalize w4.heap.size = gg at hg6 hlt4 hlt5 ⊢
      generalize w5.heap.size = gf at hf6 hlt5 ⊢
      have HN1E := hide hn1
      clear hm3 hs4 hg5 hown3 hown4 hown5 hown6 hgrow3 hgrow4 hgrow5 hgrow6 hB3 hB4 hB5 hn1 tl
      go_wp2_with fail
      go_loopw [88] (fun i wr => ∃ (c : Nat) (ms ss gl fl : List Value), c ≤ k ∧ i = .int .i64 c ∧ ms.length = k ∧ ss.length = k ∧ gl.length = k ∧ fl.length = k ∧ RowAt wr n1 4 ms ∧ RowAt wr gs 3 ss ∧ RowAt wr gg 35 gl ∧ RowAt wr gf 38 fl ∧
          Hid (∀ (j : Nat) (r q : List ByteArray), j < c → N[j]? = some r → V[j]? = some q → AnsIx wr gf ms ss gl fl j r q) ∧ Below n1 W1 wr) (fun i _ => k - (intOf i).toNat)
      case atStart => exact ⟨0, ms0, ss0, gs0, gs0, Nat.zero_le _, rfl, hml, hsl, hgl5, hfl6, hm6, hs6, hg6, hf6, hide (fun j r q h => by omega), hB6⟩
      case round =>
        clear hml hsl hgl5 hfl6 hm6 hs6 hg6 hf6 hB6 ms0 ss0 gs0
        obtain ⟨c, ms, ss, gl, fl, hc, rfl, hml, hsl, hgl2, hfl, hRm, hRs, hRg, hRf, hAns, hB6⟩ := hrel
        by_cases hlt : c < k
        · obtain ⟨r, rna, rbn, hr, hna, hcn, hSn⟩ := HN1.out.at c hlt
          obtain ⟨q, hq⟩ : ∃ q, V[c]? = some q := ⟨_, List.getElem?_eq_getElem (by rw [HV.out.l]; exact hlt)⟩
          obtain ⟨M, hM1, hM2, hM3⟩ := HMP.out c r q hr hq
          have hrl : r.length ≤ 4096 := HRL.out r (List.mem_of_getElem? hr)
          have hqr : q.length = r.length := HEQ.out c r q hr hq
          have hbn : bn < n1 := by rw [← HN1E.out]; exact World.block_lt_of_cell? W1 _ hcn
          rw [HN1E.out] at hM2
          have hcL := HRl.out.cell' c _ hM1
          subst hna
          -- what is old reads so in every later world
          have HOLD := hide (fun (X : World) (hb : Below n1 W1 X) => (⟨(hb.cell (p := ⟨bn, c, none⟩) hbn).trans hcn, (hb.cell (p := ⟨gL, c, none⟩) hgl).trans hcL, hM3.same (hb.block M hM2), (hSn.mono hwW).below hb⟩ :
            X.cell? ⟨bn, c, none⟩ = some (.slice rna r.length r.length) ∧ X.cell? ⟨gL, c, none⟩ = some (.iface 57 (.map (some M))) ∧ SMap X M (mapOf (r.zip q)) ∧ StrAt n1 X rna rbn r.length r))
          have HRr := hide hr
          have HQq := hide hq
          have HQR := hide hqr
          clear hr hq hqr hcn hcL hSn hM1 hM3
          have hx0 := (HOLD.out _ hB6).1
          go_wp2_with fail
          obtain ⟨wA, hrun, hownA, hgrowA⟩ := run_make_full (P := Try.prog) wr wr.heap.size 35 9 i9 (.string ByteArray.empty) 1 Try.underlying35 li lz0 lz1 .i64 .i64 r.length (by rw [lz2]; omega) (by unfold maxLen; omega) (Nat.le_refl _)
          rw [hrun]
          clear hrun hx0
          obtain ⟨hGA, hGlA⟩ := rowAt_of_own hownA
          generalize (madeCells (Value.string ByteArray.empty).cells (r.length * 1)).toList = gl0 at hGA hGlA
          have hgA := hGA.lt
          have hltf := hRf.lt
          have hBA : Below n1 W1 wA := hB6.grown hgrowA (below_le hB6 (by rw [HN1E.out]; exact Nat.le_refl _)) (fun k hk => by simp at hk)
          have hA1 := hRm.kept hgrowA (by simp)
          have hA2 := hRs.kept hgrowA (by simp)
          have hA3 := hRg.kept hgrowA (by simp)
          have hA4 := hRf.kept hgrowA (by simp)
          have HKA : Hid (∀ b, b < wr.heap.size → wA.heap[b]? = wr.heap[b]?) := hide (fun b hb => hgrowA.block b hb (by simp))
          clear hownA hgrowA
          generalize hg0 : wr.heap.size = g at hGA hgA hltf HKA ⊢
          obtain ⟨og, hog⟩ := hA3.old c (by omega)
          have hfz1 := hA3.frozen c
          -- behind the store into got
          have hBA' := hBA.setCell (p := ⟨gg, c, none⟩) (by show n1 ≤ gg; omega) (.slice (some ⟨g, 0, none⟩) r.length r.length)
          have hx1 := (HOLD.out _ hBA').1
          go_wp2_with fail
          have hA1' := hA1.other (b := gg) (by omega) c (.slice (some ⟨g, 0, none⟩) r.length r.length)
          have hA2' := hA2.other (b := gg) (by omega) c (.slice (some ⟨g, 0, none⟩) r.length r.length)
          have hA3' := hA3.set c (.slice (some ⟨g, 0, none⟩) r.length r.length)
          have hA4' := hA4.other (b := gg) (by omega) c (.slice (some ⟨g, 0, none⟩) r.length r.length)
          have hGA' := hGA.other (b := gg) (by omega) c (.slice (some ⟨g, 0, none⟩) r.length r.length)
          have HKA' : Hid (∀ b, gf < b → b < g → (wA.setCell ⟨gg, c, none⟩ (.slice (some ⟨g, 0, none⟩) r.length r.length)).heap[b]? = wr.heap[b]?) := hide (fun b h1 h2 => (Below.heap_setCell _ _ _ _ (by show b ≠ gg; omega)).trans (HKA.out b h2))
          have hsA : (wA.setCell ⟨gg, c, none⟩ (.slice (some ⟨g, 0, none⟩) r.length r.length)).heap.size = wA.heap.size := size_setCell _ _ _
          generalize (wA.setCell ⟨gg, c, none⟩ (.slice (some ⟨g, 0, none⟩) r.length r.length)) = wA' at hBA' hA1' hA2' hA3' hA4' hGA' HKA' hsA hx1 ⊢
          clear hA1 hA2 hA3 hA4 hGA HKA hog hfz1 hx1
          obtain ⟨wB, hrun, hownB, hgrowB⟩ := run_make_full (P := Try.prog) wA' wA'.heap.size 38 4 i4 (.bool false) 1 Try.underlying38 fi fz0 fz1 .i64 .i64 r.length (by rw [fz2]; omega) (by unfold maxLen; omega) (Nat.le_refl _)
          rw [hrun]
          clear hrun
          obtain ⟨hFB, hFlB⟩ := rowAt_of_own hownB
          generalize (madeCells (Value.bool false).cells (r.length * 1)).toList = fl0 at hFB hFlB
          have hfB := hFB.lt
          have hBB : Below n1 W1 wB := hBA'.grown hgrowB (below_le hBA' (by rw [HN1E.out]; exact Nat.le_refl _)) (fun k hk => by simp at hk)
          have hB1 := hA1'.kept hgrowB (by simp)
          have hB2 := hA2'.kept hgrowB (by simp)
          have hB3 := hA3'.kept hgrowB (by simp)
          have hB4 := hA4'.kept hgrowB (by simp)
          have hGB := hGA'.kept hgrowB (by simp)
          have HKB : Hid (∀ b, gf < b → b < g → wB.heap[b]? = wr.heap[b]?) := hide (fun b h1 h2 => (hgrowB.block b (by omega) (by simp)).trans (HKA'.out b h1 h2))
          have hgf : g < wA'.heap.size := by omega
          clear hownB hgrowB hA1' hA2' hA3' hA4' hGA' HKA' hBA' hsA
          generalize wA'.heap.size = f at hFB hfB hgf ⊢
          obtain ⟨of, hof⟩ := hB4.old c (by omega)
          have hfz2 := hB4.frozen c
          have hBC := hBB.setCell (p := ⟨gf, c, none⟩) (by show n1 ≤ gf; omega) (.slice (some ⟨f, 0, none⟩) r.length r.length)
          have hx2 := (HOLD.out _ hBC).2.1
          have tm := ta_map_map (some M)
          have hC1 := hB1.other (b := gf) (by omega) c (.slice (some ⟨f, 0, none⟩) r.length r.length)
          obtain ⟨om, hom⟩ := hC1.old c (by omega)
          have hfz3 := hC1.frozen c
          have hBD := hBC.setCell (p := ⟨n1, c, none⟩) (Nat.le_refl _) (.bool true)
          have hln := SMap.len (P := Try.prog) (t := 57) (k := 9) (e := 20) (HOLD.out _ hBD).2.2.1 Try.underlying57 3
          have hml2 := length_mapOf r q (by rw [HQR.out]) r.length (Nat.le_refl _)
          rw [List.take_of_length_le (by simp [HQR.out])] at hml2
          rw [hml2] at hln
          clear hml2
          have hC2 := (hB2.other (b := gf) (by omega) c (.slice (some ⟨f, 0, none⟩) r.length r.length)).other (b := n1) (by omega) c (.bool true)
          obtain ⟨os, hos⟩ := hC2.old c (by omega)
          have hfz4 := hC2.frozen c
          have hBE := hBD.setCell (p := ⟨gs, c, none⟩) (by show n1 ≤ gs; omega) (.int .i64 (firsts (kyOf r) r.length))
          have hx3 := (HOLD.out _ hBE).1
          have cn : decide ((k : Int) ≤ (c : Int)) = false := by simp; omega
          go_wp2_with fail
          have hE1 := (hC1.set c (.bool true)).other (b := gs) (by omega) c (.int .i64 (firsts (kyOf r) r.length))
          have hE2 := hC2.set c (.int .i64 (firsts (kyOf r) r.length))
          have hE3 := ((hB3.other (b := gf) (by omega) c (.slice (some ⟨f, 0, none⟩) r.length r.length)).other (b := n1) (by omega) c (.bool true)).other (b := gs) (by omega) c (.int .i64 (firsts (kyOf r) r.length))
          have hE4 := ((hB4.set c (.slice (some ⟨f, 0, none⟩) r.length r.length)).other (b := n1) (by omega) c (.bool true)).other (b := gs) (by omega) c (.int .i64 (firsts (kyOf r) r.length))
          have hGE := ((hGB.other (b := gf) (by omega) c (.slice (some ⟨f, 0, none⟩) r.length r.length)).other (b := n1) (by omega) c (.bool true)).other (b := gs) (by omega) c (.int .i64 (firsts (kyOf r) r.length))
          have hFE := ((hFB.other (b := gf) (by omega) c (.slice (some ⟨f, 0, none⟩) r.length r.length)).other (b := n1) (by omega) c (.bool true)).other (b := gs) (by omega) c (.int .i64 (firsts (kyOf r) r.length))
          have HKE : Hid (∀ b, gf < b → b < g → (((wB.setCell ⟨gf, c, none⟩ (.slice (some ⟨f, 0, none⟩) r.length r.length)).setCell ⟨n1, c, none⟩ (.bool true)).setCell ⟨gs, c, none⟩ (.int .i64 (firsts (kyOf r) r.length))).heap[b]? = wr.heap[b]?) := hide (fun b h1 h2 =>
            (Below.heap_setCell _ _ _ _ (by show b ≠ gs; omega)).trans ((Below.heap_setCell _ _ _ _ (by show b ≠ n1; omega)).trans ((Below.heap_setCell _ _ _ _ (by show b ≠ gf; omega)).trans (HKB.out b h1 h2))))
          generalize ((wB.setCell ⟨gf, c, none⟩ (.slice (some ⟨f, 0, none⟩) r.length r.length)).setCell ⟨n1, c, none⟩ (.bool true)).setCell ⟨gs, c, none⟩ (.int .i64 (firsts (kyOf r) r.length)) = wE at hE1 hE2 hE3 hE4 hGE hFE HKE hBE hx3 ⊢
          have hgE := hGE.lt
          have hfE := hFE.lt
          have HANS := hide (fun (w' : World) (hb : Below g wE w') (j : Nat) (r' q' : List ByteArray) (hj : j < c) (hr' : N[j]? = some r') (hq' : V[j]? = some q') =>
            (hAns.out j r' q' hj hr' hq').keep (w' := w') (ms' := ms.set c (.bool true)) (ss' := ss.set c (.int .i64 (firsts (kyOf r) r.length))) (gs' := gl.set c (.slice (some ⟨g, 0, none⟩) r.length r.length)) (fs' := fl.set c (.slice (some ⟨f, 0, none⟩) r.length r.length))
              (fun b h1 h2 => (hb.block b (by omega)).trans (HKE.out b h1 (by omega))) (by have := hb.size; omega) (by rw [List.getElem?_set_ne (by omega)]) (by rw [List.getElem?_set_ne (by omega)]) (by rw [List.getElem?_set_ne (by omega)]) (by rw [List.getElem?_set_ne (by omega)]))
          have HE1 := hide hE1
          have HE2 := hide hE2
          have HE3 := hide hE3
          have HE4 := hide hE4
          have HML := hide hml
          have HSL := hide hsl
          have HGL := hide hgl2
          have HFL := hide hfl
          have HBE := hide hBE
          clear hE1 hE2 hE3 hE4 hBE hBD hBC hBB hB1 hB2 hB3 hB4 hC1 hC2 hGB hFB HKB HKE hAns hx2 hx3 hln hom hos hof hfz2 hfz3 hfz4 hRm hRs hRg hRf hml hsl hgl2 hfl hBA hB6 cn tm
          go_loopw [135] (fun i wr' => ∃ (j : Nat) (ga fa : List Value), j ≤ r.length ∧ i = .int .i64 j ∧ ga.length = r.length ∧ fa.length = r.length ∧ RowAt wr' g 9 ga ∧ RowAt wr' f 4 fa ∧ Hid (∀ (l : Nat) (x : ByteArray), l < j → r[l]? = some x → ga[l]? = some (.string ((lastV (r.zip q) x).getD ByteArray.empty))) ∧
              Hid (∀ l, l < j → fa[l]? = some (.bool true)) ∧ Below g wE wr') (fun i _ => r.length - (intOf i).toNat)
          case atStart => exact ⟨0, gl0, fl0, Nat.zero_le _, rfl, hGlA, hFlB, hGE, hFE, hide (fun l x h => by omega), hide (fun l h => by omega), Below.refl _ _⟩
          case round =>
            clear hGE hFE hGlA hFlB gl0 fl0
            obtain ⟨j, ga, fa, hj, rfl, hgal, hfal, hRga, hRfa, hga, hfa, hBg⟩ := hrel
            by_cases hlj : j < r.length
            · have hBn : Below n1 W1 wr := HBE.out.trans (hBg.mono (by omega))
              obtain ⟨_, _, hSM, hSr⟩ := HOLD.out _ hBn
              obtain ⟨x, hx, hra, hcx⟩ := hSr.at j hlj
              obtain ⟨t, ht⟩ : ∃ t, lastV (r.zip q) x = some t := Option.isSome_iff_exists.1 ((lastV_isSome _ _).2 (by
                rw [List.map_fst_zip (by rw [HQR.out]; exact Nat.le_refl _)]; exact List.mem_of_getElem? hx))
              have hlk := SMap.lookup (P := Try.prog) (t := 57) (k := 9) (e := 20) hSM Try.underlying57 Try.underlying9 (zero20 _) x
              rw [mget_mapOf, ht] at hlk
              simp only [Option.map_some, Option.getD_some, Option.isSome_some] at hlk
              have tss := ta_str_str t
              have hcg := (HE3.out.below hBg (by omega)).cell' c _ (by rw [List.getElem?_set_self (by rw [HGL.out]; exact hlt)])
              obtain ⟨og, hog⟩ := hRga.old j (by omega)
              have hgz := hRga.frozen j
              have hF1 := hRfa.other (b := g) (by omega) j (.string t)
              obtain ⟨of, hof⟩ := hF1.old j (by omega)
              have hfz := hF1.frozen j
              have hcf := ((HE4.out.below hBg (by omega)).other (b := g) (by omega) j (.string t)).cell' c _ (by rw [List.getElem?_set_self (by rw [HFL.out]; exact hlt)])
              have HX := hide hx
              have HT := hide ht
              have HRga := hide hRga
              have HF1 := hide hF1
              have HGAL := hide hgal
              have HFAL := hide hfal
              clear hx ht hSM hSr hRga hRfa hF1 hgal hfal
              subst hra
              go_wp2
              go_roundw
              case rel => exact ⟨j + 1, ga.set j (.string t), fa.set j (.bool true), by omega, by go_num, by simp [HGAL.out], by simp [HFAL.out], (HRga.out.set j _).other (by omega) j _, HF1.out.set j _,
                hide (fun l z hl hz => by
                  by_cases hjl : l = j
                  · subst hjl
                    rw [HX.out] at hz; cases hz
                    rw [List.getElem?_set_self (by rw [HGAL.out]; omega), HT.out]; rfl
                  · rw [List.getElem?_set_ne (by omega)]; exact hga.out l z (by omega) hz),
                hide (fun l hl => by
                  by_cases hjl : l = j
                  · subst hjl
                    rw [List.getElem?_set_self (by rw [HFAL.out]; omega)]
                  · rw [List.getElem?_set_ne (by omega)]; exact hfa.out l (by omega)),
                (hBg.setCell (p := ⟨g, j, none⟩) (Nat.le_refl _) _).setCell (p := ⟨f, j, none⟩) (by show g ≤ f; omega) _⟩
              case measure => simp [intOf]; omega
            · obtain rfl : j = r.length := by omega
              have hBn : Below n1 W1 wr := HBE.out.trans (hBg.mono (by omega))
              have hw1 := hRga.lt
              have hw2 := hRfa.lt
              go_wp2
              go_roundw
              case rel => exact ⟨c + 1, ms.set c (.bool true), ss.set c (.int .i64 (firsts (kyOf r) r.length)), gl.set c (.slice (some ⟨g, 0, none⟩) r.length r.length), fl.set c (.slice (some ⟨f, 0, none⟩) r.length r.length), by omega, by go_num, by simp [HML.out], by simp [HSL.out], by simp [HGL.out], by simp [HFL.out],
                HE1.out.below hBg (by omega), HE2.out.below hBg (by omega), HE3.out.below hBg (by omega), HE4.out.below hBg (by omega), hide (fun j r' q' hj hr' hq' => by
                  by_cases hjc : j = c
                  · subst hjc
                    rw [HRr.out] at hr'; cases hr'
                    rw [HQq.out] at hq'; cases hq'
                    exact ⟨by rw [List.getElem?_set_self (by rw [HML.out]; exact hlt)], by rw [List.getElem?_set_self (by rw [HSL.out]; exact hlt)], g, f, ga, fa, by rw [List.getElem?_set_self (by rw [HGL.out]; exact hlt)], by rw [List.getElem?_set_self (by rw [HFL.out]; exact hlt)],
                      by omega, hw1, by omega, hw2, hRga, hRfa, fun l x hl => hga.out l x (List.getElem?_eq_some_iff.1 hl).1 hl, fun l hl => hfa.out l hl⟩
                  · exact HANS.out _ hBg j r' q' (by omega) hr' hq'), hBn⟩
              case measure => simp [intOf]; omega
        · obtain rfl : c = k := by omega
          go_wp2
          exact bodyPost_ret (v := .tuple #[.bool true, .int .i64 c, .slice (some ⟨n1, 0, none⟩) c c, .slice (some ⟨gs, 0, none⟩) c c, .slice (some ⟨gg, 0, none⟩) c c, .slice (some ⟨gf, 0, none⟩) c c]) (by simp [results, Try.results24, go_sem]) rfl
            ⟨n1, gs, gg, gf, ms, ss, gl, fl, rfl, hRm, hRs, hRg, hRf, fun j r q hr hq => hAns.out j r q (by have := (List.getElem?_eq_some_iff.1 hr).1; rw [HN.out.l] at this; exact this) hr hq, hBw.trans (hB6.mono hwW)⟩
end Go.Proofs.Qxb6605960a
