import Derived.Test.Qxb6605960aLastLaw
import Derived.Test.Qxb6605960aSortBase
import Derived.StillTailTactics
namespace Go.Proofs.Qxb6605960a
open Go.RowKit
set_option linter.unusedVariables false

/-- The kit's law for a region whose head stands still and whose tail is forced, the draw folded. -/
theorem region_still_tail {P : Program} {id : Nat} {Q : Exit → Act → World → Prop} {a : Act} {w : World} {l : List Oper} (n : Nat) (hm : P.follows .mixedOrders = true) (hB : Region.lexTailB .any l.toArray n = true)
    (h : wpStill P l.toArray w.drew (fun a' => wpList P l.toArray Q (l.drop n) a' w.drew) (l.take n) a) : (Code.region id l.toArray true).wp P Q a w :=
  wp_region_still_tail n hm hB h

theorem size3 (w : World) : (sizeOf (Try.prog.elem 41)).run Try.prog w = .ok 1 w := by kernel_rfl
theorem elem41 : Try.prog.underlying 41 = some (.slice (Try.prog.elem 41)) := by kernel_rfl

theorem wrap_sub (e : Nat) (h1 : 1 ≤ e) (h2 : e ≤ 4096) : IntKind.i64.wrap ((e : Int) - 1) = (e : Int) - 1 := by
  rw [IntKind.wrap_i64]; omega

/-- The address of 'order[e-1]'. -/
theorem idx_sub (go n e : Nat) (h1 : 1 ≤ e) (h2 : e ≤ n) (wx : World) : (Instr.indexAt 41 (.slice (some ⟨go, 0, none⟩) n n) (.int .i64 ((e : Int) - 1))).run Try.prog wx = .ok (.pointer (some ⟨go, e - 1, none⟩)) wx := by
  rw [run_indexAt_slice (h := elem41), if_pos (by omega), size3]
  have e1 : ((e : Int) - 1).toNat * 1 = e - 1 := by omega
  simp only [Result.andThen, e1]
  congr 3
  unfold Addr.add
  split <;> simp_all

set_option maxRecDepth 100000 in
set_option maxHeartbeats 2000000 in
theorem lastOf_any (na : Option Addr) (bn go n : Nat) (ns : List ByteArray) (O : List Nat) (hlen : n ≤ 4096) (w : World) (hN : StrAt w.heap.size w na bn n ns) (hR : RowAt w go 3 (nv O)) (hO : Ord (kyOf ns) n O) :
    Calls Try.prog 20 #[.slice na n n, .slice (some ⟨go, 0, none⟩) n n] w fun e w' => ∃ (g : Nat) (xs : List Value), e = .returned (.tuple #[.slice (some ⟨g, 0, none⟩) n n, .int .i64 (firsts (kyOf ns) n)]) ∧ xs.length = n ∧ RowAt w' g 3 xs ∧
      (∀ x, x < n → ∃ y, xs[x]? = some (iv y) ∧ Lst (kyOf ns) n x y) ∧ w.heap.size ≤ g ∧ Below w.heap.size w w' := by
  obtain ⟨i0, hi, hz0, hz1, hz2⟩ := info_parts Try.info3
  have hgo := hR.lt
  have HN := hide hN
  have HO := hide hO
  have HRo := hide hR
  clear hN hO hR
  go_enter Try.func20, Try.ntmps20
  go_wp2_with (at_make; refine wpList_make_full _ rfl _ _ 41 rfl w.heap.size 3 i0 (.int .i64 0) 1 Try.underlying41 hi hz0 hz1 _ _ _ _ n rfl rfl rfl rfl (by rw [hz2]; omega) (by unfold maxLen; omega) (Nat.le_refl _) ?_; intro w1 hown hgrow)
  obtain ⟨hR0, hl0⟩ := rowAt_of_own hown
  have hB1 : Below w.heap.size w w1 := (Below.refl _ _).grown hgrow (Nat.le_refl _) (fun k hk => by simp at hk)
  generalize (madeCells (Value.int IntKind.i64 0).cells (n * 1)).toList = xs0 at hR0 hl0
  clear hown hgrow hi hz0 hz1 hz2
  go_loopw [7, 8] (fun d r wr => ∃ (s : Nat) (xs : List Value), s ≤ n ∧ r = .int .i64 s ∧ d = .int .i64 (fcount (kyOf ns) O s : Nat) ∧ fcount (kyOf ns) O s ≤ s ∧ xs.length = n ∧ RowAt wr w.heap.size 3 xs ∧ Hid (Bnd (kyOf ns) n O s) ∧
      Hid (∀ p, p < s → ∃ y, xs[oAt O p]? = some (iv y) ∧ Lst (kyOf ns) n (oAt O p) y) ∧ Below w.heap.size w wr) (fun _ r _ => n - (intOf r).toNat)
  case atStart => exact ⟨0, xs0, Nat.zero_le _, rfl, rfl, by simp [fcount], hl0, hR0, hide bnd_zero, hide (fun p h => by omega), hB1⟩
  case round =>
    clear hR0 hl0 hB1 xs0
    obtain ⟨s, xs, hs, rfl, rfl, hf, hxl, hRx, hbnd, hxs, hB⟩ := hrel
    by_cases hsn : s < n
    · obtain ⟨kS, hkS⟩ : ∃ kS, kyOf ns (oAt O s) = kS := ⟨_, rfl⟩
      have HKS := hide hkS
      clear hkS
      go_wp2_with fail
      go_loopw [8] (fun r wr' => ∃ (e q : Nat), s ≤ e ∧ e ≤ n ∧ r = .int .i64 e ∧ Hid (∀ p, s ≤ p → p < e → kyOf ns (oAt O p) = kS) ∧ wr' = wr.drewN q) (fun r _ => n - (intOf r).toNat)
      case atStart => exact ⟨s, 0, Nat.le_refl _, hs, rfl, hide (fun p h1 h2 => by omega), rfl⟩
      case round =>
        obtain ⟨e, q, hse, hen, rfl, hsame, rfl⟩ := hrel
        by_cases hlt : e < n
        · have hRo := HRo.out.below hB hgo
          have hce := hRo.cell' e _ (nv_at (oAt_eq (by rw [HO.out.len]; exact hlt)))
          have hcs := hRo.cell' s _ (nv_at (oAt_eq (by rw [HO.out.len]; exact hsn)))
          obtain ⟨hna, hke⟩ := key_at (HN.out.below hB) (oAt O e) (HO.out.lt hlt)
          obtain ⟨_, hks⟩ := key_at (HN.out.below hB) (oAt O s) (HO.out.lt hsn)
          have le : oAt O e < n := HO.out.lt hlt
          have ls : oAt O s < n := HO.out.lt hsn
          have i1 : (e : Int) < (n : Int) := by omega
          have i2 : (s : Int) < (n : Int) := by omega
          have g1 : decide ((e : Int) < (n : Int)) = true := by simp; omega
          have g1n : decide (e < n) = true := by simp; omega
          subst hna
          clear hRo
          by_cases hk : kyOf ns (oAt O e) = kyOf ns (oAt O s)
          · have hb : ((kyOf ns (oAt O e)).toList == (kyOf ns (oAt O s)).toList) = true := by rw [hk]; simp
            have HK := hide (hk.trans HKS.out)
            clear hk
            generalize kyOf ns (oAt O e) = ka at hb hke
            generalize kyOf ns (oAt O s) = kb at hb hks
            generalize oAt O e = x at hce hke le
            generalize oAt O s = y at hcs hks ls
            have i3 : (x : Int) < (n : Int) := by omega
            have i4 : (y : Int) < (n : Int) := by omega
            go_wp2_with fail
            go_quiet (fail)
            go_wp2
            go_roundw
            case rel => exact ⟨e + 1, _, by omega, by omega, by go_num, hide (fun p h1 h2 => by
                by_cases hpe : p = e
                · subst hpe; exact HK.out
                · exact hsame.out p h1 (by omega)), rfl⟩
            case measure => simp [intOf]; omega
          · have hb : ((kyOf ns (oAt O e)).toList == (kyOf ns (oAt O s)).toList) = false := by
              rw [beq_eq_false_iff_ne]; exact fun h => hk (ba_inj h)
            have hes : s < e := by
              rcases Nat.lt_or_ge s e with c | c
              · exact c
              · have : e = s := by omega
                subst this; exact absurd rfl hk
            have HG := hide (show Grp (kyOf ns) n O s e from ⟨hes, hen, hbnd.out, fun p h1 h2 => (hsame.out p h1 h2).trans HKS.out.symm, fun _ => hk⟩)
            clear hk hsame
            generalize kyOf ns (oAt O e) = ka at hb hke
            generalize kyOf ns (oAt O s) = kb at hb hks
            generalize oAt O e = x at hce hke le
            generalize oAt O s = y at hcs hks ls
            have i3 : (x : Int) < (n : Int) := by omega
            have i4 : (y : Int) < (n : Int) := by omega
            go_wp2_with fail
            go_quiet (fail)
            go_wp2
            clear hce hcs hke hks hb g1 g1n
            skip
            go_loopw [10] (fun t wr'' => ∃ (t' : Nat) (xs' : List Value), s ≤ t' ∧ t' ≤ e ∧ t = .int .i64 t' ∧ xs'.length = n ∧ RowAt wr'' w.heap.size 3 xs' ∧ Hid (∀ p, p < t' → ∃ y, xs'[oAt O p]? = some (iv y) ∧ Lst (kyOf ns) n (oAt O p) y) ∧ Below w.heap.size w wr'') (fun t _ => e - (intOf t).toNat)
            case atStart => exact ⟨s, xs, Nat.le_refl _, by omega, rfl, hxl, hRx.drewN _, hxs, below_drewN hB _⟩
            case round =>
              clear hRx hxl hB hxs xs
              obtain ⟨t, xs, hst, hte, rfl, hxl, hRx, hxs, hB⟩ := hrel
              by_cases htl : t < e
              · have hRo := HRo.out.below hB hgo
                have hct := hRo.cell' t _ (nv_at (oAt_eq (by rw [HO.out.len]; omega)))
                have hce := hRo.cell' (e - 1) _ (nv_at (oAt_eq (by rw [HO.out.len]; omega)))
                have hxn : oAt O t < n := HO.out.lt (by omega)
                have hLs := hide (HG.out.last HO.out hst htl)
                have HNe := hide (fun p (hp : p < t) => HO.out.ne hp (by omega))
                obtain ⟨old, hold⟩ := hRx.old (oAt O t) (by omega)
                have hfz := hRx.frozen (oAt O t)
                have HRx := hide hRx
                have HXL := hide hxl
                clear hRx hxl hRo
                generalize hx : oAt O t = x at hct hxn hold hfz hLs HNe
                generalize oAt O (e - 1) = y at hce hLs
                have HX := hide hx
                clear hx
                have i1 : (x : Int) < (n : Int) := by omega
                have i2 : (t : Int) < (n : Int) := by omega
                have i3 : (0 : Int) ≤ (e : Int) - 1 := by omega
                have i4 : (e : Int) - 1 < (n : Int) := by omega
                have i5 : ((e : Int) - 1).toNat = e - 1 := by omega
                have hix := idx_sub go n e (by omega) (by omega)
                have hwr := wrap_sub e (by omega) (by omega)
                go_wp2_with fail
                refine region_still_tail 11 (by kernel_rfl) (by kernel_rfl) ?_
                simp only [List.take_succ_cons, List.take_zero, List.drop_succ_cons, List.drop_zero]
                repeat still_step
                refine wpStill_nil ?_
                go_wp2
                go_roundw
                case rel => exact ⟨t + 1, xs.set x (iv y), by omega, by omega, by go_num, by simp [HXL.out], HRx.out.drew.set x _, hide (fun p hp => by
                    by_cases hpt : p = t
                    · subst hpt
                      rw [HX.out]
                      exact ⟨y, by rw [List.getElem?_set_self (by rw [HXL.out]; exact hxn)], hLs.out⟩
                    · obtain ⟨z, hz, hz2⟩ := hxs.out p (by omega)
                      exact ⟨z, by rw [List.getElem?_set_ne (fun h => HNe.out p (by omega) h.symm)]; exact hz, hz2⟩), (hB.drew).setCell (p := ⟨w.heap.size, x, none⟩) (Nat.le_refl _) _⟩
                case measure => simp [intOf]; omega
              · obtain rfl : t = e := by omega
                have HC := hide (HG.out.count HO.out)
                have HNX := hide (HG.out.next HO.out)
                go_wp2
                go_roundw
                case rel => exact ⟨t, xs, hen, rfl, by rw [HC.out]; go_num, by rw [HC.out]; omega, hxl, hRx, HNX, hxs, hB⟩
                case measure => simp [intOf]; omega
        · obtain rfl : e = n := by omega
          have hk2 : decide ((e : Int) < (e : Int)) = false := by simp
          have HG := hide (show Grp (kyOf ns) e O s e from ⟨hsn, Nat.le_refl _, hbnd.out, fun p h1 h2 => (hsame.out p h1 h2).trans HKS.out.symm, fun h => by omega⟩)
          clear hsame
          go_wp2_with fail
          go_quiet (fail)
          go_wp2
          skip
          go_loopw [10] (fun t wr'' => ∃ (t' : Nat) (xs' : List Value), s ≤ t' ∧ t' ≤ e ∧ t = .int .i64 t' ∧ xs'.length = e ∧ RowAt wr'' w.heap.size 3 xs' ∧ Hid (∀ p, p < t' → ∃ y, xs'[oAt O p]? = some (iv y) ∧ Lst (kyOf ns) e (oAt O p) y) ∧ Below w.heap.size w wr'') (fun t _ => e - (intOf t).toNat)
          case atStart => exact ⟨s, xs, Nat.le_refl _, by omega, rfl, hxl, hRx.drewN _, hxs, below_drewN hB _⟩
          case round =>
            clear hRx hxl hB hxs xs
            obtain ⟨t, xs, hst, hte, rfl, hxl, hRx, hxs, hB⟩ := hrel
            by_cases htl : t < e
            · have hRo := HRo.out.below hB hgo
              have hct := hRo.cell' t _ (nv_at (oAt_eq (by rw [HO.out.len]; omega)))
              have hce := hRo.cell' (e - 1) _ (nv_at (oAt_eq (by rw [HO.out.len]; omega)))
              have hxn : oAt O t < e := HO.out.lt (by omega)
              have hLs := hide (HG.out.last HO.out hst htl)
              have HNe := hide (fun p (hp : p < t) => HO.out.ne hp (by omega))
              obtain ⟨old, hold⟩ := hRx.old (oAt O t) (by omega)
              have hfz := hRx.frozen (oAt O t)
              have HRx := hide hRx
              have HXL := hide hxl
              clear hRx hxl hRo
              generalize hx : oAt O t = x at hct hxn hold hfz hLs HNe
              generalize oAt O (e - 1) = y at hce hLs
              have HX := hide hx
              clear hx
              have i1 : (x : Int) < (e : Int) := by omega
              have i2 : (t : Int) < (e : Int) := by omega
              have i3 : (0 : Int) ≤ (e : Int) - 1 := by omega
              have i4 : (e : Int) - 1 < (e : Int) := by omega
              have i5 : ((e : Int) - 1).toNat = e - 1 := by omega
              have hix := idx_sub go e e (by omega) (by omega)
              have hwr := wrap_sub e (by omega) (by omega)
              go_wp2_with fail
              refine region_still_tail 11 (by kernel_rfl) (by kernel_rfl) ?_
              simp only [List.take_succ_cons, List.take_zero, List.drop_succ_cons, List.drop_zero]
              repeat still_step
              refine wpStill_nil ?_
              go_wp2
              go_roundw
              case rel => exact ⟨t + 1, xs.set x (iv y), by omega, by omega, by go_num, by simp [HXL.out], HRx.out.drew.set x _, hide (fun p hp => by
                  by_cases hpt : p = t
                  · subst hpt
                    rw [HX.out]
                    exact ⟨y, by rw [List.getElem?_set_self (by rw [HXL.out]; exact hxn)], hLs.out⟩
                  · obtain ⟨z, hz, hz2⟩ := hxs.out p (by omega)
                    exact ⟨z, by rw [List.getElem?_set_ne (fun h => HNe.out p (by omega) h.symm)]; exact hz, hz2⟩), (hB.drew).setCell (p := ⟨w.heap.size, x, none⟩) (Nat.le_refl _) _⟩
              case measure => simp [intOf]; omega
            · obtain rfl : t = e := by omega
              have HC := hide (HG.out.count HO.out)
              have HNX := hide (HG.out.next HO.out)
              go_wp2
              go_roundw
              case rel => exact ⟨t, xs, hen, rfl, by rw [HC.out]; go_num, by rw [HC.out]; omega, hxl, hRx, HNX, hxs, hB⟩
              case measure => simp [intOf]; omega
    · obtain rfl : s = n := by omega
      have hfa := fcount_all HO.out
      have HX := hide (fun x (hx : x < s) => HO.out.find hx)
      rw [hfa]
      go_wp2
      go_ret2
      refine ⟨w.heap.size, xs, rfl, hxl, hRx, fun x hx => ?_, Nat.le_refl _, hB⟩
      obtain ⟨p, hp, rfl⟩ := HX.out x hx
      exact hxs.out p hp
end Go.Proofs.Qxb6605960a
