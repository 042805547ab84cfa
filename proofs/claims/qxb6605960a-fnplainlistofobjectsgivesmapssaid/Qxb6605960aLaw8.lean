import Derived.Test.Qxb6605960aBytes22
import Derived.Test.Qxb6605960aLaw7
import Derived.Test.Qxb6605960aZzList
import Derived.Deep.RegionWith
import Derived.Deep.DeepCutAuto
namespace Go.Proofs.Qxb6605960a
open Go.RowKit
set_option linter.unusedVariables false

theorem below_of_drew {B : Nat} {w w' : World} (h : Below B w.drew w') : Below B w w' := ⟨h.os, h.tape, h.output, h.size, h.block⟩

set_option maxRecDepth 100000 in
set_option maxHeartbeats 4000000 in
theorem law8_main (a0 a1 : Option Addr) (b0 o0 l0 c0 b1 o1 l1 c1 : Nat) (ns vs : List (List ByteArray)) (w : World) (h0 : InRows w a0 b0 o0 l0 c0 ns) (h1 : InRows w a1 b1 o1 l1 c1 vs) (m0 : l0 ≤ 4096) (m1 : l1 ≤ 4096) :
    Calls Try.prog 8 #[.slice a0 l0 c0, .slice a1 l1 c1] w fun e w' => e = .returned (.bool true) ∧ Below w.heap.size w w' := by
  have H0 := hide h0
  have H1 := hide h1
  clear h0 h1
  go_enter Try.func8, Try.ntmps8
  go_wp2_with fail
  refine (bytes22 a0 a1 b0 o0 l0 c0 b1 o1 l1 c1 ns vs w H0.out H1.out (by omega) (by omega)).mono ?_
  rintro e w' ⟨⟨b, rfl⟩, rfl⟩
  cases b with
  | false =>
    go_wp2
    go_ret
    exact ⟨rfl, Below.refl _ _⟩
  | true =>
    go_wp2
    go_loop [5, 44] (fun t i => ∃ k tot : Nat, k ≤ l0 ∧ tot ≤ 1048576 ∧ i = .int .i64 k ∧ t = .int .i64 tot ∧ Hid (∀ (j : Nat) (r : List ByteArray), j < k → ns[j]? = some r → r.length ≤ 4096)) (fun _ i => l0 - (intOf i).toNat)
    case atStart => exact ⟨0, 24 * l0 + 24 * l1, Nat.zero_le _, by omega, rfl, by first | rfl | go_num, hide (fun j r h => by omega)⟩
    case round =>
      obtain ⟨k, tot, hk, ht, rfl, rfl, hrs⟩ := hrel
      by_cases hlt : k < l0
      · obtain ⟨r, ra, rb, ro, rc, hr, ha, hc, hIn, hrl⟩ := H0.out.at k hlt
        have HIn := hide hIn
        have HRr := hide hr
        clear hIn hr
        subst ha
        by_cases q1 : 4096 < r.length
        · go_wp2
          go_ret
          exact ⟨rfl, Below.refl _ _⟩
        · have hr4 : r.length ≤ 4096 := by omega
          go_wp2
          go_loop [5, 58] (fun t i => ∃ j tot : Nat, j ≤ r.length ∧ tot ≤ 1114112 ∧ i = .int .i64 j ∧ t = .int .i64 tot) (fun _ i => r.length - (intOf i).toNat)
          case atStart => exact ⟨0, tot + 16 * r.length, Nat.zero_le _, by omega, rfl, by first | rfl | go_num⟩
          case round =>
            clear q1 ht
            obtain ⟨j, tot2, hj, ht, rfl, rfl⟩ := hrel
            by_cases hlj : j < r.length
            · obtain ⟨x, _, hra, hcx, hsz⟩ := HIn.out.at j hlj
              subst hra
              by_cases q1 : 1048576 < x.size
              · go_wp2
                go_ret
                exact ⟨rfl, Below.refl _ _⟩
              · by_cases q2 : 1048576 < tot2 + x.size
                · go_wp2
                  go_ret
                  exact ⟨rfl, Below.refl _ _⟩
                · go_wp2
                  go_round
                  case rel => exact ⟨j + 1, tot2 + x.size, by omega, by omega, by go_num, by go_num⟩
                  case measure => simp [intOf]; omega
            · by_cases q2 : 1048576 < tot2
              · go_wp2
                go_ret
                exact ⟨rfl, Below.refl _ _⟩
              · go_wp2
                go_round
                case rel => exact ⟨k + 1, tot2, by omega, by omega, by go_num, rfl, hide (fun j r' hj hr' => by
                    by_cases hjk : j = k
                    · subst hjk
                      rw [HRr.out] at hr'; cases hr'
                      exact hr4
                    · exact hrs.out j r' (by omega) hr')⟩
                case measure => simp [intOf]; omega
      · obtain rfl : l0 = k := by omega
        have HRS := hrs
        go_wp2
        go_loop [5, 77] (fun t i => ∃ k tot : Nat, k ≤ l1 ∧ tot ≤ 1048576 ∧ i = .int .i64 k ∧ t = .int .i64 tot) (fun _ i => l1 - (intOf i).toNat)
        case atStart => exact ⟨0, tot, Nat.zero_le _, by omega, rfl, by first | rfl | go_num⟩
        case round =>
          obtain ⟨k, tot, hk, ht, rfl, rfl⟩ := hrel
          by_cases hlt : k < l1
          · obtain ⟨r, ra, rb, ro, rc, hr, ha, hc, hIn, hrl⟩ := H1.out.at k hlt
            have HIn := hide hIn
            have HRr := hide hr
            clear hIn hr
            subst ha
            by_cases q1 : 4096 < r.length
            · go_wp2
              go_ret
              exact ⟨rfl, Below.refl _ _⟩
            · have hr4 : r.length ≤ 4096 := by omega
              go_wp2
              go_loop [5, 91] (fun t i => ∃ j tot : Nat, j ≤ r.length ∧ tot ≤ 1114112 ∧ i = .int .i64 j ∧ t = .int .i64 tot) (fun _ i => r.length - (intOf i).toNat)
              case atStart => exact ⟨0, tot + 16 * r.length, Nat.zero_le _, by omega, rfl, by first | rfl | go_num⟩
              case round =>
                clear q1 ht
                obtain ⟨j, tot2, hj, ht, rfl, rfl⟩ := hrel
                by_cases hlj : j < r.length
                · obtain ⟨x, _, hra, hcx, hsz⟩ := HIn.out.at j hlj
                  subst hra
                  by_cases q1 : 1048576 < x.size
                  · go_wp2
                    go_ret
                    exact ⟨rfl, Below.refl _ _⟩
                  · by_cases q2 : 1048576 < tot2 + x.size
                    · go_wp2
                      go_ret
                      exact ⟨rfl, Below.refl _ _⟩
                    · go_wp2
                      go_round
                      case rel => exact ⟨j + 1, tot2 + x.size, by omega, by omega, by go_num, by go_num⟩
                      case measure => simp [intOf]; omega
                · by_cases q2 : 1048576 < tot2
                  · go_wp2
                    go_ret
                    exact ⟨rfl, Below.refl _ _⟩
                  · go_wp2
                    go_round
                    case rel => exact ⟨k + 1, tot2, by omega, by omega, by go_num, rfl⟩
                    case measure => simp [intOf]; omega
          · by_cases hll : l1 = l0
            · subst hll
              have HRS2 := HRS
              go_wp2
              go_loopw [115] (fun i wr => ∃ k q : Nat, k ≤ l1 ∧ i = .int .i64 k ∧ Hid (∀ (j : Nat) (r q' : List ByteArray), j < k → ns[j]? = some r → vs[j]? = some q' → q'.length = r.length) ∧ wr = w.drewN q) (fun i _ => l1 - (intOf i).toNat)
              case atStart => exact ⟨0, 0, Nat.zero_le _, rfl, hide (fun j r q' h => by omega), rfl⟩
              case round =>
                obtain ⟨k, q, hk, rfl, heq, rfl⟩ := hrel
                by_cases hlt : k < l1
                · obtain ⟨r, ra, rb, ro, rc, hr, ha, hc, _, hrl⟩ := H0.out.at k hlt
                  obtain ⟨r1, ra1, rb1, ro1, rc1, hr1, ha1, hc1, _, hrl1⟩ := H1.out.at k hlt
                  have HR := hide hr
                  have HR1 := hide hr1
                  clear hr hr1
                  subst ha ha1
                  have i1 : (k : Int) < (l1 : Int) := by omega
                  by_cases hlen : r1.length = r.length
                  · have b1 : ((r1.length : Int) == (r.length : Int)) = true := by simp; omega
                    go_wp2_with fail
                    go_quiet (fail)
                    go_wp2
                    go_roundw
                    case rel =>
                      exact ⟨k + 1, _, by omega, by go_num, hide (fun j r' q' hj hr' hq' => by
                        by_cases hjk : j = k
                        · subst hjk
                          rw [HR.out] at hr'; cases hr'
                          rw [HR1.out] at hq'; cases hq'
                          exact hlen
                        · exact heq.out j r' q' (by omega) hr' hq'), rfl⟩
                    case measure => simp [intOf]; omega
                  · have b1 : ((r1.length : Int) == (r.length : Int)) = false := by simp; omega
                    go_wp2_with fail
                    go_quiet (fail)
                    go_wp2
                    go_ret
                    exact ⟨rfl, below_drewN (below_drewN (Below.refl _ _) _) _⟩
                · obtain rfl : l1 = k := by omega
                  have hB0 : Below w.heap.size w (w.drewN q) := below_drewN (Below.refl _ _) _
                  generalize w.drewN q = W0 at hB0 ⊢
                  have HNS := hide H0.out.l
                  have HVS := hide H1.out.l
                  have hNr : Hid (∀ r ∈ ns, r.length ≤ 4096) := hide (fun r hr => by
                    obtain ⟨j, hj, rfl⟩ := List.getElem_of_mem hr
                    exact HRS.out j _ (by have := HNS.out; omega) (List.getElem?_eq_getElem hj))
                  have hVr : Hid (∀ r ∈ vs, r.length ≤ 4096) := hide (fun r hr => by
                    obtain ⟨j, hj, rfl⟩ := List.getElem_of_mem hr
                    have hj' : j < ns.length := by have := HNS.out; have := HVS.out; omega
                    rw [heq.out j _ _ (by have := HNS.out; omega) (List.getElem?_eq_getElem hj') (List.getElem?_eq_getElem hj)]
                    exact hNr.out _ (List.getElem_mem hj'))
                  have HEQ : Hid (∀ (i : Nat) (r q' : List ByteArray), ns[i]? = some r → vs[i]? = some q' → q'.length = r.length) := hide (fun i r q' hr hq => heq.out i r q' (by have := (List.getElem?_eq_some_iff.1 hr).1; have := HNS.out; omega) hr hq)
                  clear heq HRS HRS2 hrs
                  go_wp2_with fail
                  refine (cloneR a0 b0 o0 l1 c0 ns W0 (H0.out.below hB0) (by omega) hNr.out).mono ?_
                  rintro e W1 ⟨na, bn, rfl, hN1, hB1⟩
                  have HN1 := hide hN1
                  clear hN1
                  go_wp2_with fail
                  refine (cloneR a1 b1 o1 l1 c1 vs W1 ((H1.out.below hB0).below hB1) (by omega) hVr.out).mono ?_
                  rintro e W2 ⟨va, bv, rfl, hV2, hB2⟩
                  have HV2 := hide hV2
                  have HN2 := hide ((HN1.out.below hB2).mono hB2.size)
                  clear hV2
                  go_wp2_with fail
                  refine (zzList na va bn bv l1 ns vs (by omega) W2 HN2.out HV2.out hNr.out HEQ.out).mono ?_
                  rintro e W3 ⟨gm, gs, gg, gf, ms, ss, gl, fl, rfl, hRm, hRs, hRg, hRf, hA, hB3⟩
                  have HRM := hide hRm
                  have HRZ := hide hRs
                  have HRG := hide hRg
                  have HRF := hide hRf
                  have HA := hide hA
                  have hBw : Below w.heap.size w W3 := ((hB0.trans (hB1.mono hB0.size)).trans (hB2.mono (Nat.le_trans hB0.size hB1.size))).trans (hB3.mono (Nat.le_trans (Nat.le_trans hB0.size hB1.size) hB2.size))
                  have HN3 := hide ((HN2.out.below hB3).mono hB3.size)
                  have HV3 := hide ((HV2.out.below hB3).mono hB3.size)
                  have d1 : (l1 : Int) = (l1 : Int) := rfl
                  clear hRm hRs hRg hRf hA HN1 HN2 HV2 hB0 hB1 hB2 hB3 H0 H1 HVS hVr d1
                  go_wp2
                  go_loopw [182] (fun i wr => ∃ k : Nat, k ≤ l1 ∧ i = .int .i64 k ∧ Below W3.heap.size W3 wr) (fun i _ => l1 - (intOf i).toNat)
                  case atStart => exact ⟨0, Nat.zero_le _, rfl, Below.refl _ _⟩
                  case round =>
                    obtain ⟨k, hk, rfl, hB⟩ := hrel
                    by_cases hlt : k < l1
                    · obtain ⟨r, ra, rb, hr, ha, hc, hS⟩ := (HN3.out.below hB).at k hlt
                      obtain ⟨q', va', vb, hq, hav, hcv, hSv⟩ := (HV3.out.below hB).at k hlt
                      have HAk := hide (HA.out k r q' hr hq)
                      have hr4 : r.length ≤ 4096 := hNr.out r (List.mem_of_getElem? hr)
                      have hq4 : q'.length = r.length := HEQ.out k r q' hr hq
                      have hbn : bn < wr.heap.size := Nat.lt_of_lt_of_le (HN3.out.hb (by omega)) hB.size
                      have hbv : bv < wr.heap.size := Nat.lt_of_lt_of_le (HV3.out.hb (by omega)) hB.size
                      have HS := hide (hS.mono hB.size)
                      have HSv := hide (hSv.mono hB.size)
                      clear hS hSv hr hq
                      subst ha hav
                      have i1 : (k : Int) < (l1 : Int) := by omega
                      go_wp2_with fail
                      go_cut [22, 23] (fun lo di wx => ∃ (gl2 : Nat) (xs : List Value), lo = .slice (some ⟨gl2, 0, none⟩) r.length r.length ∧ di = .int .i64 (firsts (kyOf r) r.length) ∧ Hid (RowAt wx gl2 3 xs) ∧ Hid (∀ x, x < r.length → ∃ y, xs[x]? = some (iv y) ∧ Lst (kyOf r) r.length x y) ∧ Below wr.heap.size wr wx)
                      case first =>
                        go_region_with (first
                          | (go_at_call 21; refine (sortedIdx ra rb r.length r hr4 _ ?_).mono ?_; exact HS.out.below ⟨rfl, rfl, rfl, Nat.le_refl _, fun _ _ => rfl⟩; rintro e W4 ⟨g, A, rfl, hAl, hRA, hperm, hpair, hgA, hB4'⟩; have hB4 : Below wr.heap.size wr W4 := below_of_drew hB4'; have HORD := hide (Ord.mk hAl hperm hpair); have HRA := hide hRA; have hc4 : W4.cell? ⟨bn, k, none⟩ = some (.slice ra r.length r.length) := (hB4.cell (p := ⟨bn, k, none⟩) hbn).trans hc; clear hAl hRA hperm hpair hB4' hgA)
                          | (go_at_call 20; refine (lastOf_any ra rb g r.length r A hr4 W4 ((HS.out.below hB4).mono hB4.size) HRA.out HORD.out).mono ?_; rintro e W5 ⟨gl2, xs, rfl, hxl, hRL, hlast, hgl, hB5⟩; have HLAST := hide hlast; have HRL := hide hRL; clear hlast hRL hxl hgl))
                        all_goals (try go_wp2_with fail)
                        all_goals go_meet
                        all_goals exact ⟨gl2, xs, rfl, rfl, HRL, HLAST, hB4.trans (hB5.mono hB4.size)⟩
                      case rest =>
                        obtain ⟨gl2, xs, rfl, rfl, HRL, HLAST, hBx⟩ := hcut
                        obtain ⟨hm, hz, g1, f1, gr1, fr1, hgk, hfk, -, hg1, -, hf1, hRg1, hRf1, hgot, hfnd⟩ := HAk.out
                        have hB35 : Below W3.heap.size W3 wc := hB.trans (hBx.mono hB.size)
                        have hc5 : wc.cell? ⟨bn, k, none⟩ = some (.slice ra r.length r.length) := (hBx.cell (p := ⟨bn, k, none⟩) hbn).trans hc
                        have hcv5 : wc.cell? ⟨bv, k, none⟩ = some (.slice va' q'.length q'.length) := (hBx.cell (p := ⟨bv, k, none⟩) hbv).trans hcv
                        have hm5 := (HRM.out.below hB35 HRM.out.lt).cell' k _ hm
                        have hz5 := (HRZ.out.below hB35 HRZ.out.lt).cell' k _ hz
                        have hg5 := (HRG.out.below hB35 HRG.out.lt).cell' k _ hgk
                        have hf5 := (HRF.out.below hB35 HRF.out.lt).cell' k _ hfk
                        have HRG1 := hide (hRg1.below hB35 hg1)
                        have HRF1 := hide (hRf1.below hB35 hf1)
                        have HSV5 := hide (HSv.out.below hBx)
                        have HGOT := hide hgot
                        have HFND := hide hfnd
                        clear hm hz hgk hfk hg1 hf1 hRg1 hRf1 hgot hfnd HAk hc hcv HSv HS HA HRM HRZ HRG HRF hbn hbv
                        rw [hq4] at hcv5
                        generalize firsts (kyOf r) r.length = dn at hz5 ⊢
                        have hdn : ((dn : Int) == (dn : Int)) = true := by simp
                        have hrn : ((r.length : Int) == (r.length : Int)) = true := by simp
                        go_wp2_with fail
                        go_quiet (fail)
                        go_wp2
                        clear hdn hrn hm5 hz5
                        generalize hWX : wc.drewN nq = WX
                        have hBX : Below W3.heap.size W3 WX := by rw [← hWX]; exact below_drewN hB35 _
                        have HRLX := hide (show RowAt WX gl2 3 xs by rw [← hWX]; exact HRL.out.drewN _)
                        have HRGX := hide (show RowAt WX g1 9 gr1 by rw [← hWX]; exact HRG1.out.drewN _)
                        have HRFX := hide (show RowAt WX f1 4 fr1 by rw [← hWX]; exact HRF1.out.drewN _)
                        have HSVX := hide (show StrAt wr.heap.size WX va' vb q'.length q' by rw [← hWX]; exact HSV5.out.below (below_drewN (Below.refl _ _) _))
                        have hcX : WX.cell? ⟨bn, k, none⟩ = some (.slice ra r.length r.length) := by rw [← hWX]; exact hc5
                        have hcvX : WX.cell? ⟨bv, k, none⟩ = some (.slice va' r.length r.length) := by rw [← hWX]; exact hcv5
                        have hgX : WX.cell? ⟨gg, k, none⟩ = some (.slice (some ⟨g1, 0, none⟩) r.length r.length) := by rw [← hWX]; exact hg5
                        have hfX : WX.cell? ⟨gf, k, none⟩ = some (.slice (some ⟨f1, 0, none⟩) r.length r.length) := by rw [← hWX]; exact hf5
                        clear hWX hc5 hcv5 hg5 hf5 HRL HRG1 HRF1 HSV5 hBx hB35
                        go_loopw [242] (fun i wy => ∃ j q : Nat, j ≤ r.length ∧ i = .int .i64 j ∧ wy = WX.drewN q) (fun i _ => r.length - (intOf i).toNat)
                        case atStart => exact ⟨0, 0, Nat.zero_le _, rfl, rfl⟩
                        case round =>
                          obtain ⟨j, q, hj, rfl, rfl⟩ := hrel
                          by_cases hjl : j < r.length
                          · obtain ⟨y, hy, hL⟩ := HLAST.out j hjl
                            have hyn : y < r.length := hL.1
                            have hcl := HRLX.out.cell' j _ hy
                            obtain ⟨v, hv, hva, hcw⟩ := HSVX.out.at y (by omega)
                            have hcf := HRFX.out.cell' j _ (HFND.out j hjl)
                            have hcg := HRGX.out.cell' j _ (HGOT.out j _ (List.getElem?_eq_getElem hjl))
                            rw [got_eq r q' r.length rfl hq4 j hjl y hL] at hcg
                            have hvy : q'[y]'(by omega) = v := by
                              rw [List.getElem?_eq_getElem (by omega)] at hv; exact Option.some.inj hv
                            rw [hvy, Option.getD_some] at hcg
                            unfold iv at hcl
                            subst hva
                            clear hL hy hv hvy
                            have i2 : (j : Int) < (r.length : Int) := by omega
                            have i3 : (y : Int) < (r.length : Int) := by omega
                            go_wp2_with fail
                            go_quiet (fail)
                            go_wp2
                            go_roundw
                            case rel => exact ⟨j + 1, _, by omega, by go_num, rfl⟩
                            case measure => simp [intOf]; omega
                          · go_wp2
                            go_roundw
                            case rel => exact ⟨k + 1, by omega, by go_num, below_drewN hBX _⟩
                            case measure => simp [intOf]; omega
                    · go_wp2
                      go_ret
                      exact ⟨rfl, hBw.trans (hB.mono hBw.size)⟩
            · have hne : ((l1 : Int) == (l0 : Int)) = false := by simp; omega
              go_wp2
              go_ret
              exact ⟨rfl, Below.refl _ _⟩
end Go.Proofs.Qxb6605960a
