import Derived.Test.Qxb6605960aBytes17
namespace Go.Proofs.Qxb6605960a
open Go.RowKit
set_option linter.unusedVariables false

/-- The plain core: what stands at a name's last place is what the map holds. -/
theorem got_eq (ns vs : List ByteArray) (n : Nat) (hn : ns.length = n) (hv : vs.length = n) (k : Nat) (hk : k < n) (y : Nat) (hL : Lst (kyOf ns) n k y) : lastV (ns.zip vs) (ns[k]'(by omega)) = some (vs[y]'(by have := hL.1; omega)) := by
  obtain ⟨hy, he, hlast⟩ := hL
  rw [kyOf_eq ns y (by omega), kyOf_eq ns k (by omega)] at he
  refine lastV_last ns vs (by omega) k (by omega) y (by omega) he (fun z hz hzn e => ?_)
  have := hlast z (by omega) (by rw [kyOf_eq ns z hzn, kyOf_eq ns k (by omega), e])
  omega

set_option maxRecDepth 100000 in
set_option maxHeartbeats 2000000 in
theorem law7_early (a0 a1 : Option Addr) (b0 o0 l0 c0 b1 o1 l1 c1 : Nat) (ns vs : List ByteArray) (w : World) (h0 : InStr w a0 b0 o0 l0 c0 ns) (h1 : InStr w a1 b1 o1 l1 c1 vs) (m0 : l0 ≤ 9223372036854775807) (m1 : l1 ≤ 9223372036854775807) (hl : 4096 < l0 ∨ 4096 < l1) :
    Calls Try.prog 7 #[.slice a0 l0 c0, .slice a1 l1 c1] w fun e w' => e = .returned (.bool true) ∧ Below w.heap.size w w' := by
  have H0 := hide h0
  have H1 := hide h1
  clear h0 h1
  by_cases g0 : 4096 < l0
  · clear hl
    go_enter Try.func7, Try.ntmps7
    go_wp2_with fail
    refine (bytes17 a0 a1 b0 o0 l0 c0 b1 o1 l1 c1 ns vs w H0.out H1.out m0 m1).mono ?_
    rintro e w' ⟨⟨b, rfl⟩, rfl⟩
    cases b with
    | false =>
      go_wp2
      go_ret
      exact ⟨rfl, Below.refl _ _⟩
    | true =>
      go_wp2
      go_ret
      exact ⟨rfl, Below.refl _ _⟩
  · have g1 : 4096 < l1 := by omega
    clear hl
    go_enter Try.func7, Try.ntmps7
    go_wp2_with fail
    refine (bytes17 a0 a1 b0 o0 l0 c0 b1 o1 l1 c1 ns vs w H0.out H1.out m0 m1).mono ?_
    rintro e w' ⟨⟨b, rfl⟩, rfl⟩
    cases b with
    | false =>
      go_wp2
      go_ret
      exact ⟨rfl, Below.refl _ _⟩
    | true =>
      go_wp2
      go_ret
      exact ⟨rfl, Below.refl _ _⟩

set_option maxRecDepth 100000 in
set_option maxHeartbeats 2000000 in
theorem law7_main (a0 a1 : Option Addr) (b0 o0 l0 c0 b1 o1 l1 c1 : Nat) (ns vs : List ByteArray) (w : World) (h0 : InStr w a0 b0 o0 l0 c0 ns) (h1 : InStr w a1 b1 o1 l1 c1 vs) (m0 : l0 ≤ 4096) (m1 : l1 ≤ 4096) :
    Calls Try.prog 7 #[.slice a0 l0 c0, .slice a1 l1 c1] w fun e w' => e = .returned (.bool true) ∧ Below w.heap.size w w' := by
  have H0 := hide h0
  have H1 := hide h1
  clear h0 h1
  go_enter Try.func7, Try.ntmps7
  go_wp2_with fail
  refine (bytes17 a0 a1 b0 o0 l0 c0 b1 o1 l1 c1 ns vs w H0.out H1.out (by omega) (by omega)).mono ?_
  rintro e w' ⟨⟨b, rfl⟩, rfl⟩
  cases b with
  | false =>
    go_wp2
    go_ret
    exact ⟨rfl, Below.refl _ _⟩
  | true =>
    go_wp2
    go_loop [5, 36] (fun t i => ∃ k tot : Nat, k ≤ l0 ∧ tot ≤ 1048576 ∧ i = .int .i64 k ∧ t = .int .i64 tot) (fun _ i => l0 - (intOf i).toNat)
    case atStart => exact ⟨0, 16 * l0 + 16 * l1, Nat.zero_le _, by omega, rfl, by go_num⟩
    case round =>
      obtain ⟨k, tot, hk, ht, rfl, rfl⟩ := hrel
      by_cases hlt : k < l0
      · obtain ⟨x, _, ha, hc, hsz⟩ := H0.out.at k hlt
        subst ha
        by_cases q1 : 1048576 < x.size
        · go_wp2
          go_ret
          exact ⟨rfl, Below.refl _ _⟩
        · by_cases q2 : 1048576 < tot + x.size
          · go_wp2
            go_ret
            exact ⟨rfl, Below.refl _ _⟩
          · go_wp2
            go_round
            case rel => exact ⟨k + 1, tot + x.size, by omega, by omega, by go_num, by go_num⟩
            case measure => simp [intOf]; omega
      · go_wp2
        go_loop [5, 52] (fun t i => ∃ k tot : Nat, k ≤ l1 ∧ tot ≤ 1048576 ∧ i = .int .i64 k ∧ t = .int .i64 tot) (fun _ i => l1 - (intOf i).toNat)
        case atStart => exact ⟨0, tot, Nat.zero_le _, by omega, rfl, by go_num⟩
        case round =>
          clear ht
          obtain ⟨j, tot2, hj, ht, rfl, rfl⟩ := hrel
          by_cases hlt1 : j < l1
          · obtain ⟨x, _, ha, hc, hsz⟩ := H1.out.at j hlt1
            subst ha
            by_cases q1 : 1048576 < x.size
            · go_wp2
              go_ret
              exact ⟨rfl, Below.refl _ _⟩
            · by_cases q2 : 1048576 < tot2 + x.size
              · go_wp2
                go_ret
                exact ⟨rfl, Below.refl _ _⟩
              · go_wp2
                go_round
                case rel => exact ⟨j + 1, tot2 + x.size, by omega, by omega, by go_num, by go_num⟩
                case measure => simp [intOf]; omega
          · by_cases hll : l1 = l0
            · subst hll
              go_wp2_with fail
              refine (cloneS a0 b0 o0 l1 c0 ns w H0.out (by omega)).mono ?_
              rintro e W1 ⟨na, bn, rfl, hN1, hB1⟩
              have HN1 := hide hN1
              clear hN1
              go_wp2_with fail
              refine (cloneS a1 b1 o1 l1 c1 vs W1 (H1.out.below hB1) (by omega)).mono ?_
              rintro e W2 ⟨va, bv, rfl, hV2, hB2⟩
              have HV2 := hide hV2
              have HN2 := hide ((HN1.out.below hB2).mono hB2.size)
              clear hV2
              go_wp2_with fail
              refine (zzObj na va bn bv l1 ns vs (by omega) W2 HN2.out HV2.out).mono ?_
              rintro e W3 ⟨gg, gf, rfl, hgot, hfound, _, _, hgg, hgf, hB3⟩
              have HGOT := hide hgot
              have HFND := hide hfound
              have HN3 := hide ((HN2.out.below hB3).mono hB3.size)
              clear hgot hfound
              go_wp2_with fail
              refine (sortedIdx na bn l1 ns (by omega) W3 HN3.out).mono ?_
              rintro e W4 ⟨g, A, rfl, hAl, hRA, hperm, hpair, hgA, hB4⟩
              have HORD := hide (Ord.mk hAl hperm hpair)
              have HRA := hide hRA
              have HN4 := hide ((HN3.out.below hB4).mono hB4.size)
              clear hAl hRA hperm hpair
              go_wp2_with fail
              refine (lastOf_any na bn g l1 ns A (by omega) W4 HN4.out HRA.out HORD.out).mono ?_
              rintro e W5 ⟨gl, xs, rfl, hxl, hRL, hlast, hgl, hB5⟩
              have HLAST := hide hlast
              have HRL := hide hRL
              have hB35 : Below W3.heap.size W3 W5 := hB4.trans (hB5.mono hB4.size)
              have hB25 : Below W2.heap.size W2 W5 := hB3.trans (hB35.mono hB3.size)
              have hBw : Below w.heap.size w W5 := (hB1.trans (hB2.mono hB1.size)).trans (hB25.mono (Nat.le_trans hB1.size hB2.size))
              have HV5 := hide (HV2.out.below hB25)
              have HNL := hide HN1.out.l
              have HVL := hide HV2.out.l
              clear hlast hRL hxl HORD HRA HN4 HN3 HN2 HN1 HV2 hgA hgl
              go_wp2
              go_loopw [113] (fun i wr => ∃ k q : Nat, k ≤ l1 ∧ i = .int .i64 k ∧ wr = W5.drewN q) (fun i _ => l1 - (intOf i).toNat)
              case atStart => exact ⟨0, 0, Nat.zero_le _, rfl, rfl⟩
              case round =>
                obtain ⟨k, q, hk, rfl, rfl⟩ := hrel
                by_cases hkl : k < l1
                · obtain ⟨y, hy, hL⟩ := HLAST.out k hkl
                  have hyn : y < l1 := hL.1
                  have hcl := HRL.out.cell' k _ hy
                  obtain ⟨v, hv, hva, hcv⟩ := HV5.out.at y hyn
                  have hcf := (hB35.cell (p := ⟨gf, k, none⟩) hgf).trans (HFND.out k hkl)
                  have hcg := (hB35.cell (p := ⟨gg, k, none⟩) hgg).trans (HGOT.out k (by rw [HNL.out]; exact hkl))
                  rw [got_eq ns vs l1 HNL.out HVL.out k hkl y hL] at hcg
                  have hvy : vs[y]'(by rw [HVL.out]; exact hyn) = v := by
                    rw [List.getElem?_eq_getElem (by rw [HVL.out]; exact hyn)] at hv; exact Option.some.inj hv
                  rw [hvy, Option.getD_some] at hcg
                  unfold iv at hcl
                  subst hva
                  clear hL hy hv hvy
                  have i1 : (k : Int) < (l1 : Int) := by omega
                  have i2 : (y : Int) < (l1 : Int) := by omega
                  go_wp2_with fail
                  go_quiet (fail)
                  go_wp2
                  go_roundw
                  case rel => exact ⟨k + 1, _, by omega, by go_num, rfl⟩
                  case measure => simp [intOf]; omega
                · go_wp2
                  go_ret
                  exact ⟨rfl, below_drewN hBw _⟩
            · have hne : ((l1 : Int) == (l0 : Int)) = false := by simp; omega
              go_wp2
              go_ret
              exact ⟨rfl, Below.refl _ _⟩
end Go.Proofs.Qxb6605960a
