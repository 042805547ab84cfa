import Derived.Test.Qxb6605960aMergeRound
namespace Go.Proofs.Qxb6605960a
open Go.RowKit
set_option linter.unusedVariables false

set_option maxRecDepth 1000000 in
/-- What holds at the head of each round of the merge. -/
def MI (ky : Nat → ByteArray) (A : List Nat) (k wd lo mid hi ga gb base : Nat) (w0 : World) (na : Option Addr) (c1 c2 c3 c5 c7 c8 c14 c15 c16 c17 c18 c19 c20 c21 c22 c23 c24 c25 c26 c27 c28 c29 c30 c31 c32 c33 c34 c35 c36 c37 c38 c39 c40 c41 c42 c43 c44 c45 c46 c47 c48 c49 c50 c51 c52 c53 c54 c55 c56 c57 c58 c59 c108 c109 c110 : Value) (a' : Act) (w' : World) : Prop :=
  ∃ (i j kk : Nat) (bs : List Value) (u60 u61 u62 u63 u64 u65 u66 u67 u68 u69 u70 u71 u72 u73 u74 u75 u76 u77 u78 u79 u80 u81 u82 u83 u84 u85 u86 u87 u88 u89 u90 u91 u92 u93 u94 u95 u96 u97 u98 u99 u100 u101 u102 u103 u104 u105 u106 u107 : Value), Hid (MSt ky A k wd lo mid hi i j kk) ∧ bs.length = k ∧ RowAt w' ga 3 (nv A) ∧ RowAt w' gb 3 bs ∧ Hid (∀ p, p < kk → bs[p]? = (tgt ky A wd p).map iv) ∧ Below base w0 w' ∧ a' = ⟨#[.slice na k k, c1, c2, c3, .slice (some ⟨ga, 0, none⟩) k k, c5, .slice (some ⟨gb, 0, none⟩) k k, c7, c8, .int .i64 mid, .int .i64 hi, .int .i64 (i), .int .i64 (j), .int .i64 (kk), c14, c15, c16, c17, c18, c19, c20, c21, c22, c23, c24, c25, c26, c27, c28, c29, c30, c31, c32, c33, c34, c35, c36, c37, c38, c39, c40, c41, c42, c43, c44, c45, c46, c47, c48, c49, c50, c51, c52, c53, c54, c55, c56, c57, c58, c59, u60, u61, u62, u63, u64, u65, u66, u67, u68, u69, u70, u71, u72, u73, u74, u75, u76, u77, u78, u79, u80, u81, u82, u83, u84, u85, u86, u87, u88, u89, u90, u91, u92, u93, u94, u95, u96, u97, u98, u99, u100, u101, u102, u103, u104, u105, u106, u107, c108, c109, c110], []⟩

def mmu (hi : Nat) (a' : Act) : Nat := hi - (intOf (a'.tmps.getD 13 undef)).toNat

set_option maxRecDepth 1000000 in
set_option maxHeartbeats 1000000 in
theorem ml_exit (na : Option Addr) (k ga gb mid hi i j kk : Nat) (wr : World) (R : Act → World → Prop) (Q0 : Exit → Act → World → Prop) (c1 c2 c3 c5 c7 c8 c14 c15 c16 c17 c18 c19 c20 c21 c22 c23 c24 c25 c26 c27 c28 c29 c30 c31 c32 c33 c34 c35 c36 c37 c38 c39 c40 c41 c42 c43 c44 c45 c46 c47 c48 c49 c50 c51 c52 c53 c54 c55 c56 c57 c58 c59 c108 c109 c110 : Value) (u60 u61 u62 u63 u64 u65 u66 u67 u68 u69 u70 u71 u72 u73 u74 u75 u76 u77 u78 u79 u80 u81 u82 u83 u84 u85 u86 u87 u88 u89 u90 u91 u92 u93 u94 u95 u96 u97 u98 u99 u100 u101 u102 u103 u104 u105 u106 u107 : Value)
    (hk : k ≤ 4096) (h1 : hi ≤ k) (h5 : ¬ kk < hi)
    (hR : ∀ (v60 v61 v62 v63 v64 v65 v66 v67 v68 v69 v70 v71 v72 v73 v74 v75 v76 v77 v78 v79 v80 v81 v82 v83 v84 v85 v86 v87 v88 v89 v90 v91 v92 v93 v94 v95 v96 v97 v98 v99 v100 v101 v102 v103 v104 v105 v106 v107 : Value), Q0 (.exit 6) ⟨#[.slice na k k, c1, c2, c3, .slice (some ⟨ga, 0, none⟩) k k, c5, .slice (some ⟨gb, 0, none⟩) k k, c7, c8, .int .i64 mid, .int .i64 hi, .int .i64 (i), .int .i64 (j), .int .i64 (kk), c14, c15, c16, c17, c18, c19, c20, c21, c22, c23, c24, c25, c26, c27, c28, c29, c30, c31, c32, c33, c34, c35, c36, c37, c38, c39, c40, c41, c42, c43, c44, c45, c46, c47, c48, c49, c50, c51, c52, c53, c54, c55, c56, c57, c58, c59, v60, v61, v62, v63, v64, v65, v66, v67, v68, v69, v70, v71, v72, v73, v74, v75, v76, v77, v78, v79, v80, v81, v82, v83, v84, v85, v86, v87, v88, v89, v90, v91, v92, v93, v94, v95, v96, v97, v98, v99, v100, v101, v102, v103, v104, v105, v106, v107, c108, c109, c110], []⟩ wr) :
    Code.wp Try.prog (((Try.f21.body.map loopsOf).getD []).getD 3 .skip) (Exit.then R Q0) ⟨#[.slice na k k, c1, c2, c3, .slice (some ⟨ga, 0, none⟩) k k, c5, .slice (some ⟨gb, 0, none⟩) k k, c7, c8, .int .i64 mid, .int .i64 hi, .int .i64 (i), .int .i64 (j), .int .i64 (kk), c14, c15, c16, c17, c18, c19, c20, c21, c22, c23, c24, c25, c26, c27, c28, c29, c30, c31, c32, c33, c34, c35, c36, c37, c38, c39, c40, c41, c42, c43, c44, c45, c46, c47, c48, c49, c50, c51, c52, c53, c54, c55, c56, c57, c58, c59, u60, u61, u62, u63, u64, u65, u66, u67, u68, u69, u70, u71, u72, u73, u74, u75, u76, u77, u78, u79, u80, u81, u82, u83, u84, u85, u86, u87, u88, u89, u90, u91, u92, u93, u94, u95, u96, u97, u98, u99, u100, u101, u102, u103, u104, u105, u106, u107, c108, c109, c110], []⟩ wr := by
  conv => arg 2; whnf
  go_wp2
  exact hR _ _ _ _ _ _ _ _ _ _ _ _ _ _ _ _ _ _ _ _ _ _ _ _ _ _ _ _ _ _ _ _ _ _ _ _ _ _ _ _ _ _ _ _ _ _ _ _

theorem mmu_lt {hi kk : Nat} (h : kk < hi) {a a' : Act} (h1 : a.tmps.getD 13 undef = .int .i64 (kk : Int)) (h2 : a'.tmps.getD 13 undef = .int .i64 ((kk : Int) + 1)) : mmu hi a' < mmu hi a := by
  unfold mmu
  rw [h1, h2]
  simp only [intOf]
  omega

set_option maxRecDepth 1000000 in
set_option maxHeartbeats 1000000 in
theorem merge_loop (ns : List ByteArray) (A : List Nat) (n₀ bn k wd lo m mid hi ga gb base : Nat) (w0 : World) (na : Option Addr) (Q0 : Exit → Act → World → Prop) (c1 c2 c3 c5 c7 c8 c14 c15 c16 c17 c18 c19 c20 c21 c22 c23 c24 c25 c26 c27 c28 c29 c30 c31 c32 c33 c34 c35 c36 c37 c38 c39 c40 c41 c42 c43 c44 c45 c46 c47 c48 c49 c50 c51 c52 c53 c54 c55 c56 c57 c58 c59 c108 c109 c110 : Value) (u60 u61 u62 u63 u64 u65 u66 u67 u68 u69 u70 u71 u72 u73 u74 u75 u76 u77 u78 u79 u80 u81 u82 u83 u84 u85 u86 u87 u88 u89 u90 u91 u92 u93 u94 u95 u96 u97 u98 u99 u100 u101 u102 u103 u104 u105 u106 u107 : Value) (i j kk : Nat) (bs : List Value) (w : World)
    (hk : k ≤ 4096) (hN : StrAt n₀ w0 na bn k ns) (hn₀ : n₀ ≤ base) (hS : Srt (kyOf ns) k wd A) (hlo : lo = m * (wd * 2)) (hab : ga ≠ gb) (hgb : base ≤ gb)
    (hM : MSt (kyOf ns) A k wd lo mid hi i j kk) (hbl : bs.length = k) (hRa : RowAt w ga 3 (nv A)) (hRb : RowAt w gb 3 bs) (hbs : ∀ p, p < kk → bs[p]? = (tgt (kyOf ns) A wd p).map iv) (hB : Below base w0 w)
    (hexit : ∀ (i j : Nat) (bs : List Value) (w' : World) (v60 v61 v62 v63 v64 v65 v66 v67 v68 v69 v70 v71 v72 v73 v74 v75 v76 v77 v78 v79 v80 v81 v82 v83 v84 v85 v86 v87 v88 v89 v90 v91 v92 v93 v94 v95 v96 v97 v98 v99 v100 v101 v102 v103 v104 v105 v106 v107 : Value), bs.length = k → RowAt w' ga 3 (nv A) → RowAt w' gb 3 bs → (∀ p, p < hi → bs[p]? = (tgt (kyOf ns) A wd p).map iv) → Below base w0 w' → Q0 (.exit 6) ⟨#[.slice na k k, c1, c2, c3, .slice (some ⟨ga, 0, none⟩) k k, c5, .slice (some ⟨gb, 0, none⟩) k k, c7, c8, .int .i64 mid, .int .i64 hi, .int .i64 (i), .int .i64 (j), .int .i64 (hi), c14, c15, c16, c17, c18, c19, c20, c21, c22, c23, c24, c25, c26, c27, c28, c29, c30, c31, c32, c33, c34, c35, c36, c37, c38, c39, c40, c41, c42, c43, c44, c45, c46, c47, c48, c49, c50, c51, c52, c53, c54, c55, c56, c57, c58, c59, v60, v61, v62, v63, v64, v65, v66, v67, v68, v69, v70, v71, v72, v73, v74, v75, v76, v77, v78, v79, v80, v81, v82, v83, v84, v85, v86, v87, v88, v89, v90, v91, v92, v93, v94, v95, v96, v97, v98, v99, v100, v101, v102, v103, v104, v105, v106, v107, c108, c109, c110], []⟩ w') :
    Code.wp Try.prog (Code.loop (((Try.f21.body.map loopsOf).getD []).getD 3 .skip)) Q0 ⟨#[.slice na k k, c1, c2, c3, .slice (some ⟨ga, 0, none⟩) k k, c5, .slice (some ⟨gb, 0, none⟩) k k, c7, c8, .int .i64 mid, .int .i64 hi, .int .i64 (i), .int .i64 (j), .int .i64 (kk), c14, c15, c16, c17, c18, c19, c20, c21, c22, c23, c24, c25, c26, c27, c28, c29, c30, c31, c32, c33, c34, c35, c36, c37, c38, c39, c40, c41, c42, c43, c44, c45, c46, c47, c48, c49, c50, c51, c52, c53, c54, c55, c56, c57, c58, c59, u60, u61, u62, u63, u64, u65, u66, u67, u68, u69, u70, u71, u72, u73, u74, u75, u76, u77, u78, u79, u80, u81, u82, u83, u84, u85, u86, u87, u88, u89, u90, u91, u92, u93, u94, u95, u96, u97, u98, u99, u100, u101, u102, u103, u104, u105, u106, u107, c108, c109, c110], []⟩ w := by
  refine wp_loop (MI (kyOf ns) A k wd lo mid hi ga gb base w0 na c1 c2 c3 c5 c7 c8 c14 c15 c16 c17 c18 c19 c20 c21 c22 c23 c24 c25 c26 c27 c28 c29 c30 c31 c32 c33 c34 c35 c36 c37 c38 c39 c40 c41 c42 c43 c44 c45 c46 c47 c48 c49 c50 c51 c52 c53 c54 c55 c56 c57 c58 c59 c108 c109 c110) (fun a' _ => mmu hi a') ?_ (fun a' w' hI => ?_)
  · exact ⟨i, j, kk, bs, u60, u61, u62, u63, u64, u65, u66, u67, u68, u69, u70, u71, u72, u73, u74, u75, u76, u77, u78, u79, u80, u81, u82, u83, u84, u85, u86, u87, u88, u89, u90, u91, u92, u93, u94, u95, u96, u97, u98, u99, u100, u101, u102, u103, u104, u105, u106, u107, hide hM, hbl, hRa, hRb, hide hbs, hB, rfl⟩
  · clear hM hbl hRa hRb hbs hB
    unfold MI at hI
    obtain ⟨i, hI⟩ := hI
    obtain ⟨j, hI⟩ := hI
    obtain ⟨kk, hI⟩ := hI
    obtain ⟨bs, hI⟩ := hI
    obtain ⟨u60, hI⟩ := hI
    obtain ⟨u61, hI⟩ := hI
    obtain ⟨u62, hI⟩ := hI
    obtain ⟨u63, hI⟩ := hI
    obtain ⟨u64, hI⟩ := hI
    obtain ⟨u65, hI⟩ := hI
    obtain ⟨u66, hI⟩ := hI
    obtain ⟨u67, hI⟩ := hI
    obtain ⟨u68, hI⟩ := hI
    obtain ⟨u69, hI⟩ := hI
    obtain ⟨u70, hI⟩ := hI
    obtain ⟨u71, hI⟩ := hI
    obtain ⟨u72, hI⟩ := hI
    obtain ⟨u73, hI⟩ := hI
    obtain ⟨u74, hI⟩ := hI
    obtain ⟨u75, hI⟩ := hI
    obtain ⟨u76, hI⟩ := hI
    obtain ⟨u77, hI⟩ := hI
    obtain ⟨u78, hI⟩ := hI
    obtain ⟨u79, hI⟩ := hI
    obtain ⟨u80, hI⟩ := hI
    obtain ⟨u81, hI⟩ := hI
    obtain ⟨u82, hI⟩ := hI
    obtain ⟨u83, hI⟩ := hI
    obtain ⟨u84, hI⟩ := hI
    obtain ⟨u85, hI⟩ := hI
    obtain ⟨u86, hI⟩ := hI
    obtain ⟨u87, hI⟩ := hI
    obtain ⟨u88, hI⟩ := hI
    obtain ⟨u89, hI⟩ := hI
    obtain ⟨u90, hI⟩ := hI
    obtain ⟨u91, hI⟩ := hI
    obtain ⟨u92, hI⟩ := hI
    obtain ⟨u93, hI⟩ := hI
    obtain ⟨u94, hI⟩ := hI
    obtain ⟨u95, hI⟩ := hI
    obtain ⟨u96, hI⟩ := hI
    obtain ⟨u97, hI⟩ := hI
    obtain ⟨u98, hI⟩ := hI
    obtain ⟨u99, hI⟩ := hI
    obtain ⟨u100, hI⟩ := hI
    obtain ⟨u101, hI⟩ := hI
    obtain ⟨u102, hI⟩ := hI
    obtain ⟨u103, hI⟩ := hI
    obtain ⟨u104, hI⟩ := hI
    obtain ⟨u105, hI⟩ := hI
    obtain ⟨u106, hI⟩ := hI
    obtain ⟨u107, hI⟩ := hI
    obtain ⟨hM, hbl, hRa, hRb, hbs, hB, rfl⟩ := hI
    have hM' := hM.out
    obtain ⟨y1, y2, y3, y4, y5⟩ : lo ≤ i ∧ i ≤ mid ∧ mid ≤ j ∧ j ≤ hi ∧ kk + mid = i + j := ⟨hM'.hi1, hM'.hi2, hM'.hj1, hM'.hj2, hM'.hk⟩
    have hh := hM'.hhi
    have hm := hM'.hmid
    have hl := hM'.hlo
    have y7 : lo ≤ kk := by omega
    by_cases y6 : kk < hi
    · obtain ⟨old, hst⟩ := hRb.old kk (by omega)
      have hfz := hRb.frozen kk
      have HE := hide (ends hS hlo hM')
      have hK2 : kk < lo + 2 * wd := by omega
      by_cases hj : j < hi
      · obtain ⟨y, hy, hyl, hyk⟩ := HE.out.2 hj
        have hcy := hRa.cell' j _ (nv_at hy)
        by_cases hi' : i < mid
        · obtain ⟨x, hx, hxl, hxk⟩ := HE.out.1 hi'
          have hcx := hRa.cell' i _ (nv_at hx)
          have hN' := hN.below (hB.mono hn₀)
          obtain ⟨hna, hkx⟩ := key_at hN' x hxk
          obtain ⟨_, hky⟩ := key_at hN' y hyk
          have ht := go_test (kyOf ns) x y (by omega)
          subst hna
          cases hb : ile (kyOf ns) x y with
          | true =>
            rw [hb] at ht
            obtain ⟨hM1, hM2⟩ := hM'.left hi' hx (fun _ y' hy' => by rw [hy] at hy'; cases hy'; exact hb)
            exact ml_lt bn k ga gb mid hi i j kk x y (kyOf ns x) (kyOf ns y) old w' _ Q0 _ _ _ _ _ _ _ _ _ _ _ _ _ _ _ _ _ _ _ _ _ _ _ _ _ _ _ _ _ _ _ _ _ _ _ _ _ _ _ _ _ _ _ _ _ _ _ _ _ _ _ _ _ _ _ _ _ _ _ _ _ _ _ _ _ _ _ _ _ _ _ _ _ _ _ _ _ _ _ _ _ _ _ _ _ _ _ _ _ _ _ _ _ _ _ _ _ _ _ _ _ _ _ hk (by omega) (by omega) y2 y4 y6 hst hfz hi' hj hxk hyk hcx hcy hkx hky ht (fun nq v60 v61 v62 v63 v64 v65 v66 v67 v68 v69 v70 v71 v72 v73 v74 v75 v76 v77 v78 v79 v80 v81 v82 v83 v84 v85 v86 v87 v88 v89 v90 v91 v92 v93 v94 v95 v96 v97 v98 v99 v100 v101 v102 v103 v104 v105 v106 v107 => ⟨⟨i + 1, j, kk + 1, bs.set kk (iv x), v60, v61, v62, v63, v64, v65, v66, v67, v68, v69, v70, v71, v72, v73, v74, v75, v76, v77, v78, v79, v80, v81, v82, v83, v84, v85, v86, v87, v88, v89, v90, v91, v92, v93, v94, v95, v96, v97, v98, v99, v100, v101, v102, v103, v104, v105, v106, v107, hide hM2, by simp [hbl], (hRa.drewN _).other hab kk _, (hRb.drewN _).set kk _, hide (put_tgt hlo y7 hK2 hM1 hbs.out (by rw [hbl]; omega)), (below_drewN hB _).setCell (p := ⟨gb, kk, none⟩) hgb _, rfl⟩, mmu_lt y6 rfl rfl⟩)
          | false =>
            rw [hb] at ht
            obtain ⟨hM1, hM2⟩ := hM'.right hj hy (fun _ x' hx' => by rw [hx] at hx'; cases hx'; exact hb)
            exact ml_rt bn k ga gb mid hi i j kk x y (kyOf ns x) (kyOf ns y) old w' _ Q0 _ _ _ _ _ _ _ _ _ _ _ _ _ _ _ _ _ _ _ _ _ _ _ _ _ _ _ _ _ _ _ _ _ _ _ _ _ _ _ _ _ _ _ _ _ _ _ _ _ _ _ _ _ _ _ _ _ _ _ _ _ _ _ _ _ _ _ _ _ _ _ _ _ _ _ _ _ _ _ _ _ _ _ _ _ _ _ _ _ _ _ _ _ _ _ _ _ _ _ _ _ _ _ hk (by omega) (by omega) y2 y4 y6 hst hfz hi' hj hxk hyk hcx hcy hkx hky ht (fun nq v60 v61 v62 v63 v64 v65 v66 v67 v68 v69 v70 v71 v72 v73 v74 v75 v76 v77 v78 v79 v80 v81 v82 v83 v84 v85 v86 v87 v88 v89 v90 v91 v92 v93 v94 v95 v96 v97 v98 v99 v100 v101 v102 v103 v104 v105 v106 v107 => ⟨⟨i, j + 1, kk + 1, bs.set kk (iv y), v60, v61, v62, v63, v64, v65, v66, v67, v68, v69, v70, v71, v72, v73, v74, v75, v76, v77, v78, v79, v80, v81, v82, v83, v84, v85, v86, v87, v88, v89, v90, v91, v92, v93, v94, v95, v96, v97, v98, v99, v100, v101, v102, v103, v104, v105, v106, v107, hide hM2, by simp [hbl], (hRa.drewN _).other hab kk _, (hRb.drewN _).set kk _, hide (put_tgt hlo y7 hK2 hM1 hbs.out (by rw [hbl]; omega)), (below_drewN hB _).setCell (p := ⟨gb, kk, none⟩) hgb _, rfl⟩, mmu_lt y6 rfl rfl⟩)
        · obtain ⟨hM1, hM2⟩ := hM'.right hj hy (fun h => absurd h hi')
          exact ml_r na k ga gb mid hi i j kk 0 y ByteArray.empty ByteArray.empty old w' _ Q0 _ _ _ _ _ _ _ _ _ _ _ _ _ _ _ _ _ _ _ _ _ _ _ _ _ _ _ _ _ _ _ _ _ _ _ _ _ _ _ _ _ _ _ _ _ _ _ _ _ _ _ _ _ _ _ _ _ _ _ _ _ _ _ _ _ _ _ _ _ _ _ _ _ _ _ _ _ _ _ _ _ _ _ _ _ _ _ _ _ _ _ _ _ _ _ _ _ _ _ _ _ _ _ hk (by omega) (by omega) y2 y4 y6 hst hfz hi' hj hcy (fun nq v60 v61 v62 v63 v64 v65 v66 v67 v68 v69 v70 v71 v72 v73 v74 v75 v76 v77 v78 v79 v80 v81 v82 v83 v84 v85 v86 v87 v88 v89 v90 v91 v92 v93 v94 v95 v96 v97 v98 v99 v100 v101 v102 v103 v104 v105 v106 v107 => ⟨⟨i, j + 1, kk + 1, bs.set kk (iv y), v60, v61, v62, v63, v64, v65, v66, v67, v68, v69, v70, v71, v72, v73, v74, v75, v76, v77, v78, v79, v80, v81, v82, v83, v84, v85, v86, v87, v88, v89, v90, v91, v92, v93, v94, v95, v96, v97, v98, v99, v100, v101, v102, v103, v104, v105, v106, v107, hide hM2, by simp [hbl], (hRa.drewN _).other hab kk _, (hRb.drewN _).set kk _, hide (put_tgt hlo y7 hK2 hM1 hbs.out (by rw [hbl]; omega)), (below_drewN hB _).setCell (p := ⟨gb, kk, none⟩) hgb _, rfl⟩, mmu_lt y6 rfl rfl⟩)
      · have hi' : i < mid := by omega
        obtain ⟨x, hx, hxl, hxk⟩ := HE.out.1 hi'
        have hcx := hRa.cell' i _ (nv_at hx)
        obtain ⟨hM1, hM2⟩ := hM'.left hi' hx (fun h => absurd h hj)
        exact ml_l na k ga gb mid hi i j kk x 0 ByteArray.empty ByteArray.empty old w' _ Q0 _ _ _ _ _ _ _ _ _ _ _ _ _ _ _ _ _ _ _ _ _ _ _ _ _ _ _ _ _ _ _ _ _ _ _ _ _ _ _ _ _ _ _ _ _ _ _ _ _ _ _ _ _ _ _ _ _ _ _ _ _ _ _ _ _ _ _ _ _ _ _ _ _ _ _ _ _ _ _ _ _ _ _ _ _ _ _ _ _ _ _ _ _ _ _ _ _ _ _ _ _ _ _ hk (by omega) (by omega) y2 y4 y6 hst hfz hi' hj hcx (fun nq v60 v61 v62 v63 v64 v65 v66 v67 v68 v69 v70 v71 v72 v73 v74 v75 v76 v77 v78 v79 v80 v81 v82 v83 v84 v85 v86 v87 v88 v89 v90 v91 v92 v93 v94 v95 v96 v97 v98 v99 v100 v101 v102 v103 v104 v105 v106 v107 => ⟨⟨i + 1, j, kk + 1, bs.set kk (iv x), v60, v61, v62, v63, v64, v65, v66, v67, v68, v69, v70, v71, v72, v73, v74, v75, v76, v77, v78, v79, v80, v81, v82, v83, v84, v85, v86, v87, v88, v89, v90, v91, v92, v93, v94, v95, v96, v97, v98, v99, v100, v101, v102, v103, v104, v105, v106, v107, hide hM2, by simp [hbl], (hRa.drewN _).other hab kk _, (hRb.drewN _).set kk _, hide (put_tgt hlo y7 hK2 hM1 hbs.out (by rw [hbl]; omega)), (below_drewN hB _).setCell (p := ⟨gb, kk, none⟩) hgb _, rfl⟩, mmu_lt y6 rfl rfl⟩)
    · obtain rfl : kk = hi := by omega
      exact ml_exit na k ga gb mid kk i j kk w' _ Q0 _ _ _ _ _ _ _ _ _ _ _ _ _ _ _ _ _ _ _ _ _ _ _ _ _ _ _ _ _ _ _ _ _ _ _ _ _ _ _ _ _ _ _ _ _ _ _ _ _ _ _ _ _ _ _ _ _ _ _ _ _ _ _ _ _ _ _ _ _ _ _ _ _ _ _ _ _ _ _ _ _ _ _ _ _ _ _ _ _ _ _ _ _ _ _ _ _ _ _ _ _ _ _ hk (by omega) y6 (fun v60 v61 v62 v63 v64 v65 v66 v67 v68 v69 v70 v71 v72 v73 v74 v75 v76 v77 v78 v79 v80 v81 v82 v83 v84 v85 v86 v87 v88 v89 v90 v91 v92 v93 v94 v95 v96 v97 v98 v99 v100 v101 v102 v103 v104 v105 v106 v107 => hexit i j bs w' v60 v61 v62 v63 v64 v65 v66 v67 v68 v69 v70 v71 v72 v73 v74 v75 v76 v77 v78 v79 v80 v81 v82 v83 v84 v85 v86 v87 v88 v89 v90 v91 v92 v93 v94 v95 v96 v97 v98 v99 v100 v101 v102 v103 v104 v105 v106 v107 hbl hRa hRb hbs.out hB)
end Go.Proofs.Qxb6605960a
