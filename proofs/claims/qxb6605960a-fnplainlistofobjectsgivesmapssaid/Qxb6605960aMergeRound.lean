import Derived.Test.Qxb6605960aSortBase
namespace Go.Proofs.Qxb6605960a
open Go.RowKit
set_option linter.unusedVariables false

/-- The loops of a code, each by its body, the outer ahead of the inner. -/
def loopsOf : Code → List Code
  | .loop c => c :: loopsOf c
  | .seq a b => loopsOf a ++ loopsOf b
  | .block _ c => loopsOf c
  | .scope c => loopsOf c
  | .cond _ a b => loopsOf a ++ loopsOf b
  | _ => []

set_option maxRecDepth 1000000 in
set_option maxHeartbeats 1000000 in
theorem ml_lt (bn k ga gb mid hi i j kk x y : Nat) (kx ky : ByteArray) (old : Value) (wr : World) (R : Act → World → Prop) (Q0 : Exit → Act → World → Prop) (c1 c2 c3 c5 c7 c8 c14 c15 c16 c17 c18 c19 c20 c21 c22 c23 c24 c25 c26 c27 c28 c29 c30 c31 c32 c33 c34 c35 c36 c37 c38 c39 c40 c41 c42 c43 c44 c45 c46 c47 c48 c49 c50 c51 c52 c53 c54 c55 c56 c57 c58 c59 c108 c109 c110 : Value) (u60 u61 u62 u63 u64 u65 u66 u67 u68 u69 u70 u71 u72 u73 u74 u75 u76 u77 u78 u79 u80 u81 u82 u83 u84 u85 u86 u87 u88 u89 u90 u91 u92 u93 u94 u95 u96 u97 u98 u99 u100 u101 u102 u103 u104 u105 u106 u107 : Value)
    (hk : k ≤ 4096) (h1 : hi ≤ k) (h2 : mid ≤ hi) (h3 : i ≤ mid) (h4 : j ≤ hi) (h5 : kk < hi) (hst : wr.cell? ⟨gb, kk, none⟩ = some old) (hfz : wr.frozen? ⟨gb, kk, none⟩ = false) (hi' : i < mid) (hj : j < hi) (hxk : x < k) (hyk : y < k) (hcx : wr.cell? ⟨ga, i, none⟩ = some (.int .i64 (x : Int))) (hcy : wr.cell? ⟨ga, j, none⟩ = some (.int .i64 (y : Int))) (hkx : wr.cell? ⟨bn, x, none⟩ = some (.string kx)) (hky : wr.cell? ⟨bn, y, none⟩ = some (.string ky)) (ht : (Op.bytesLess kx.toList ky.toList || kx.toList == ky.toList) = true)
    (hR : ∀ (nq : Nat) (v60 v61 v62 v63 v64 v65 v66 v67 v68 v69 v70 v71 v72 v73 v74 v75 v76 v77 v78 v79 v80 v81 v82 v83 v84 v85 v86 v87 v88 v89 v90 v91 v92 v93 v94 v95 v96 v97 v98 v99 v100 v101 v102 v103 v104 v105 v106 v107 : Value), R ⟨#[.slice (some ⟨bn, 0, none⟩) k k, c1, c2, c3, .slice (some ⟨ga, 0, none⟩) k k, c5, .slice (some ⟨gb, 0, none⟩) k k, c7, c8, .int .i64 mid, .int .i64 hi, .int .i64 ((i : Int) + 1), .int .i64 (j), .int .i64 ((kk : Int) + 1), c14, c15, c16, c17, c18, c19, c20, c21, c22, c23, c24, c25, c26, c27, c28, c29, c30, c31, c32, c33, c34, c35, c36, c37, c38, c39, c40, c41, c42, c43, c44, c45, c46, c47, c48, c49, c50, c51, c52, c53, c54, c55, c56, c57, c58, c59, v60, v61, v62, v63, v64, v65, v66, v67, v68, v69, v70, v71, v72, v73, v74, v75, v76, v77, v78, v79, v80, v81, v82, v83, v84, v85, v86, v87, v88, v89, v90, v91, v92, v93, v94, v95, v96, v97, v98, v99, v100, v101, v102, v103, v104, v105, v106, v107, c108, c109, c110], []⟩ ((wr.drewN nq).setCell ⟨gb, kk, none⟩ (.int .i64 (x : Int)))) :
    Code.wp Try.prog (((Try.f21.body.map loopsOf).getD []).getD 3 .skip) (Exit.then R Q0) ⟨#[.slice (some ⟨bn, 0, none⟩) k k, c1, c2, c3, .slice (some ⟨ga, 0, none⟩) k k, c5, .slice (some ⟨gb, 0, none⟩) k k, c7, c8, .int .i64 mid, .int .i64 hi, .int .i64 (i), .int .i64 (j), .int .i64 (kk), c14, c15, c16, c17, c18, c19, c20, c21, c22, c23, c24, c25, c26, c27, c28, c29, c30, c31, c32, c33, c34, c35, c36, c37, c38, c39, c40, c41, c42, c43, c44, c45, c46, c47, c48, c49, c50, c51, c52, c53, c54, c55, c56, c57, c58, c59, u60, u61, u62, u63, u64, u65, u66, u67, u68, u69, u70, u71, u72, u73, u74, u75, u76, u77, u78, u79, u80, u81, u82, u83, u84, u85, u86, u87, u88, u89, u90, u91, u92, u93, u94, u95, u96, u97, u98, u99, u100, u101, u102, u103, u104, u105, u106, u107, c108, c109, c110], []⟩ wr := by
  conv => arg 2; whnf
  have ikk : (kk : Int) < (k : Int) := by omega
  have g1 : decide ((hi : Int) ≤ (j : Int)) = false := by simp; omega
  have g1n : decide (hi ≤ j) = false := by simp; omega
  have g2 : decide ((i : Int) < (mid : Int)) = true := by simp; omega
  have g2n : decide (i < mid) = true := by simp; omega
  have ii : (i : Int) < (k : Int) := by omega
  have ij : (j : Int) < (k : Int) := by omega
  have ix : (x : Int) < (k : Int) := by omega
  have iy : (y : Int) < (k : Int) := by omega
  go_wp2_with fail
  go_quiet (fail)
  go_wp2
  exact hR _ _ _ _ _ _ _ _ _ _ _ _ _ _ _ _ _ _ _ _ _ _ _ _ _ _ _ _ _ _ _ _ _ _ _ _ _ _ _ _ _ _ _ _ _ _ _ _ _

set_option maxRecDepth 1000000 in
set_option maxHeartbeats 1000000 in
theorem ml_rt (bn k ga gb mid hi i j kk x y : Nat) (kx ky : ByteArray) (old : Value) (wr : World) (R : Act → World → Prop) (Q0 : Exit → Act → World → Prop) (c1 c2 c3 c5 c7 c8 c14 c15 c16 c17 c18 c19 c20 c21 c22 c23 c24 c25 c26 c27 c28 c29 c30 c31 c32 c33 c34 c35 c36 c37 c38 c39 c40 c41 c42 c43 c44 c45 c46 c47 c48 c49 c50 c51 c52 c53 c54 c55 c56 c57 c58 c59 c108 c109 c110 : Value) (u60 u61 u62 u63 u64 u65 u66 u67 u68 u69 u70 u71 u72 u73 u74 u75 u76 u77 u78 u79 u80 u81 u82 u83 u84 u85 u86 u87 u88 u89 u90 u91 u92 u93 u94 u95 u96 u97 u98 u99 u100 u101 u102 u103 u104 u105 u106 u107 : Value)
    (hk : k ≤ 4096) (h1 : hi ≤ k) (h2 : mid ≤ hi) (h3 : i ≤ mid) (h4 : j ≤ hi) (h5 : kk < hi) (hst : wr.cell? ⟨gb, kk, none⟩ = some old) (hfz : wr.frozen? ⟨gb, kk, none⟩ = false) (hi' : i < mid) (hj : j < hi) (hxk : x < k) (hyk : y < k) (hcx : wr.cell? ⟨ga, i, none⟩ = some (.int .i64 (x : Int))) (hcy : wr.cell? ⟨ga, j, none⟩ = some (.int .i64 (y : Int))) (hkx : wr.cell? ⟨bn, x, none⟩ = some (.string kx)) (hky : wr.cell? ⟨bn, y, none⟩ = some (.string ky)) (ht : (Op.bytesLess kx.toList ky.toList || kx.toList == ky.toList) = false)
    (hR : ∀ (nq : Nat) (v60 v61 v62 v63 v64 v65 v66 v67 v68 v69 v70 v71 v72 v73 v74 v75 v76 v77 v78 v79 v80 v81 v82 v83 v84 v85 v86 v87 v88 v89 v90 v91 v92 v93 v94 v95 v96 v97 v98 v99 v100 v101 v102 v103 v104 v105 v106 v107 : Value), R ⟨#[.slice (some ⟨bn, 0, none⟩) k k, c1, c2, c3, .slice (some ⟨ga, 0, none⟩) k k, c5, .slice (some ⟨gb, 0, none⟩) k k, c7, c8, .int .i64 mid, .int .i64 hi, .int .i64 (i), .int .i64 ((j : Int) + 1), .int .i64 ((kk : Int) + 1), c14, c15, c16, c17, c18, c19, c20, c21, c22, c23, c24, c25, c26, c27, c28, c29, c30, c31, c32, c33, c34, c35, c36, c37, c38, c39, c40, c41, c42, c43, c44, c45, c46, c47, c48, c49, c50, c51, c52, c53, c54, c55, c56, c57, c58, c59, v60, v61, v62, v63, v64, v65, v66, v67, v68, v69, v70, v71, v72, v73, v74, v75, v76, v77, v78, v79, v80, v81, v82, v83, v84, v85, v86, v87, v88, v89, v90, v91, v92, v93, v94, v95, v96, v97, v98, v99, v100, v101, v102, v103, v104, v105, v106, v107, c108, c109, c110], []⟩ ((wr.drewN nq).setCell ⟨gb, kk, none⟩ (.int .i64 (y : Int)))) :
    Code.wp Try.prog (((Try.f21.body.map loopsOf).getD []).getD 3 .skip) (Exit.then R Q0) ⟨#[.slice (some ⟨bn, 0, none⟩) k k, c1, c2, c3, .slice (some ⟨ga, 0, none⟩) k k, c5, .slice (some ⟨gb, 0, none⟩) k k, c7, c8, .int .i64 mid, .int .i64 hi, .int .i64 (i), .int .i64 (j), .int .i64 (kk), c14, c15, c16, c17, c18, c19, c20, c21, c22, c23, c24, c25, c26, c27, c28, c29, c30, c31, c32, c33, c34, c35, c36, c37, c38, c39, c40, c41, c42, c43, c44, c45, c46, c47, c48, c49, c50, c51, c52, c53, c54, c55, c56, c57, c58, c59, u60, u61, u62, u63, u64, u65, u66, u67, u68, u69, u70, u71, u72, u73, u74, u75, u76, u77, u78, u79, u80, u81, u82, u83, u84, u85, u86, u87, u88, u89, u90, u91, u92, u93, u94, u95, u96, u97, u98, u99, u100, u101, u102, u103, u104, u105, u106, u107, c108, c109, c110], []⟩ wr := by
  conv => arg 2; whnf
  have ikk : (kk : Int) < (k : Int) := by omega
  have g1 : decide ((hi : Int) ≤ (j : Int)) = false := by simp; omega
  have g1n : decide (hi ≤ j) = false := by simp; omega
  have g2 : decide ((i : Int) < (mid : Int)) = true := by simp; omega
  have g2n : decide (i < mid) = true := by simp; omega
  have ii : (i : Int) < (k : Int) := by omega
  have ij : (j : Int) < (k : Int) := by omega
  have ix : (x : Int) < (k : Int) := by omega
  have iy : (y : Int) < (k : Int) := by omega
  go_wp2_with fail
  go_quiet (fail)
  go_wp2
  exact hR _ _ _ _ _ _ _ _ _ _ _ _ _ _ _ _ _ _ _ _ _ _ _ _ _ _ _ _ _ _ _ _ _ _ _ _ _ _ _ _ _ _ _ _ _ _ _ _ _

set_option maxRecDepth 1000000 in
set_option maxHeartbeats 1000000 in
theorem ml_r (na : Option Addr) (k ga gb mid hi i j kk x y : Nat) (kx ky : ByteArray) (old : Value) (wr : World) (R : Act → World → Prop) (Q0 : Exit → Act → World → Prop) (c1 c2 c3 c5 c7 c8 c14 c15 c16 c17 c18 c19 c20 c21 c22 c23 c24 c25 c26 c27 c28 c29 c30 c31 c32 c33 c34 c35 c36 c37 c38 c39 c40 c41 c42 c43 c44 c45 c46 c47 c48 c49 c50 c51 c52 c53 c54 c55 c56 c57 c58 c59 c108 c109 c110 : Value) (u60 u61 u62 u63 u64 u65 u66 u67 u68 u69 u70 u71 u72 u73 u74 u75 u76 u77 u78 u79 u80 u81 u82 u83 u84 u85 u86 u87 u88 u89 u90 u91 u92 u93 u94 u95 u96 u97 u98 u99 u100 u101 u102 u103 u104 u105 u106 u107 : Value)
    (hk : k ≤ 4096) (h1 : hi ≤ k) (h2 : mid ≤ hi) (h3 : i ≤ mid) (h4 : j ≤ hi) (h5 : kk < hi) (hst : wr.cell? ⟨gb, kk, none⟩ = some old) (hfz : wr.frozen? ⟨gb, kk, none⟩ = false) (hi' : ¬ i < mid) (hj : j < hi) (hcy : wr.cell? ⟨ga, j, none⟩ = some (.int .i64 (y : Int)))
    (hR : ∀ (nq : Nat) (v60 v61 v62 v63 v64 v65 v66 v67 v68 v69 v70 v71 v72 v73 v74 v75 v76 v77 v78 v79 v80 v81 v82 v83 v84 v85 v86 v87 v88 v89 v90 v91 v92 v93 v94 v95 v96 v97 v98 v99 v100 v101 v102 v103 v104 v105 v106 v107 : Value), R ⟨#[.slice na k k, c1, c2, c3, .slice (some ⟨ga, 0, none⟩) k k, c5, .slice (some ⟨gb, 0, none⟩) k k, c7, c8, .int .i64 mid, .int .i64 hi, .int .i64 (i), .int .i64 ((j : Int) + 1), .int .i64 ((kk : Int) + 1), c14, c15, c16, c17, c18, c19, c20, c21, c22, c23, c24, c25, c26, c27, c28, c29, c30, c31, c32, c33, c34, c35, c36, c37, c38, c39, c40, c41, c42, c43, c44, c45, c46, c47, c48, c49, c50, c51, c52, c53, c54, c55, c56, c57, c58, c59, v60, v61, v62, v63, v64, v65, v66, v67, v68, v69, v70, v71, v72, v73, v74, v75, v76, v77, v78, v79, v80, v81, v82, v83, v84, v85, v86, v87, v88, v89, v90, v91, v92, v93, v94, v95, v96, v97, v98, v99, v100, v101, v102, v103, v104, v105, v106, v107, c108, c109, c110], []⟩ ((wr.drewN nq).setCell ⟨gb, kk, none⟩ (.int .i64 (y : Int)))) :
    Code.wp Try.prog (((Try.f21.body.map loopsOf).getD []).getD 3 .skip) (Exit.then R Q0) ⟨#[.slice na k k, c1, c2, c3, .slice (some ⟨ga, 0, none⟩) k k, c5, .slice (some ⟨gb, 0, none⟩) k k, c7, c8, .int .i64 mid, .int .i64 hi, .int .i64 (i), .int .i64 (j), .int .i64 (kk), c14, c15, c16, c17, c18, c19, c20, c21, c22, c23, c24, c25, c26, c27, c28, c29, c30, c31, c32, c33, c34, c35, c36, c37, c38, c39, c40, c41, c42, c43, c44, c45, c46, c47, c48, c49, c50, c51, c52, c53, c54, c55, c56, c57, c58, c59, u60, u61, u62, u63, u64, u65, u66, u67, u68, u69, u70, u71, u72, u73, u74, u75, u76, u77, u78, u79, u80, u81, u82, u83, u84, u85, u86, u87, u88, u89, u90, u91, u92, u93, u94, u95, u96, u97, u98, u99, u100, u101, u102, u103, u104, u105, u106, u107, c108, c109, c110], []⟩ wr := by
  conv => arg 2; whnf
  have ikk : (kk : Int) < (k : Int) := by omega
  have g1 : decide ((hi : Int) ≤ (j : Int)) = false := by simp; omega
  have g1n : decide (hi ≤ j) = false := by simp; omega
  have g2 : decide ((i : Int) < (mid : Int)) = false := by simp; omega
  have g2n : decide (i < mid) = false := by simp; omega
  have gi : mid ≤ i := by omega
  clear hi'
  have ij : (j : Int) < (k : Int) := by omega
  go_wp2_with fail
  go_quiet (fail)
  go_wp2
  exact hR _ _ _ _ _ _ _ _ _ _ _ _ _ _ _ _ _ _ _ _ _ _ _ _ _ _ _ _ _ _ _ _ _ _ _ _ _ _ _ _ _ _ _ _ _ _ _ _ _

set_option maxRecDepth 1000000 in
set_option maxHeartbeats 1000000 in
theorem ml_l (na : Option Addr) (k ga gb mid hi i j kk x y : Nat) (kx ky : ByteArray) (old : Value) (wr : World) (R : Act → World → Prop) (Q0 : Exit → Act → World → Prop) (c1 c2 c3 c5 c7 c8 c14 c15 c16 c17 c18 c19 c20 c21 c22 c23 c24 c25 c26 c27 c28 c29 c30 c31 c32 c33 c34 c35 c36 c37 c38 c39 c40 c41 c42 c43 c44 c45 c46 c47 c48 c49 c50 c51 c52 c53 c54 c55 c56 c57 c58 c59 c108 c109 c110 : Value) (u60 u61 u62 u63 u64 u65 u66 u67 u68 u69 u70 u71 u72 u73 u74 u75 u76 u77 u78 u79 u80 u81 u82 u83 u84 u85 u86 u87 u88 u89 u90 u91 u92 u93 u94 u95 u96 u97 u98 u99 u100 u101 u102 u103 u104 u105 u106 u107 : Value)
    (hk : k ≤ 4096) (h1 : hi ≤ k) (h2 : mid ≤ hi) (h3 : i ≤ mid) (h4 : j ≤ hi) (h5 : kk < hi) (hst : wr.cell? ⟨gb, kk, none⟩ = some old) (hfz : wr.frozen? ⟨gb, kk, none⟩ = false) (hi' : i < mid) (hj : ¬ j < hi) (hcx : wr.cell? ⟨ga, i, none⟩ = some (.int .i64 (x : Int)))
    (hR : ∀ (nq : Nat) (v60 v61 v62 v63 v64 v65 v66 v67 v68 v69 v70 v71 v72 v73 v74 v75 v76 v77 v78 v79 v80 v81 v82 v83 v84 v85 v86 v87 v88 v89 v90 v91 v92 v93 v94 v95 v96 v97 v98 v99 v100 v101 v102 v103 v104 v105 v106 v107 : Value), R ⟨#[.slice na k k, c1, c2, c3, .slice (some ⟨ga, 0, none⟩) k k, c5, .slice (some ⟨gb, 0, none⟩) k k, c7, c8, .int .i64 mid, .int .i64 hi, .int .i64 ((i : Int) + 1), .int .i64 (j), .int .i64 ((kk : Int) + 1), c14, c15, c16, c17, c18, c19, c20, c21, c22, c23, c24, c25, c26, c27, c28, c29, c30, c31, c32, c33, c34, c35, c36, c37, c38, c39, c40, c41, c42, c43, c44, c45, c46, c47, c48, c49, c50, c51, c52, c53, c54, c55, c56, c57, c58, c59, v60, v61, v62, v63, v64, v65, v66, v67, v68, v69, v70, v71, v72, v73, v74, v75, v76, v77, v78, v79, v80, v81, v82, v83, v84, v85, v86, v87, v88, v89, v90, v91, v92, v93, v94, v95, v96, v97, v98, v99, v100, v101, v102, v103, v104, v105, v106, v107, c108, c109, c110], []⟩ ((wr.drewN nq).setCell ⟨gb, kk, none⟩ (.int .i64 (x : Int)))) :
    Code.wp Try.prog (((Try.f21.body.map loopsOf).getD []).getD 3 .skip) (Exit.then R Q0) ⟨#[.slice na k k, c1, c2, c3, .slice (some ⟨ga, 0, none⟩) k k, c5, .slice (some ⟨gb, 0, none⟩) k k, c7, c8, .int .i64 mid, .int .i64 hi, .int .i64 (i), .int .i64 (j), .int .i64 (kk), c14, c15, c16, c17, c18, c19, c20, c21, c22, c23, c24, c25, c26, c27, c28, c29, c30, c31, c32, c33, c34, c35, c36, c37, c38, c39, c40, c41, c42, c43, c44, c45, c46, c47, c48, c49, c50, c51, c52, c53, c54, c55, c56, c57, c58, c59, u60, u61, u62, u63, u64, u65, u66, u67, u68, u69, u70, u71, u72, u73, u74, u75, u76, u77, u78, u79, u80, u81, u82, u83, u84, u85, u86, u87, u88, u89, u90, u91, u92, u93, u94, u95, u96, u97, u98, u99, u100, u101, u102, u103, u104, u105, u106, u107, c108, c109, c110], []⟩ wr := by
  conv => arg 2; whnf
  have ikk : (kk : Int) < (k : Int) := by omega
  have g1 : decide ((hi : Int) ≤ (j : Int)) = true := by simp; omega
  have g1n : decide (hi ≤ j) = true := by simp; omega
  have gj : hi ≤ j := by omega
  clear hj
  have ii : (i : Int) < (k : Int) := by omega
  go_wp2_with fail
  go_quiet (fail)
  go_wp2
  exact hR _ _ _ _ _ _ _ _ _ _ _ _ _ _ _ _ _ _ _ _ _ _ _ _ _ _ _ _ _ _ _ _ _ _ _ _ _ _ _ _ _ _ _ _ _ _ _ _ _

end Go.Proofs.Qxb6605960a
