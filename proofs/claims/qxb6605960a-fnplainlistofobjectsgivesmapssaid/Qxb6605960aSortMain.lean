import Derived.Test.Qxb6605960aMergeLoop
namespace Go.Proofs.Qxb6605960a
open Go.RowKit

set_option maxRecDepth 100000 in
set_option maxHeartbeats 2000000 in
theorem sortedIdx (na : Option Addr) (bn n : Nat) (ns : List ByteArray) (hlen : n ≤ 4096) (w : World) (hN : StrAt w.heap.size w na bn n ns) :
    Calls Try.prog 21 #[.slice na n n] w fun e w' => ∃ (g : Nat) (A : List Nat), e = .returned (.slice (some ⟨g, 0, none⟩) n n) ∧ A.length = n ∧ RowAt w' g 3 (nv A) ∧ A.Perm (List.range n) ∧ A.Pairwise (fun a b => ile (kyOf ns) a b = true) ∧ w.heap.size ≤ g ∧ Below w.heap.size w w' := by
  obtain ⟨i0, hi, hz0, hz1, hz2⟩ := info_parts Try.info3
  have HN := hide hN
  clear hN
  go_enter Try.func21, Try.ntmps21
  go_wp2_with (at_make; refine wpList_make_full _ rfl _ _ 41 rfl w.heap.size 3 i0 (.int .i64 0) 1 Try.underlying41 hi hz0 hz1 _ _ _ _ n rfl rfl rfl rfl (by rw [hz2]; omega) (by unfold maxLen; omega) (Nat.le_refl _) ?_; intro w1 hown hgrow)
  obtain ⟨hR0, hl0⟩ := rowAt_of_own hown
  have hB1 : Below w.heap.size w w1 := (Below.refl _ _).grown hgrow (Nat.le_refl _) (fun k hk => by simp at hk)
  generalize (madeCells (Value.int IntKind.i64 0).cells (n * 1)).toList = xs0 at hR0 hl0
  clear hown hgrow
  go_loopw [20] (fun i wr => ∃ (k : Nat) (xs : List Value), k ≤ n ∧ i = .int .i64 k ∧ xs.length = n ∧ RowAt wr w.heap.size 3 xs ∧ Hid (∀ j, j < k → xs[j]? = some (.int .i64 (j : Int))) ∧ Below w.heap.size w wr) (fun i _ => n - (intOf i).toNat)
  case atStart => exact ⟨0, xs0, Nat.zero_le _, rfl, hl0, hR0, hide (fun j h => by omega), hB1⟩
  case round =>
    obtain ⟨k, xs, hk, rfl, hxl, hR, hxs, hB⟩ := hrel
    by_cases hlt : k < n
    · obtain ⟨old, hst⟩ := hR.old k (by omega)
      have hfz := hR.frozen k
      have HR := hide hR
      have HL := hide hxl
      clear hR hxl
      go_wp2
      go_roundw
      case rel => exact ⟨k + 1, xs.set k (.int .i64 (k : Int)), by omega, by go_num, by simp [HL.out], HR.out.set k _, hide (fun j hj => by
          by_cases hjk : j = k
          · subst hjk
            rw [List.getElem?_set_self (by rw [HL.out]; omega)]
          · rw [List.getElem?_set_ne (by omega)]; exact hxs.out j (by omega)), hB.setCell (p := ⟨w.heap.size, k, none⟩) (Nat.le_refl _) _⟩
      case measure => simp [intOf]; omega
    · obtain rfl : k = n := by omega
      have hR' : RowAt wr w.heap.size 3 (nv (List.range k)) := by
        have : xs = nv (List.range k) := by
          apply List.ext_getElem?
          intro j
          by_cases hj : j < k
          · rw [hxs.out j hj, nv_at (List.getElem?_range hj)]
          · rw [List.getElem?_eq_none (by omega), List.getElem?_eq_none (by rw [nv_length]; simp; omega)]
        rw [← this]; exact hR
      have HR := hide hR'
      clear hR hR' hxl hxs
      go_wp2_with (at_make; refine wpList_make_full _ rfl _ _ 41 rfl wr.heap.size 3 i0 (.int .i64 0) 1 Try.underlying41 hi hz0 hz1 _ _ _ _ k rfl rfl rfl rfl (by rw [hz2]; omega) (by unfold maxLen; omega) (Nat.le_refl _) ?_; intro w2 hown2 hgrow2)
      obtain ⟨hRb, hlb⟩ := rowAt_of_own hown2
      have hRa := HR.out.kept hgrow2 (by simp)
      have hB2 : Below w.heap.size w w2 := hB.grown hgrow2 hB.size (fun k hk => by simp at hk)
      generalize (madeCells (Value.int IntKind.i64 0).cells (k * 1)).toList = bs0 at hRb hlb
      have hlt := HR.out.lt
      have hle := hB.size
      go_loopw [4, 6, 7] (fun av bv i wr => ∃ (ga gb wd : Nat) (A : List Nat) (bs : List Value), av = .slice (some ⟨ga, 0, none⟩) k k ∧ bv = .slice (some ⟨gb, 0, none⟩) k k ∧ i = .int .i64 wd ∧ 1 ≤ wd ∧ wd ≤ 8192 ∧ ga ≠ gb ∧ w.heap.size ≤ ga ∧ w.heap.size ≤ gb ∧
          bs.length = k ∧ RowAt wr ga 3 (nv A) ∧ RowAt wr gb 3 bs ∧ Hid (Srt (kyOf ns) k wd A) ∧ Below w.heap.size w wr) (fun _ _ i _ => k - (intOf i).toNat)
      case atStart => exact ⟨w.heap.size, wr.heap.size, 1, List.range k, bs0, rfl, rfl, rfl, by omega, by omega, by omega, Nat.le_refl _, by omega, hlb, hRa, hRb, hide (srt_start _ _), hB2⟩
      case round =>
        clear hRa hRb hlb hB2 hown2 hgrow2 HR hlt hle hB
        obtain ⟨ga, gb, wd, A, bs, rfl, rfl, rfl, hw1, hw2, hab, hga, hgb, hbl, hRa, hRb, hS, hB⟩ := hrel
        by_cases hlt : wd < k
        · go_wp2_with fail
          go_loopw [8] (fun v wr => ∃ (lo m : Nat) (bs : List Value), v = .int .i64 lo ∧ Hid (lo = m * (wd * 2)) ∧ lo ≤ 12288 ∧ bs.length = k ∧ RowAt wr ga 3 (nv A) ∧ RowAt wr gb 3 bs ∧
              Hid (∀ p, p < lo → p < k → bs[p]? = (tgt (kyOf ns) A wd p).map iv) ∧ Below w.heap.size w wr) (fun v _ => k - (intOf v).toNat)
          case atStart => exact ⟨0, 0, bs, rfl, hide (by simp), by omega, hbl, hRa, hRb, hide (fun p h => by omega), hB⟩
          case round =>
            clear hRa hRb hbl hB bs
            obtain ⟨lo, m, bs, rfl, hlo, hlb, hbl, hRa, hRb, hbs, hB⟩ := hrel
            have hAl : A.length = k := hS.out.1
            have HAl := hide hAl
            clear hAl
            by_cases hlk : lo < k
            · obtain ⟨mid, hmid⟩ : ∃ mid, mid = min (lo + wd) k := ⟨_, rfl⟩
              obtain ⟨hi_, hhi⟩ : ∃ hi_, hi_ = min (lo + 2 * wd) k := ⟨_, rfl⟩
              have HM := hide (MSt.start (kyOf ns) HAl.out hmid hhi hlk)
              have HMID := hide hmid
              have HHI := hide hhi
              have hx1 : hi_ ≤ k := by omega
              have hx2 : mid ≤ hi_ := by omega
              have hx3 : lo ≤ mid := by omega
              rcases (show (lo + 2 * wd ≤ k) ∨ (lo + wd ≤ k ∧ k < lo + 2 * wd) ∨ k < lo + wd by omega) with c | c | c
              · have e1 : ((lo : Int) + (wd : Int)) = (mid : Int) := by omega
                have e2 : ((lo : Int) + 2 * (wd : Int)) = (hi_ : Int) := by omega
                have E1 := hide e1
                have E2 := hide e2
                clear e1 e2 hmid hhi
                go_wp2_with fail
                simp only [E1.out, E2.out]
                refine merge_loop ns A w.heap.size bn k wd lo m mid hi_ ga gb w.heap.size w na _ _ _ _ _ _ _ _ _ _ _ _ _ _ _ _ _ _ _ _ _ _ _ _ _ _ _ _ _ _ _ _ _ _ _ _ _ _ _ _ _ _ _ _ _ _ _ _ _ _ _ _ _ _ _ _ _ _ _ _ _ _ _ _ _ _ _ _ _ _ _ _ _ _ _ _ _ _ _ _ _ _ _ _ _ _ _ _ _ _ _ _ _ _ _ _ _ _ _ _ _ _ _ _ lo mid lo bs wr hlen HN.out (Nat.le_refl _) hS.out hlo.out hab hgb HM.out hbl hRa hRb (fun p hp => hbs.out p hp (by omega)) hB ?_
                clear hRa hRb hbl hB hbs HM bs
                intro i j bs w' v60 v61 v62 v63 v64 v65 v66 v67 v68 v69 v70 v71 v72 v73 v74 v75 v76 v77 v78 v79 v80 v81 v82 v83 v84 v85 v86 v87 v88 v89 v90 v91 v92 v93 v94 v95 v96 v97 v98 v99 v100 v101 v102 v103 v104 v105 v106 v107 hbl hRa hRb hbs hB
                have HBS := hide hbs
                clear hbs
                go_wp2
                go_roundw
                case rel => exact ⟨lo + 2 * wd, m + 1, bs, by go_num, hide (by rw [hlo.out, Nat.add_mul]; omega), by omega, hbl, hRa, hRb, hide (fun p hp hpk => HBS.out p (by have := HHI.out; omega)), hB⟩
                case measure => simp [intOf]; omega
              · obtain rfl : k = hi_ := by omega
                have e1 : ((lo : Int) + (wd : Int)) = (mid : Int) := by omega
                have E1 := hide e1
                clear e1 hmid hhi
                go_wp2_with fail
                simp only [E1.out]
                refine merge_loop ns A w.heap.size bn k wd lo m mid k ga gb w.heap.size w na _ _ _ _ _ _ _ _ _ _ _ _ _ _ _ _ _ _ _ _ _ _ _ _ _ _ _ _ _ _ _ _ _ _ _ _ _ _ _ _ _ _ _ _ _ _ _ _ _ _ _ _ _ _ _ _ _ _ _ _ _ _ _ _ _ _ _ _ _ _ _ _ _ _ _ _ _ _ _ _ _ _ _ _ _ _ _ _ _ _ _ _ _ _ _ _ _ _ _ _ _ _ _ _ lo mid lo bs wr hlen HN.out (Nat.le_refl _) hS.out hlo.out hab hgb HM.out hbl hRa hRb (fun p hp => hbs.out p hp (by omega)) hB ?_
                clear hRa hRb hbl hB hbs HM bs
                intro i j bs w' v60 v61 v62 v63 v64 v65 v66 v67 v68 v69 v70 v71 v72 v73 v74 v75 v76 v77 v78 v79 v80 v81 v82 v83 v84 v85 v86 v87 v88 v89 v90 v91 v92 v93 v94 v95 v96 v97 v98 v99 v100 v101 v102 v103 v104 v105 v106 v107 hbl hRa hRb hbs hB
                have HBS := hide hbs
                clear hbs
                go_wp2
                go_roundw
                case rel => exact ⟨lo + 2 * wd, m + 1, bs, by go_num, hide (by rw [hlo.out, Nat.add_mul]; omega), by omega, hbl, hRa, hRb, hide (fun p hp hpk => HBS.out p (by have := HHI.out; omega)), hB⟩
                case measure => simp [intOf]; omega
              · obtain rfl : k = hi_ := by omega
                obtain rfl : k = mid := by omega
                clear hmid hhi
                go_wp2_with fail
                skip
                refine merge_loop ns A w.heap.size bn k wd lo m k k ga gb w.heap.size w na _ _ _ _ _ _ _ _ _ _ _ _ _ _ _ _ _ _ _ _ _ _ _ _ _ _ _ _ _ _ _ _ _ _ _ _ _ _ _ _ _ _ _ _ _ _ _ _ _ _ _ _ _ _ _ _ _ _ _ _ _ _ _ _ _ _ _ _ _ _ _ _ _ _ _ _ _ _ _ _ _ _ _ _ _ _ _ _ _ _ _ _ _ _ _ _ _ _ _ _ _ _ _ _ lo k lo bs wr hlen HN.out (Nat.le_refl _) hS.out hlo.out hab hgb HM.out hbl hRa hRb (fun p hp => hbs.out p hp (by omega)) hB ?_
                clear hRa hRb hbl hB hbs HM bs
                intro i j bs w' v60 v61 v62 v63 v64 v65 v66 v67 v68 v69 v70 v71 v72 v73 v74 v75 v76 v77 v78 v79 v80 v81 v82 v83 v84 v85 v86 v87 v88 v89 v90 v91 v92 v93 v94 v95 v96 v97 v98 v99 v100 v101 v102 v103 v104 v105 v106 v107 hbl hRa hRb hbs hB
                have HBS := hide hbs
                clear hbs
                go_wp2
                go_roundw
                case rel => exact ⟨lo + 2 * wd, m + 1, bs, by go_num, hide (by rw [hlo.out, Nat.add_mul]; omega), by omega, hbl, hRa, hRb, hide (fun p hp hpk => HBS.out p (by have := HHI.out; omega)), hB⟩
                case measure => simp [intOf]; omega
            · obtain ⟨Bs, hBs1, hBs2, hBs3⟩ := collect bs (tgt (kyOf ns) A wd) k hbl (fun p hp => hbs.out p (by omega) hp)
              have HS2 := hide (srt_pass hS.out hBs1 hBs3)
              have HB1 := hide hBs1
              subst hBs2
              clear hBs1 hBs3 hbs
              go_wp2
              go_roundw
              case rel => exact ⟨gb, ga, wd * 2, Bs, nv A, rfl, rfl, by go_num, by omega, by omega, hab.symm, hgb, hga, by rw [nv_length]; exact HAl.out, hRb, hRa, HS2, hB⟩
              case measure => simp [intOf]; omega
        · go_wp2
          go_ret
          have he := srt_end hS.out (by omega)
          exact ⟨ga, A, rfl, hS.out.1, hRa, he.1, he.2, hga, hB⟩
end Go.Proofs.Qxb6605960a
