import Derived.Test.Qxb6605960aMapLaw
import Derived.Test.Qxb6605960aRowAt
import Derived.Test.Qxb6605960aClone
namespace Go.Proofs.Qxb6605960a
open Go.RowKit

theorem Try.info20 : (Try.prog.info? 20).map (fun i => (i.zero, i.size, i.bytes)) = some (some .nilIface, 1, 16) := by kernel_rfl
theorem Try.info4 : (Try.prog.info? 4).map (fun i => (i.zero, i.size, i.bytes)) = some (some (.bool false), 1, 1) := by kernel_rfl

theorem zero20 (w : World) : (zeroValue 20).run Try.prog w = .ok .nilIface w := by kernel_rfl

set_option maxRecDepth 100000 in
set_option maxHeartbeats 1000000 in
theorem zzObj (na va : Option Addr) (bn bv len : Nat) (ns vs : List ByteArray) (hlen : len ≤ 4096) (w : World) (hN : StrAt w.heap.size w na bn len ns) (hV : StrAt w.heap.size w va bv len vs) :
    Calls Try.prog 19 #[.slice na len len, .slice va len len] w fun e w' => ∃ gg gf, e = .returned (.tuple #[.bool true, .int .i64 (firsts (kyOf ns) len), .slice (some ⟨gg, 0, none⟩) len len, .slice (some ⟨gf, 0, none⟩) len len]) ∧
      (∀ j (h : j < ns.length), w'.cell? ⟨gg, j, none⟩ = some (.string ((lastV (ns.zip vs) ns[j]).getD ByteArray.empty))) ∧ (∀ j, j < len → w'.cell? ⟨gf, j, none⟩ = some (.bool true)) ∧ w.heap.size ≤ gg ∧ w.heap.size ≤ gf ∧ gg < w'.heap.size ∧ gf < w'.heap.size ∧ Below w.heap.size w w' := by
  obtain ⟨i0, hi, hz0, hz1, hz2⟩ := info_parts Try.info20
  have HN := hide hN
  have HV := hide hV
  clear hN hV
  go_enter Try.func19, Try.ntmps19
  go_wp2_with (at_make; refine wpList_make_full _ rfl _ _ 56 rfl w.heap.size 20 i0 .nilIface 1 Try.underlying56 hi hz0 hz1 _ _ _ _ len rfl rfl rfl rfl (by rw [hz2]; omega) (by unfold maxLen; omega) (Nat.le_refl _) ?_; intro w1 hown hgrow)
  obtain ⟨hR0, hl0⟩ := rowAt_of_own hown
  have hB1 : Below w.heap.size w w1 := (Below.refl _ _).grown hgrow (Nat.le_refl _) (fun k hk => by simp at hk)
  generalize (madeCells (Value.nilIface).cells (len * 1)).toList = xs0 at hR0 hl0
  clear hown hgrow
  go_loopw [23] (fun i wr => ∃ (k : Nat) (xs : List Value), k ≤ len ∧ i = .int .i64 k ∧ xs.length = len ∧ RowAt wr w.heap.size 20 xs ∧ Hid (∀ j y, j < k → vs[j]? = some y → xs[j]? = some (.iface 9 (.string y))) ∧ Below w.heap.size w wr) (fun i _ => len - (intOf i).toNat)
  case atStart => exact ⟨0, xs0, Nat.zero_le _, rfl, hl0, hR0, hide (fun j y h => by omega), hB1⟩
  case round =>
    obtain ⟨k, xs, hk, rfl, hxl, hR, hxs, hB⟩ := hrel
    by_cases hlt : k < len
    · obtain ⟨y, hy, hva, hcv⟩ := (HV.out.below hB).at k hlt
      obtain ⟨old, hst⟩ := hR.old k (by omega)
      have hfz := hR.frozen k
      have HY := hide hy
      have HR := hide hR
      have HL := hide hxl
      subst hva
      clear hy hR hxl
      go_wp2
      go_roundw
      case rel => exact ⟨k + 1, xs.set k (.iface 9 (.string y)), by omega, by go_num, by simp [HL.out], HR.out.set k _, hide (fun j z hj hz => by
          by_cases hjk : j = k
          · subst hjk
            rw [HY.out] at hz; cases hz
            rw [List.getElem?_set_self (by rw [HL.out]; omega)]
          · rw [List.getElem?_set_ne (by omega)]; exact hxs.out j z (by omega) hz), hB.setCell (p := ⟨w.heap.size, k, none⟩) (Nat.le_refl _) _⟩
      case measure => simp [intOf]; omega
    · obtain rfl : k = len := by omega
      have tm := ta_map_map
      have HR := hide hR
      have HL := hide hxl
      clear hR hxl
      go_wp2_with fail
      obtain ⟨W1, hW1⟩ : ∃ W1, wr.alloc (.cells #[.slice na k k, .slice (some ⟨w.heap.size, 0, none⟩) k k, .slice none 0 0, .map none] 63) = W1 := ⟨_, rfl⟩
      rw [hW1]
      have hs1 : W1.heap.size = wr.heap.size + 1 := by rw [← hW1]; simp
      have hb1 : Below wr.heap.size wr W1 := by rw [← hW1]; exact (Below.refl _ _).alloc (Nat.le_refl _) _
      have hO : ObjAt W1.heap.size W1 wr.heap.size na bn w.heap.size k ns vs := by
        have hN1 := (HN.out.below hB).below (hb1.mono hB.size)
        have hRl := HR.out.lt
        refine ⟨by omega, fun h => Nat.lt_of_lt_of_le (HN.out.hb h) (by have := hB.size; omega), HN.out.ha, by omega, HN.out.l, HV.out.l, ?_, ?_, hN1.c, fun j hj => ?_⟩
        · rw [← hW1, World.cell?_alloc_at _ _ _ _ rfl]; rfl
        · rw [← hW1, World.cell?_alloc_at _ _ _ _ rfl]; rfl
        · exact (HR.out.below hb1 hRl).cell' j _ (hxs.out j _ (by have := HV.out.l; omega) (List.getElem?_eq_getElem hj))
      refine (plain_object wr.heap.size na bn w.heap.size k ns vs hlen W1 hO).mono ?_
      rintro e W2 ⟨rfl, hS, hb2⟩
      have hB2 : Below w.heap.size w W2 := (hB.trans (hb1.mono hB.size)).trans (hb2.mono (by have := hB.size; omega))
      have hlM : W1.heap.size < W2.heap.size := hS.lt
      clear hO hb2 hb1 hW1 HR HL hxs
      have hMw : w.heap.size ≤ W1.heap.size := by have := hB.size; omega
      clear hs1
      generalize W1.heap.size = M at hS hlM hMw ⊢
      obtain ⟨i9, gi, gz0, gz1, gz2⟩ := info_parts Try.info9
      obtain ⟨i4, fi, fz0, fz1, fz2⟩ := info_parts Try.info4
      go_wp2_with (first | (at_make; refine wpList_make_full _ rfl _ _ 35 rfl W2.heap.size 9 i9 (.string ByteArray.empty) 1 Try.underlying35 gi gz0 gz1 _ _ _ _ k rfl rfl rfl rfl (by rw [gz2]; omega) (by unfold maxLen; omega) (Nat.le_refl _) ?_; intro w3 hown3 hgrow3) | (at_make; refine wpList_make_full _ rfl _ _ 38 rfl w3.heap.size 4 i4 (.bool false) 1 Try.underlying38 fi fz0 fz1 _ _ _ _ k rfl rfl rfl rfl (by rw [fz2]; omega) (by unfold maxLen; omega) (Nat.le_refl _) ?_; intro w4 hown4 hgrow4))
      obtain ⟨hG0, hgl0⟩ := rowAt_of_own hown3
      obtain ⟨hF0, hfl0⟩ := rowAt_of_own hown4
      have hG0' := hG0.kept hgrow4 (by simp)
      have hS' := (hS.kept hgrow3 (by simp)).kept hgrow4 (by simp)
      have hlg := hG0.lt
      have hB3 : Below w.heap.size w w3 := hB2.grown hgrow3 hB2.size (fun k hk => by simp at hk)
      have hB4 : Below w.heap.size w w4 := hB3.grown hgrow4 hB3.size (fun k hk => by simp at hk)
      have hw2 : w.heap.size ≤ W2.heap.size := hB2.size
      have hw3 : w.heap.size ≤ w3.heap.size := hB3.size
      generalize (madeCells (Value.string ByteArray.empty).cells (k * 1)).toList = gs0 at hG0 hG0' hgl0
      generalize (madeCells (Value.bool false).cells (k * 1)).toList = fs0 at hF0 hfl0
      generalize W2.heap.size = gg at hG0 hG0' hlM hlg hw2 ⊢
      generalize w3.heap.size = gf at hF0 hlg hw3 ⊢
      clear hG0 hown3 hown4 hgrow3 hgrow4 hS hB2 hB3
      go_loopw [52] (fun i wr => ∃ (j : Nat) (gs fs : List Value), j ≤ k ∧ i = .int .i64 j ∧ gs.length = k ∧ fs.length = k ∧ RowAt wr gg 9 gs ∧ RowAt wr gf 4 fs ∧ SMap wr M (mapOf (ns.zip vs)) ∧
          Hid (∀ l x, l < j → ns[l]? = some x → gs[l]? = some (.string ((lastV (ns.zip vs) x).getD ByteArray.empty))) ∧ Hid (∀ l, l < j → fs[l]? = some (.bool true)) ∧ Below w.heap.size w wr) (fun i _ => k - (intOf i).toNat)
      case atStart => exact ⟨0, gs0, fs0, Nat.zero_le _, rfl, hgl0, hfl0, hG0', hF0, hS', hide (fun l x h => by omega), hide (fun l h => by omega), hB4⟩
      case round =>
        clear hG0' hF0 hS' hB4 hgl0 hfl0 tm
        obtain ⟨j, gs, fs, hj, rfl, hgl, hfl, hG, hF, hS, hgs, hfs, hB4⟩ := hrel
        by_cases hlt : j < k
        · obtain ⟨x, hx, hna, hcx⟩ := (HN.out.below hB4).at j hlt
          obtain ⟨t, ht⟩ : ∃ t, lastV (ns.zip vs) x = some t := Option.isSome_iff_exists.1 ((lastV_isSome _ _).2 (by
            rw [List.map_fst_zip (by rw [HN.out.l, HV.out.l]; exact Nat.le_refl _)]; exact List.mem_of_getElem? hx))
          have hlk := SMap.lookup (P := Try.prog) (t := 57) (k := 9) (e := 20) hS Try.underlying57 Try.underlying9 (zero20 _) x
          rw [mget_mapOf, ht] at hlk
          simp only [Option.map_some, Option.getD_some, Option.isSome_some] at hlk
          have tss := ta_str_str t
          obtain ⟨og, hog⟩ := hG.old j (by omega)
          have hgz := hG.frozen j
          have hF1 := hF.other (b := gg) (by omega) j (.string t)
          obtain ⟨of, hof⟩ := hF1.old j (by omega)
          have hfz := hF1.frozen j
          have HX := hide hx
          have HT := hide ht
          have HG := hide hG
          have HF := hide hF1
          have HS := hide (hS)
          have HGL := hide hgl
          have HFL := hide hfl
          clear hx ht hG hF hF1 hS hgl hfl
          subst hna
          go_wp2
          go_roundw
          case rel => exact ⟨j + 1, gs.set j (.string t), fs.set j (.bool true), by omega, by go_num, by simp [HGL.out], by simp [HFL.out], (HG.out.set j _).other (by omega) j _, HF.out.set j _,
            HS.out.same ((Below.heap_setCell _ _ _ _ (by show M ≠ gf; omega)).trans (Below.heap_setCell _ _ _ _ (by show M ≠ gg; omega))),
            hide (fun l z hl hz => by
              by_cases hjl : l = j
              · subst hjl
                rw [HX.out] at hz; cases hz
                rw [List.getElem?_set_self (by rw [HGL.out]; omega), HT.out]; rfl
              · rw [List.getElem?_set_ne (by omega)]; exact hgs.out l z (by omega) hz),
            hide (fun l hl => by
              by_cases hjl : l = j
              · subst hjl
                rw [List.getElem?_set_self (by rw [HFL.out]; omega)]
              · rw [List.getElem?_set_ne (by omega)]; exact hfs.out l (by omega)),
            (hB4.setCell (p := ⟨gg, j, none⟩) hw2 _).setCell (p := ⟨gf, j, none⟩) hw3 _⟩
          case measure => simp [intOf]; omega
        · obtain rfl : j = k := by omega
          have hln := SMap.len (P := Try.prog) (t := 57) (k := 9) (e := 20) hS Try.underlying57 3
          have hml := length_mapOf ns vs (by rw [HN.out.l, HV.out.l]) j (by rw [HN.out.l]; exact Nat.le_refl _)
          rw [List.take_of_length_le (by simp [HN.out.l, HV.out.l])] at hml
          rw [hml] at hln
          have HG := hide hG
          have HF := hide hF
          have HNl := hide HN.out.l
          clear hG hF hml hS hgl hfl
          go_wp2
          exact bodyPost_ret (v := .tuple #[.bool true, .int .i64 (firsts (kyOf ns) j), .slice (some ⟨gg, 0, none⟩) j j, .slice (some ⟨gf, 0, none⟩) j j]) (by simp [results, Try.results19, go_sem]) rfl
            ⟨gg, gf, rfl, fun l hl => HG.out.cell' l _ (hgs.out l _ (by rw [HNl.out] at hl; exact hl) (List.getElem?_eq_getElem hl)), fun l hl => HF.out.cell' l _ (hfs.out l hl), hw2, hw3, HG.out.lt, HF.out.lt, hB4⟩
end Go.Proofs.Qxb6605960a
