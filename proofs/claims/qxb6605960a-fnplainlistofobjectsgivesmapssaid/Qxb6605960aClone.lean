import Derived.Test.Qxb6605960aToggle
import Derived.WalkSmall
import Derived.Laws.CopyOwn
namespace Go.Proofs.Qxb6605960a
open Go.ChangeShapes Go.WideShapes Go.ChangeAt Go.RowKit

theorem Try.info9 : (Try.prog.info? 9).map (fun i => (i.zero, i.size, i.bytes)) = some (some (.string ByteArray.empty), 1, 16) := by kernel_rfl

/-- 'copy' of a whole row into a row of the same length that the call owns. -/
theorem copy_made {P : Program} {w1 : World} {base g : Nat} {T e : TypeId} {len cap : Nat} {xs cs : List Value} {a : Addr} (hu : P.underlying T = some (.slice e)) (hs : (P.info? e).map (·.size) = some 1)
    (hown : w1.ownsRow base e 1 (.slice (some ⟨g, 0, none⟩) len len) len xs) (hl : cs.length = len) (hc : ∀ j v, cs[j]? = some v → w1.cell? (a.add j) = some v) (h1 : ∀ v ∈ cs, v.oneCell' = true) :
    ∃ w2, (∀ ty, (Builtin.copy_ #[T, T] ty #[.slice (some ⟨g, 0, none⟩) len len, .slice (some a) len cap]).run P w1 = .ok (goInt len) w2) ∧
      w2.ownsRow base e 1 (.slice (some ⟨g, 0, none⟩) len len) len cs ∧ Below base w1 w2 := by
  rcases hown.2 with ⟨h0, _⟩ | ⟨g', cap', cur, hv, hb, hg, _, hm, hsz, _⟩
  · simp at h0
  · simp only [Value.slice.injEq, Option.some.injEq, Addr.mk.injEq, and_true, true_and] at hv
    obtain ⟨rfl, rfl⟩ := hv
    have hsz' : cur.size = len := by simpa using hsz
    have hcs : (cur.toList.take 0 ++ cs ++ cur.toList.drop (0 + cs.length)).toArray = cs.toArray := by
      have : cur.toList.drop (0 + cs.length) = [] := List.drop_eq_nil_of_le (by simp; omega)
      rw [this]; simp
    refine ⟨w1.setRow g cs.toArray, fun ty => ?_, ⟨by simpa using hl, .inr ⟨g, len, cs.toArray, rfl, hb, setRow_heap w1 g cur _ e _ hg, Nat.le_refl _, hm, by simpa using hl, ?_⟩⟩, below_setRow (Below.refl _ _) hb _⟩
    · have := run_copy_row P w1 T T ty e g 0 len len a len cap cur e cs hu hs hg (by simp [hl]) hc (by omega) h1
      rw [hcs, hl] at this
      exact this
    · show cs.toArray.toList.take (len * 1) = cs
      rw [List.take_of_length_le (by simp [hl])]

theorem grown_cells {w w1 : World} {cs : List Value} {a : Addr} (hg : w.grownBy w1 none) (hc : ∀ j v, cs[j]? = some v → w.cell? (a.add j) = some v) : ∀ j v, cs[j]? = some v → w1.cell? (a.add j) = some v :=
  fun j v h => hg.cell (hc j v h) (by simp)

theorem Try.size26 : (Try.prog.info? 26).map (·.size) = some 1 := by kernel_rfl
theorem Try.size9 : (Try.prog.info? 9).map (·.size) = some 1 := by kernel_rfl


set_option maxRecDepth 100000 in
theorem cloneU32_nil (w : World) : Calls Try.prog 10 #[.slice none 0 0] w fun e w' => e = .returned (.slice none 0 0) ∧ w' = w := by
  have hq := fun (wx : World) => Lib.run_eql_slice_nil (P := Try.prog) wx 22 26 none 0 0 0 0 Try.underlying22
  go_enter Try.func10, Try.ntmps10
  go_wp2
  go_ret
  exact ⟨rfl, rfl⟩

set_option maxRecDepth 100000 in
set_option maxHeartbeats 400000 in
theorem cloneU32_some (a : Addr) (len cap : Nat) (cs : List Value) (w : World) (hl : cs.length = len) (hc : ∀ j v, cs[j]? = some v → w.cell? (a.add j) = some v) (h1 : ∀ v ∈ cs, v.oneCell' = true) (hn : len ≤ 1048576) :
    Calls Try.prog 10 #[.slice (some a) len cap] w fun e w' => e = .returned (.slice (some ⟨w.heap.size, 0, none⟩) len len) ∧
      w'.ownsRow w.heap.size 26 1 (.slice (some ⟨w.heap.size, 0, none⟩) len len) len cs ∧ Below w.heap.size w w' := by
  obtain ⟨i0, hi, hz0, hz1, hz2⟩ := info_parts Try.info26
  have hq := fun (wx : World) => Lib.run_eql_slice_nil (P := Try.prog) wx 22 26 (some a) len cap 0 0 Try.underlying22
  have HL : Hid (cs.length = len) := hl
  clear hl
  go_enter Try.func10, Try.ntmps10
  go_wp2_with (first | (at_make; refine wpList_make_full _ rfl _ _ 22 rfl w.heap.size 26 i0 (.int .u32 0) 1 Try.underlying22 hi hz0 hz1 _ _ _ _ len rfl rfl rfl rfl (by rw [hz2]; omega) (by unfold maxLen; omega) (Nat.le_refl _) ?_; intro w1 hown hgrow; obtain ⟨w2, hcp, hown2, hb2⟩ := copy_made (cap := cap) Try.underlying22 Try.size26 hown HL.out (grown_cells hgrow hc) h1))
  go_ret
  exact ⟨rfl, hown2, ((Below.refl _ _).grown hgrow (Nat.le_refl _) (fun k hk => by simp at hk)).trans hb2⟩

set_option maxRecDepth 100000 in
theorem cloneStrings_nil (w : World) : Calls Try.prog 18 #[.slice none 0 0] w fun e w' => e = .returned (.slice none 0 0) ∧ w' = w := by
  have hq := fun (wx : World) => Lib.run_eql_slice_nil (P := Try.prog) wx 35 9 none 0 0 0 0 Try.underlying35
  go_enter Try.func18, Try.ntmps18
  go_wp2
  go_ret
  exact ⟨rfl, rfl⟩

set_option maxRecDepth 100000 in
set_option maxHeartbeats 400000 in
theorem cloneStrings_some (a : Addr) (len cap : Nat) (cs : List Value) (w : World) (hl : cs.length = len) (hc : ∀ j v, cs[j]? = some v → w.cell? (a.add j) = some v) (h1 : ∀ v ∈ cs, v.oneCell' = true) (hn : len ≤ 1048576) :
    Calls Try.prog 18 #[.slice (some a) len cap] w fun e w' => e = .returned (.slice (some ⟨w.heap.size, 0, none⟩) len len) ∧
      w'.ownsRow w.heap.size 9 1 (.slice (some ⟨w.heap.size, 0, none⟩) len len) len cs ∧ Below w.heap.size w w' := by
  obtain ⟨i0, hi, hz0, hz1, hz2⟩ := info_parts Try.info9
  have hq := fun (wx : World) => Lib.run_eql_slice_nil (P := Try.prog) wx 35 9 (some a) len cap 0 0 Try.underlying35
  have HL : Hid (cs.length = len) := hl
  clear hl
  go_enter Try.func18, Try.ntmps18
  go_wp2_with (first | (at_make; refine wpList_make_full _ rfl _ _ 35 rfl w.heap.size 9 i0 (.string ByteArray.empty) 1 Try.underlying35 hi hz0 hz1 _ _ _ _ len rfl rfl rfl rfl (by rw [hz2]; omega) (by unfold maxLen; omega) (Nat.le_refl _) ?_; intro w1 hown hgrow; obtain ⟨w2, hcp, hown2, hb2⟩ := copy_made (cap := cap) Try.underlying35 Try.size9 hown HL.out (grown_cells hgrow hc) h1))
  go_ret
  exact ⟨rfl, hown2, ((Below.refl _ _).grown hgrow (Nat.le_refl _) (fun k hk => by simp at hk)).trans hb2⟩
end Go.Proofs.Qxb6605960a
