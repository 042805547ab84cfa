/-
  Rows.FnPlainListOfObjectsGivesMapsSaid: the frame after the seat's shell for FnAppendToggleDecodesBack (slices that came in; 'Below'), turned to two slices of slices of strings; the walks lie in Qxb6605960aLaw8Early.lean and Qxb6605960aLaw8.lean.
-/
import Derived.Test.Qxb6605960aRows
import Derived.Test.Qxb6605960aLaw8Early
import Derived.Test.Qxb6605960aLaw8
import Derived.WalkKit
import Derived.ProofKit
import Derived.OpenShut
import Derived.ShutString
import Derived.ChangeOld
import Derived.Below
import Derived.SliceStrings
import Derived.Deep.Slices
namespace Go.Proofs.Qxb6605960a.fnPlainListOfObjectsGivesMaps
open Go.ChangeShapes Go.WideShapes Go.ChangeAt Go.RowKit
set_option linter.unusedVariables false

theorem own : ownKnob Try.prog.godebug = none := by kernel_rfl
theorem laidOut : laidOutB Try.prog = true := by kernel_rfl

/-- What is read of a slice of strings that came in. -/
theorem inStr_of {W : World} {a0 : Option Addr} {len0 cap0 : Nat} {ss : List ByteArray} (x : Addr) (ha : a0 = some x) (hl : len0 ≤ cap0) (hz : ss.length = cap0)
    (hcell : ∀ i, i < ss.length → W.cell? (x.add i) = some (.string (ss.getD i ByteArray.empty))) (hws : ∀ s ∈ ss, s.size ≤ maxLen) : ∃ b off zs, InStr W a0 b off len0 cap0 zs := by
  subst ha
  by_cases hp : 0 < len0
  · obtain ⟨b, off, spot⟩ := x
    have hspot : spot = none := by simpa [Addr.add] using World.cell?_spot (hcell 0 (by omega))
    subst hspot
    refine ⟨b, off, ss.take len0, by simp; omega, fun h => (by cases h), fun _ => rfl, fun j hj => ?_, fun s hs => by have := hws s (List.mem_of_mem_take hs); unfold maxLen at this; omega⟩
    have hj' : j < len0 := by simp at hj; omega
    have := hcell j (by omega)
    rw [addr_add] at this
    rw [this]
    simp [List.getD_eq_getElem?_getD, List.getElem?_eq_getElem (show j < ss.length by omega)]
  · exact ⟨0, 0, [], by simp; omega, fun h => (by cases h), fun h => absurd h hp, fun j hj => by simp at hj, fun s hs => by simp at hs⟩

/-- What is read of one row. -/
theorem inRow_of {H : Type} {enc : TypeId × Value → H} {W : World} {base fuel : Nat} {held : Bool} {V : Value} {x : DataW H × List MemPlace} (hf : DataW.trod enc Try.prog W base (fun _ => true) held fuel 35 [V] = some x) :
    ∃ (r : List ByteArray) (ra : Option Addr) (rb ro rc : Nat), V = .slice ra r.length rc ∧ InStr W ra rb ro r.length rc r ∧ r.length ≤ 9223372036854775807 := by
  rcases open_strings Try.underlying35 Try.underlying9 (by kernel_rfl) hf with ⟨hcs, _⟩ | ⟨x, l, c, ss, hcs, _, hl, hm, hz, _, hcell, hws⟩
  · simp at hcs
    subst hcs
    exact ⟨[], none, 0, 0, 0, rfl, ⟨rfl, fun _ => ⟨rfl, rfl⟩, fun h => by simp at h, fun j hj => by simp at hj, fun s hs => by simp at hs⟩, by simp⟩
  · simp at hcs
    subst hcs
    obtain ⟨b, off, zs, hI⟩ := inStr_of (W := W) x rfl hl (by simpa using hz) hcell hws
    have hL : l = zs.length := hI.l.symm
    subst hL
    exact ⟨zs, some x, b, off, c, rfl, hI, by unfold maxLen at hm; omega⟩

/-- What is read of a slice of rows that came in. -/
theorem inRows_of {H : Type} {enc : TypeId × Value → H} {W : World} {base fuel : Nat} {held : Bool} {a : Option Addr} {len cap : Nat} {x : DataW H × List MemPlace} (hf : DataW.trod enc Try.prog W base (fun _ => true) held fuel 45 (Value.slice a len cap).cells.toList = some x) :
    ∃ b off zs, InRows W a b off len cap zs ∧ len ≤ 9223372036854775807 := by
  rcases Go.Deep.open_slice1 Try.underlying45 (by kernel_rfl) hf with ⟨hcs, _⟩ | ⟨ad, l, c, m, n, V, D, Pl, hcs, _, hl, hm, hmm, _, hx⟩
  · simp [Value.cells] at hcs
    obtain ⟨rfl, rfl, rfl⟩ := hcs
    exact ⟨0, 0, [], ⟨rfl, fun _ => ⟨rfl, rfl⟩, fun h => by omega, fun i r h => by simp at h⟩, by omega⟩
  · simp [Value.cells] at hcs
    obtain ⟨rfl, rfl, rfl⟩ := hcs
    have hmax : len ≤ 9223372036854775807 := by unfold maxLen at hm; omega
    have hlm : len ≤ m := by rw [hmm]; simpa using hl
    by_cases hp : 0 < len
    · obtain ⟨b, off, spot⟩ := ad
      have hspot : spot = none := by simpa [Addr.add] using World.cell?_spot (hx 0 (by omega)).1
      subst hspot
      obtain ⟨R, hR⟩ := Go.Deep.choose_lt (α := List ByteArray) (n := len) (p := fun i r => ∃ (ra : Option Addr) (rb ro rc : Nat), W.cell? ⟨b, off + i, none⟩ = some (.slice ra r.length rc) ∧ InStr W ra rb ro r.length rc r ∧ r.length ≤ 9223372036854775807) (fun i hi => by
        obtain ⟨h1, h2⟩ := hx i (by omega)
        obtain ⟨r, ra, rb, ro, rc, hV, hI, hn⟩ := inRow_of h2
        rw [addr_add, hV] at h1
        exact ⟨r, ra, rb, ro, rc, h1, hI, hn⟩)
      refine ⟨b, off, (List.range len).map R, ⟨by simp, fun h => (by cases h), fun _ => rfl, fun i r hr => ?_⟩, hmax⟩
      have hi : i < len := by have := (List.getElem?_eq_some_iff.1 hr).1; simpa using this
      have hri : R i = r := by simpa [List.getElem?_map, List.getElem?_range hi] using hr
      rw [← hri]
      exact hR i hi
    · obtain rfl : len = 0 := by omega
      exact ⟨0, 0, [], ⟨rfl, fun h => (by cases h), fun h => absurd h hp, fun i r h => by simp at h⟩, hmax⟩

set_option maxRecDepth 100000 in
theorem lifted (os : Os) (started : os.Started) (H : Type) (enc : TypeId × Value → H) :
    ReturnsInHanded {} Try.checked os 8 .any (Rows.fnPlainListOfObjectsGivesMapsSpec.pre6 enc Try.prog Try.f8 Rows.fnPlainListOfObjectsGivesMapsRow.domain false) (Rows.fnPlainListOfObjectsGivesMapsSpec.post enc Try.prog Try.f8 false true false false) := by
  refine returnsInHanded_of_change (C := Try.checked) own started (by kernel_rfl) Try.func8
    (ChangeSpec.witness6 (enc := enc) (C := Try.checked) false ⟨#[], #[.slice none 0 0, .slice none 0 0], []⟩ 8 (by kernel_rfl) (by kernel_rfl) (by kernel_rfl) (by kernel_rfl)) ?_
  intro W base args ds gs before hval0 hW hcnd _
  have hval : ∀ (j : Nat) t v, Try.f8.params[j]? = some t → args[j]? = some v → Value.okWide Try.prog W .any base t v := hval0
  have hW' := hW
  obtain ⟨p, q, hA0, hV, rfl, hfz, hnd⟩ := hW
  have hA : DataW.TrodAll enc Try.prog W 0 (fun _ => true) true Try.f8.params.toList args.toList ds p := hA0
  rw [Try.params8] at hA hval
  obtain ⟨v0, vs0, d0, ds0, p0, q0, hargs, rfl, rfl, h0, r0⟩ := trodAll_cons hA
  obtain ⟨v1, vs1, d1, ds1, p1, q1, rfl, rfl, rfl, h1, r1⟩ := trodAll_cons r0
  obtain ⟨rfl, rfl, rfl⟩ := trodAll_nil r1
  obtain rfl : args = #[v0, v1] := by cases args; simp_all
  obtain ⟨rfl, rfl⟩ := trodVars_none hV
  obtain ⟨a0, len0, cap0, rfl⟩ := okWide_slice Try.underlying45 (hval 0 45 v0 rfl rfl)
  obtain ⟨a1, len1, cap1, rfl⟩ := okWide_slice Try.underlying45 (hval 1 45 v1 rfl rfl)
  have k0 := h0
  have k1 := h1
  have lt0 : ∀ x ∈ p0, x.block < W.heap.size := by obtain ⟨m, hm⟩ := k0; exact DataW.trod_lt m _ _ _ hm
  have lt1 : ∀ x ∈ p1, x.block < W.heap.size := by obtain ⟨m, hm⟩ := k1; exact DataW.trod_lt m _ _ _ hm
  obtain ⟨b0, o0, z0, w0, g0⟩ : ∃ b off zs, InRows W a0 b off len0 cap0 zs ∧ len0 ≤ 9223372036854775807 := by
    obtain ⟨fuel, hf⟩ := h0
    exact inRows_of hf
  obtain ⟨b1, o1, z1, w1, g1⟩ : ∃ b off zs, InRows W a1 b off len1 cap1 zs ∧ len1 ≤ 9223372036854775807 := by
    obtain ⟨fuel, hf⟩ := h1
    exact inRows_of hf
  clear hA0 hval0
  have hwalk : Calls Try.prog 8 #[.slice a0 len0 cap0, .slice a1 len1 cap1] W fun e w' => e = .returned (.bool true) ∧ Below W.heap.size W w' := by
    by_cases hl : 4096 < len0 ∨ 4096 < len1
    · exact law8_early a0 a1 b0 o0 len0 cap0 b1 o1 len1 cap1 z0 z1 W w0 w1 g0 g1 hl
    · exact law8_main a0 a1 b0 o0 len0 cap0 b1 o1 len1 cap1 z0 z1 W w0 w1 (by omega) (by omega)
  refine hwalk.mono fun e W' ⟨he, bel⟩ => ?_
  subst he
  exact ⟨_, rfl, _, _, _, [], _, [], hW', trodAll_mk1 (shut_bool Try.underlying4 _), (trodAll_cons_mk (Below.trod laidOut (by kernel_rfl) (of_decide_eq_true (by kernel_rfl)) k0 bel lt0) (trodAll_cons_mk (Below.trod laidOut (by kernel_rfl) (of_decide_eq_true (by kernel_rfl)) k1 bel lt1) trodAll_mk0)), rfl, bel.frame _, fun h => by cases h⟩

theorem over : Rows.fnPlainListOfObjectsGivesMapsRow.holds Try.pinned (OpenSpec.ofChange Rows.fnPlainListOfObjectsGivesMapsSpec) :=
  OpenClaim.holds_of_wide 8 Try.f8 rfl rfl rfl rfl rfl rfl rfl ⟨rfl, rfl, rfl, rfl, rfl⟩ rfl rfl rfl rfl rfl (by kernel_rfl) Try.func8 (by kernel_rfl)
    (of_decide_eq_true (by kernel_rfl)) (by unfold Func.isWrapper; first | (rw [if_pos (by decide +kernel)]; kernel_rfl) | (rw [if_neg (by decide +kernel)]; exact ⟨rfl, rfl⟩))
    (fun os started H enc _ => lifted os started H enc)

/-- THE STATEMENT -/
theorem proved : Rows.FnPlainListOfObjectsGivesMapsSaid := over
#print axioms proved
end Go.Proofs.Qxb6605960a.fnPlainListOfObjectsGivesMaps
