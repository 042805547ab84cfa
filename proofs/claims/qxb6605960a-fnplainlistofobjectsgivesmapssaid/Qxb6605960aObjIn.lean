import Derived.Test.Qxb6605960aZzObj
import Derived.Test.Qxb6605960aSortMain
import Derived.Test.Qxb6605960aLastWalk
namespace Go.Proofs.Qxb6605960a
open Go.RowKit
set_option linter.unusedVariables false

/-- A slice of strings that came in. -/
structure InStr (w : World) (a : Option Addr) (b off len cap : Nat) (ss : List ByteArray) : Prop where
  l : ss.length = len
  nil : a = none → len = 0 ∧ cap = 0
  ha : 0 < len → a = some ⟨b, off, none⟩
  c : ∀ j (h : j < ss.length), w.cell? ⟨b, off + j, none⟩ = some (.string ss[j])
  sz : ∀ s ∈ ss, s.size ≤ 9223372036854775807

theorem InStr.at {w : World} {a : Option Addr} {b off len cap : Nat} {ss : List ByteArray} (h : InStr w a b off len cap ss) (k : Nat) (hk : k < len) : ∃ x, ss[k]? = some x ∧ a = some ⟨b, off, none⟩ ∧ w.cell? ⟨b, off + k, none⟩ = some (.string x) ∧ x.size ≤ 9223372036854775807 :=
  have hl : k < ss.length := by have := h.l; omega
  ⟨ss[k], List.getElem?_eq_getElem hl, h.ha (by omega), h.c k hl, h.sz _ (List.getElem_mem hl)⟩

theorem InStr.below {w w' : World} {a : Option Addr} {b off len cap : Nat} {ss : List ByteArray} (h : InStr w a b off len cap ss) (hb : Below w.heap.size w w') : InStr w' a b off len cap ss :=
  ⟨h.l, h.nil, h.ha, fun j hj => (hb.cell (p := ⟨b, off + j, none⟩) (World.block_lt_of_cell? w _ (h.c j hj))).trans (h.c j hj), h.sz⟩

theorem addr_add (b off j : Nat) : (⟨b, off, none⟩ : Addr).add j = ⟨b, off + j, none⟩ := by
  unfold Addr.add; split <;> simp_all

theorem cloneS (a : Option Addr) (b off len cap : Nat) (ss : List ByteArray) (w : World) (h : InStr w a b off len cap ss) (hn : len ≤ 4096) :
    Calls Try.prog 18 #[.slice a len cap] w fun e w' => ∃ na bn, e = .returned (.slice na len len) ∧ StrAt w'.heap.size w' na bn len ss ∧ Below w.heap.size w w' := by
  cases a with
  | none =>
    obtain ⟨rfl, rfl⟩ := h.nil rfl
    refine (cloneStrings_nil w).mono ?_
    rintro e w' ⟨rfl, rfl⟩
    exact ⟨none, 0, rfl, ⟨h.l, fun hp => by omega, fun hp => by omega, fun j hj => by have := h.l; omega⟩, Below.refl _ _⟩
  | some ad =>
    have hc : ∀ j v, (ss.map Value.string)[j]? = some v → w.cell? (ad.add j) = some v := by
      intro j v hv
      have hj : j < ss.length := by have := (List.getElem?_eq_some_iff.1 hv).1; simpa using this
      have ha := h.ha (by have := h.l; omega)
      cases ha
      rw [addr_add, h.c j hj]
      simp [hj] at hv
      rw [hv]
    refine (cloneStrings_some ad len cap (ss.map Value.string) w (by simpa using h.l) hc (fun v hv => by simp at hv; obtain ⟨z, _, rfl⟩ := hv; rfl) (by omega)).mono ?_
    rintro e w' ⟨rfl, hown, hb⟩
    obtain ⟨hR, hl⟩ := rowAt_of_own hown
    exact ⟨_, w.heap.size, rfl, ⟨h.l, fun _ => rfl, fun _ => hR.lt, fun j hj => hR.cell' j _ (by simp [hj])⟩, hb⟩
end Go.Proofs.Qxb6605960a
