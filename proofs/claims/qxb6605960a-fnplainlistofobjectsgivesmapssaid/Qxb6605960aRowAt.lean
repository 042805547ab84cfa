import Derived.Below
import Derived.Laws.MakeOwn
import Derived.Laws.Tables
import Derived.OwnWalk
import Derived.WalkSmall
namespace Go.Proofs.Qxb6605960a
open Go.RowKit

/-- A whole block of cells. -/
def RowAt (w : World) (g : Nat) (e : TypeId) (xs : List Value) : Prop := w.heap[g]? = some (.cells xs.toArray e (0, 0))

section
variable {w w' : World} {g : Nat} {e : TypeId} {xs : List Value}

theorem RowAt.cell (h : RowAt w g e xs) (j : Nat) (hj : j < xs.length) : w.cell? ⟨g, j, none⟩ = some xs[j] := by
  unfold RowAt at h
  simp [World.cell?, h, hj]
theorem RowAt.frozen (h : RowAt w g e xs) (j : Nat) : w.frozen? ⟨g, j, none⟩ = false := by
  unfold RowAt at h
  simp [World.frozen?, h]
theorem RowAt.lt (h : RowAt w g e xs) : g < w.heap.size := (Array.getElem?_eq_some_iff.1 h).1
theorem RowAt.set (h : RowAt w g e xs) (j : Nat) (v : Value) : RowAt (w.setCell ⟨g, j, none⟩ v) g e (xs.set j v) := by
  have e1 := setCell_eq_setRow w g j xs.toArray e (0, 0) v h
  unfold RowAt
  rw [e1, setRow_heap w g xs.toArray _ e (0, 0) h]
  simp
theorem RowAt.other (h : RowAt w g e xs) {b : Nat} (hb : g ≠ b) (j : Nat) (v : Value) : RowAt (w.setCell ⟨b, j, none⟩ v) g e xs :=
  (Below.heap_setCell w ⟨b, j, none⟩ v g hb).trans h
theorem RowAt.alloc (h : RowAt w g e xs) (o : Obj) : RowAt (w.alloc o) g e xs := (Below.heap_alloc w o g h.lt).trans h
theorem RowAt.drew (h : RowAt w g e xs) : RowAt w.drew g e xs := h
theorem RowAt.drewN (h : RowAt w g e xs) (n : Nat) : RowAt (w.drewN n) g e xs := h
theorem RowAt.below {B : Nat} (h : RowAt w g e xs) (hb : Below B w w') (hg : g < B) : RowAt w' g e xs := (hb.block g hg).trans h
theorem RowAt.kept {row : Option Nat} (h : RowAt w g e xs) (hg : w.grownBy w' row) (hne : some g ≠ row) : RowAt w' g e xs := (hg.block g h.lt hne).trans h

/-- A row that is owned whole. -/
theorem rowAt_of_own {base n : Nat} (h : w.ownsRow base e 1 (.slice (some ⟨g, 0, none⟩) n n) n xs) : RowAt w g e xs ∧ xs.length = n := by
  refine ⟨?_, by simpa using h.1⟩
  rcases h.2 with ⟨h0, _⟩ | ⟨g', cap', cur, hv, hb, hg, _, hm, hsz, ht⟩
  · simp at h0
  · simp only [Value.slice.injEq, Option.some.injEq, Addr.mk.injEq, and_true, true_and] at hv
    obtain ⟨rfl, rfl⟩ := hv
    have e1 : cur.toList = xs := by rw [← ht, List.take_of_length_le (by simp [hsz])]
    unfold RowAt
    rw [hg, ← e1]
end

/-- Strings that a slice value leads to. -/
structure StrAt (n₀ : Nat) (w : World) (a : Option Addr) (b len : Nat) (xs : List ByteArray) : Prop where
  l : xs.length = len
  ha : 0 < len → a = some ⟨b, 0, none⟩
  hb : 0 < len → b < n₀
  c : ∀ j (h : j < xs.length), w.cell? ⟨b, j, none⟩ = some (.string xs[j])

theorem StrAt.below {n₀ : Nat} {w w' : World} {a : Option Addr} {b len : Nat} {xs : List ByteArray} (h : StrAt n₀ w a b len xs) (hb : Below n₀ w w') : StrAt n₀ w' a b len xs :=
  ⟨h.l, h.ha, h.hb, fun j hj => (hb.cell (p := ⟨b, j, none⟩) (h.hb (by have := h.l; omega))).trans (h.c j hj)⟩
theorem StrAt.mono {n₀ n₁ : Nat} {w : World} {a : Option Addr} {b len : Nat} {xs : List ByteArray} (h : StrAt n₀ w a b len xs) (hn : n₀ ≤ n₁) : StrAt n₁ w a b len xs :=
  ⟨h.l, h.ha, fun hp => Nat.lt_of_lt_of_le (h.hb hp) hn, h.c⟩
theorem StrAt.at {n₀ : Nat} {w : World} {a : Option Addr} {b len : Nat} {xs : List ByteArray} (h : StrAt n₀ w a b len xs) (k : Nat) (hk : k < len) : ∃ x, xs[k]? = some x ∧ a = some ⟨b, 0, none⟩ ∧ w.cell? ⟨b, k, none⟩ = some (.string x) :=
  have hl : k < xs.length := by have := h.l; omega
  ⟨xs[k], List.getElem?_eq_getElem hl, h.ha (by omega), h.c k hl⟩
theorem RowAt.cell' {w : World} {g : Nat} {e : TypeId} {xs : List Value} (h : RowAt w g e xs) (j : Nat) (u : Value) (hj : xs[j]? = some u) : w.cell? ⟨g, j, none⟩ = some u := by
  obtain ⟨h1, h2⟩ := List.getElem?_eq_some_iff.1 hj
  rw [← h2]; exact h.cell j h1
theorem RowAt.old {w : World} {g : Nat} {e : TypeId} {xs : List Value} (h : RowAt w g e xs) (j : Nat) (hj : j < xs.length) : ∃ u, w.cell? ⟨g, j, none⟩ = some u := ⟨_, h.cell j hj⟩
theorem hide {p : Prop} (h : p) : Hid p := h
end Go.Proofs.Qxb6605960a
