import Derived.Test.Qxb6605960aSortLaw
import Derived.Test.Qxb6605960aMapLaw
import Derived.Test.Qxb6605960aRowAt
import Derived.Test.Qxb6605960aClone
import Derived.WalkLawsBesides
namespace Go.Proofs.Qxb6605960a
open Go.RowKit

theorem Try.info3 : (Try.prog.info? 3).map (fun i => (i.zero, i.size, i.bytes)) = some (some (.int .i64 0), 1, 8) := by kernel_rfl

/-- Places as Go's ints. -/
def nv (A : List Nat) : List Value := A.map fun (x : Nat) => Value.int .i64 (x : Int)
theorem nv_at {A : List Nat} {j x : Nat} (h : A[j]? = some x) : (nv A)[j]? = some (.int .i64 (x : Int)) := by simp [nv, h]
theorem nv_set (A : List Nat) (j x : Nat) : (nv A).set j (.int .i64 (x : Int)) = nv (A.set j x) := by simp [nv, List.map_set]
theorem nv_length (A : List Nat) : (nv A).length = A.length := by simp [nv]

/-- A place as a Go int. -/
def iv (x : Nat) : Value := Value.int .i64 (x : Int)

theorem collect (bs : List Value) (f : Nat → Option Nat) (k : Nat) (hl : bs.length = k) (h : ∀ p, p < k → bs[p]? = (f p).map iv) : ∃ Bs : List Nat, Bs.length = k ∧ bs = nv Bs ∧ ∀ p, p < k → Bs[p]? = f p := by
  refine ⟨(List.range k).map (fun p => (f p).getD 0), by simp, ?_, fun p hp => ?_⟩
  · apply List.ext_getElem?
    intro p
    by_cases hp : p < k
    · have hb := h p hp
      rw [List.getElem?_eq_getElem (by omega)] at hb
      cases hf : f p with
      | none => rw [hf] at hb; cases hb
      | some x =>
        rw [h p hp, hf]
        simp [nv, iv, hp, hf]
    · rw [List.getElem?_eq_none (by omega), List.getElem?_eq_none (by rw [nv_length]; simp; omega)]
  · have hb := h p hp
    rw [List.getElem?_eq_getElem (by omega)] at hb
    cases hf : f p with
    | none => rw [hf] at hb; cases hb
    | some x => simp [hp, hf]

theorem put_tgt {ky : Nat → ByteArray} {A : List Nat} {wd lo m kk x : Nat} {bs : List Value} (hlo : lo = m * (wd * 2)) (h1 : lo ≤ kk) (h2 : kk < lo + 2 * wd) (hM : ((seg A lo wd).merge (seg A (lo + wd) wd) (ile ky))[kk - lo]? = some x)
    (hbs : ∀ p, p < kk → bs[p]? = (tgt ky A wd p).map iv) (hk : kk < bs.length) : ∀ p, p < kk + 1 → (bs.set kk (iv x))[p]? = (tgt ky A wd p).map iv := by
  intro p hp
  by_cases e : p = kk
  · subst e
    rw [List.getElem?_set_self hk]
    subst hlo
    rw [tgt_at ky A wd m p h1 h2, hM]
    rfl
  · rw [List.getElem?_set_ne (by omega)]
    exact hbs p (by omega)

theorem ends {ky : Nat → ByteArray} {n w lo m mid hi i j kk : Nat} {A : List Nat} (hS : Srt ky n w A) (hlo : lo = m * (w * 2)) (hM : MSt ky A n w lo mid hi i j kk) :
    (i < mid → ∃ x, A[i]? = some x ∧ x < lo + w ∧ x < n) ∧ (j < hi → ∃ y, A[j]? = some y ∧ lo + w ≤ y ∧ y < n) := by
  obtain ⟨hl, hmid, hhi, hlo', hi1, hi2, hj1, hj2, hk, _⟩ := hM
  have e0 : lo = (2 * m) * w := by rw [hlo, Nat.mul_comm 2 m, Nat.mul_assoc, Nat.mul_comm 2 w]
  have e1 : lo + w = (2 * m + 1) * w := by rw [e0, Nat.add_mul, Nat.one_mul]
  constructor
  · intro h
    have hx : A[i]? = some (A[i]'(by omega)) := List.getElem?_eq_getElem (by omega)
    have := srt_mem hS (2 * m) i (by omega) (by omega) _ hx
    exact ⟨_, hx, by omega, this.2.2⟩
  · intro h
    have hx : A[j]? = some (A[j]'(by omega)) := List.getElem?_eq_getElem (by omega)
    have := srt_mem hS (2 * m + 1) j (by omega) (by omega) _ hx
    exact ⟨_, hx, by omega, this.2.2⟩

theorem key_at {n₀ : Nat} {w : World} {a : Option Addr} {b len : Nat} {ns : List ByteArray} (h : StrAt n₀ w a b len ns) (x : Nat) (hx : x < len) : a = some ⟨b, 0, none⟩ ∧ w.cell? ⟨b, x, none⟩ = some (.string (kyOf ns x)) := by
  obtain ⟨y, hy, ha, hc⟩ := h.at x hx
  refine ⟨ha, ?_⟩
  rw [hc]
  simp [kyOf, hy]

end Go.Proofs.Qxb6605960a
