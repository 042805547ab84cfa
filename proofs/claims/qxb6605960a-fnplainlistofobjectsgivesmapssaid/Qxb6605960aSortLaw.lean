import GoSem.Op.String
import Derived.MapKept
import Derived.Laws.StructEq
/-! The plain law of the bottom-up merge sort of zzSortedIdx: no Go in sight (but for the model's order on byte strings). -/
namespace Go.Proofs.Qxb6605960a

/-! ### The order on byte strings -/
theorem bl_irrefl : ∀ x : List UInt8, Op.bytesLess x x = false
  | [] => rfl
  | a :: x => by simp [Op.bytesLess, bl_irrefl x]

theorem bl_trans : ∀ {x y z : List UInt8}, Op.bytesLess x y = true → Op.bytesLess y z = true → Op.bytesLess x z = true
  | _, _, [], _, h => by simp [Op.bytesLess] at h
  | _, [], _ :: _, h, _ => by simp [Op.bytesLess] at h
  | [], _ :: _, _ :: _, _, _ => by simp [Op.bytesLess]
  | a :: x, b :: y, c :: z, h, k => by
    simp only [Op.bytesLess, Bool.or_eq_true, decide_eq_true_eq, Bool.and_eq_true, beq_iff_eq] at h k ⊢
    rcases h with h | ⟨h, h'⟩
    · rcases k with k | ⟨k, _⟩
      · exact .inl (UInt8.lt_trans h k)
      · exact .inl (k ▸ h)
    · rcases k with k | ⟨k, k'⟩
      · exact .inl (h ▸ k)
      · exact .inr ⟨h.trans k, bl_trans h' k'⟩

theorem bl_tri : ∀ x y : List UInt8, Op.bytesLess x y = true ∨ x = y ∨ Op.bytesLess y x = true
  | [], [] => .inr (.inl rfl)
  | [], _ :: _ => .inl rfl
  | _ :: _, [] => .inr (.inr rfl)
  | a :: x, b :: y => by
    simp only [Op.bytesLess, Bool.or_eq_true, decide_eq_true_eq, Bool.and_eq_true, beq_iff_eq]
    have htri : a < b ∨ a = b ∨ b < a := by
      rcases Nat.lt_trichotomy a.toNat b.toNat with h | h | h
      · exact .inl (UInt8.lt_iff_toNat_lt.2 h)
      · exact .inr (.inl (UInt8.toNat_inj.1 h))
      · exact .inr (.inr (UInt8.lt_iff_toNat_lt.2 h))
    rcases htri with h | h | h
    · exact .inl (.inl h)
    · subst h
      rcases bl_tri x y with h' | h' | h'
      · exact .inl (.inr ⟨rfl, h'⟩)
      · exact .inr (.inl (by rw [h']))
      · exact .inr (.inr (.inr ⟨rfl, h'⟩))
    · exact .inr (.inr (.inl h))

/-- 'a < b' on strings. -/
def klt (a b : ByteArray) : Bool := Op.bytesLess a.toList b.toList

theorem ba_inj {a b : ByteArray} (h : a.toList = b.toList) : a = b := by
  have : (a.toList == b.toList) = true := by simp [h]
  rw [← beq_toListBytes] at this
  exact (MapKept.bytes_beq a b).1 this

theorem klt_irrefl (a : ByteArray) : klt a a = false := bl_irrefl _
theorem klt_trans {a b c : ByteArray} (h : klt a b = true) (k : klt b c = true) : klt a c = true := bl_trans h k
theorem klt_tri (a b : ByteArray) : klt a b = true ∨ a = b ∨ klt b a = true := by
  rcases bl_tri a.toList b.toList with h | h | h
  · exact .inl h
  · exact .inr (.inl (ba_inj h))
  · exact .inr (.inr h)

/-- The order of places: by key, then by place. -/
def ile (ky : Nat → ByteArray) (x y : Nat) : Bool := klt (ky x) (ky y) || (decide (ky x = ky y) && decide (x ≤ y))

theorem ile_trans (ky : Nat → ByteArray) (a b c : Nat) (h : ile ky a b = true) (k : ile ky b c = true) : ile ky a c = true := by
  simp only [ile, Bool.or_eq_true, Bool.and_eq_true, decide_eq_true_eq] at *
  rcases h with h | ⟨h, h'⟩
  · rcases k with k | ⟨k, _⟩
    · exact .inl (klt_trans h k)
    · exact .inl (k ▸ h)
  · rcases k with k | ⟨k, k'⟩
    · exact .inl (h ▸ k)
    · exact .inr ⟨h.trans k, by omega⟩

theorem ile_total (ky : Nat → ByteArray) (a b : Nat) : (ile ky a b || ile ky b a) = true := by
  simp only [ile, Bool.or_eq_true, Bool.and_eq_true, decide_eq_true_eq]
  rcases klt_tri (ky a) (ky b) with h | h | h
  · exact .inl (.inl h)
  · rcases Nat.le_total a b with h' | h'
    · exact .inl (.inr ⟨h, h'⟩)
    · exact .inr (.inr ⟨h.symm, h'⟩)
  · exact .inr (.inl h)

/-- The Go test, where the left place stands ahead of the right one. -/
theorem go_test (ky : Nat → ByteArray) (x y : Nat) (h : x < y) : (Op.bytesLess (ky x).toList (ky y).toList || (ky x).toList == (ky y).toList) = ile ky x y := by
  unfold ile klt
  congr 1
  by_cases e : ky x = ky y
  · simp [e]; omega
  · simp only [e, decide_false, Bool.false_and, beq_eq_false_iff_ne, ne_eq]
    exact fun h => e (ba_inj h)

/-! ### Segments -/
def seg (A : List Nat) (s w : Nat) : List Nat := (A.drop s).take w

theorem length_seg (A : List Nat) (s w : Nat) : (seg A s w).length = min w (A.length - s) := by simp [seg]
theorem seg_getElem? (A : List Nat) (s w q : Nat) (h : q < w) : (seg A s w)[q]? = A[s + q]? := by
  simp [seg, h]
theorem seg_append (A : List Nat) (s u v : Nat) : seg A s u ++ seg A (s + u) v = seg A s (u + v) := by
  unfold seg
  rw [List.take_add, List.drop_drop]
theorem mem_seg_range {n s w x : Nat} (h : x ∈ seg (List.range n) s w) : s ≤ x ∧ x < s + w ∧ x < n := by
  obtain ⟨q, hq⟩ := List.mem_iff_getElem?.1 h
  have hlt : q < (seg (List.range n) s w).length := (List.getElem?_eq_some_iff.1 hq).1
  rw [length_seg] at hlt
  simp at hlt
  rw [seg_getElem? _ _ _ _ (by omega), List.getElem?_range (by omega)] at hq
  cases hq
  omega

/-- Each segment of width w holds its own places, sorted. -/
def Srt (ky : Nat → ByteArray) (n w : Nat) (A : List Nat) : Prop :=
  A.length = n ∧ ∀ m, (seg A (m * w) w).Perm (seg (List.range n) (m * w) w) ∧ (seg A (m * w) w).Pairwise (fun a b => ile ky a b = true)

theorem srt_start (ky : Nat → ByteArray) (n : Nat) : Srt ky n 1 (List.range n) := by
  refine ⟨by simp, fun m => ⟨List.Perm.refl _, ?_⟩⟩
  have hl : (seg (List.range n) (m * 1) 1).length ≤ 1 := by rw [length_seg]; omega
  match hs : seg (List.range n) (m * 1) 1 with
  | [] => simp
  | [x] => simp
  | x :: y :: r => rw [hs] at hl; simp at hl

theorem srt_end {ky : Nat → ByteArray} {n w : Nat} {A : List Nat} (h : Srt ky n w A) (hw : n ≤ w) : A.Perm (List.range n) ∧ A.Pairwise (fun a b => ile ky a b = true) := by
  have h0 := h.2 0
  have e1 : seg A (0 * w) w = A := by simp [seg]; exact List.take_of_length_le (by rw [h.1]; exact hw)
  have e2 : seg (List.range n) (0 * w) w = List.range n := by unfold seg; rw [Nat.zero_mul, List.drop_zero]; exact List.take_of_length_le (by simpa using hw)
  rw [e1, e2] at h0
  exact h0

/-- What stands at place p behind a pass. -/
def tgt (ky : Nat → ByteArray) (A : List Nat) (w p : Nat) : Option Nat :=
  ((seg A (p - p % (2 * w)) w).merge (seg A (p - p % (2 * w) + w) w) (ile ky))[p % (2 * w)]?

theorem srt_pass {ky : Nat → ByteArray} {n w : Nat} {A B : List Nat} (h : Srt ky n w A) (hB : B.length = n) (ht : ∀ p, p < n → B[p]? = tgt ky A w p) : Srt ky n (w * 2) B := by
  refine ⟨hB, fun m => ?_⟩
  have e0 : m * (w * 2) = (2 * m) * w := by rw [Nat.mul_comm 2 m, Nat.mul_assoc, Nat.mul_comm 2 w]
  have e1 : m * (w * 2) + w = (2 * m + 1) * w := by rw [e0, Nat.add_mul, Nat.one_mul]
  have hseg : seg B (m * (w * 2)) (w * 2) = (seg A (m * (w * 2)) w).merge (seg A (m * (w * 2) + w) w) (ile ky) := by
    apply List.ext_getElem?
    intro q
    by_cases hq : q < w * 2 ∧ m * (w * 2) + q < n
    · rw [seg_getElem? _ _ _ _ hq.1, ht _ hq.2]
      unfold tgt
      have em : (m * (w * 2) + q) % (2 * w) = q := by
        rw [Nat.mul_comm 2 w, Nat.mul_comm m, Nat.mul_add_mod]; exact Nat.mod_eq_of_lt hq.1
      rw [em, Nat.add_sub_cancel]
    · rw [List.getElem?_eq_none (by rw [length_seg, hB]; omega), List.getElem?_eq_none (by rw [List.length_merge, length_seg, length_seg, h.1]; omega)]
  have hL := h.2 (2 * m)
  have hR := h.2 (2 * m + 1)
  rw [← e0] at hL
  rw [← e1] at hR
  rw [hseg]
  constructor
  · refine (List.merge_perm_append (le := ile ky)).trans ((hL.1.append hR.1).trans ?_)
    rw [seg_append, show w + w = w * 2 by omega]
  · exact List.pairwise_merge (ile_trans ky) (ile_total ky) _ _ hL.2 hR.2

theorem srt_mem {ky : Nat → ByteArray} {n w : Nat} {A : List Nat} (h : Srt ky n w A) (m p : Nat) (h1 : m * w ≤ p) (h2 : p < m * w + w) (x : Nat) (hx : A[p]? = some x) : m * w ≤ x ∧ x < m * w + w ∧ x < n := by
  have : x ∈ seg A (m * w) w := List.mem_iff_getElem?.2 ⟨p - m * w, by rw [seg_getElem? _ _ _ _ (by omega), show m * w + (p - m * w) = p by omega]; exact hx⟩
  exact mem_seg_range ((h.2 m).1.mem_iff.1 this)

/-! ### The merge, step by step -/
theorem merge_take_left {le : Nat → Nat → Bool} {L R : List Nat} {x : Nat} (hx : ∀ y, R[0]? = some y → le x y = true) : (x :: L).merge R le = x :: L.merge R le := by
  cases R with
  | nil => simp
  | cons y R => rw [List.cons_merge_cons_pos _ _ _ (hx y rfl)]
theorem merge_take_right {le : Nat → Nat → Bool} {L R : List Nat} {y : Nat} (hx : ∀ x, L[0]? = some x → le x y = false) : L.merge (y :: R) le = y :: L.merge R le := by
  cases L with
  | nil => simp
  | cons x L => rw [List.cons_merge_cons_neg _ _ _ (by rw [hx x rfl]; simp)]

/-- Where the merge of the segments at lo stands: i of the left, j of the right, k of the whole. -/
structure MSt (ky : Nat → ByteArray) (A : List Nat) (n w lo mid hi i j k : Nat) : Prop where
  hl : A.length = n
  hmid : mid = min (lo + w) n
  hhi : hi = min (lo + 2 * w) n
  hlo : lo < n
  hi1 : lo ≤ i
  hi2 : i ≤ mid
  hj1 : mid ≤ j
  hj2 : j ≤ hi
  hk : k + mid = i + j
  rest : ((seg A lo w).merge (seg A (lo + w) w) (ile ky)).drop (k - lo) = ((seg A lo w).drop (i - lo)).merge ((seg A (lo + w) w).drop (j - mid)) (ile ky)

theorem MSt.start (ky : Nat → ByteArray) {A : List Nat} {n w lo mid hi : Nat} (hl : A.length = n) (hmid : mid = min (lo + w) n) (hhi : hi = min (lo + 2 * w) n) (hlo : lo < n) : MSt ky A n w lo mid hi lo mid lo :=
  ⟨hl, hmid, hhi, hlo, Nat.le_refl _, by omega, Nat.le_refl _, by omega, by omega, by simp⟩

theorem MSt.left {ky : Nat → ByteArray} {A : List Nat} {n w lo mid hi i j k x : Nat} (h : MSt ky A n w lo mid hi i j k) (hi' : i < mid) (hx : A[i]? = some x) (ht : j < hi → ∀ y, A[j]? = some y → ile ky x y = true) :
    ((seg A lo w).merge (seg A (lo + w) w) (ile ky))[k - lo]? = some x ∧ MSt ky A n w lo mid hi (i + 1) j (k + 1) := by
  obtain ⟨hl, hmid, hhi, hlo, hi1, hi2, hj1, hj2, hk, rest⟩ := h
  have hL : (seg A lo w).drop (i - lo) = x :: (seg A lo w).drop (i + 1 - lo) := by
    rw [List.drop_eq_getElem_cons (by rw [length_seg]; omega)]
    have e : (seg A lo w)[i - lo]? = some x := by rw [seg_getElem? _ _ _ _ (by omega), show lo + (i - lo) = i by omega]; exact hx
    rw [List.getElem?_eq_getElem (by rw [length_seg]; omega)] at e
    rw [Option.some.inj e, show i - lo + 1 = i + 1 - lo by omega]
  rw [hL, merge_take_left (fun y hy => by
    rw [List.getElem?_drop, Nat.add_zero] at hy
    have hlt := (List.getElem?_eq_some_iff.1 hy).1
    rw [length_seg] at hlt
    rw [seg_getElem? _ _ _ _ (by omega), show lo + w + (j - mid) = j by omega] at hy
    exact ht (by omega) y hy)] at rest
  refine ⟨?_, hl, hmid, hhi, hlo, by omega, by omega, hj1, hj2, by omega, ?_⟩
  · have := congrArg (fun l => l[0]?) rest
    simpa using this
  · have := congrArg (fun l => l.drop 1) rest
    simp only [List.drop_drop, List.drop_succ_cons, List.drop_zero] at this
    rw [show k + 1 - lo = k - lo + 1 by omega]
    exact this

theorem MSt.right {ky : Nat → ByteArray} {A : List Nat} {n w lo mid hi i j k y : Nat} (h : MSt ky A n w lo mid hi i j k) (hj' : j < hi) (hy : A[j]? = some y) (ht : i < mid → ∀ x, A[i]? = some x → ile ky x y = false) :
    ((seg A lo w).merge (seg A (lo + w) w) (ile ky))[k - lo]? = some y ∧ MSt ky A n w lo mid hi i (j + 1) (k + 1) := by
  obtain ⟨hl, hmid, hhi, hlo, hi1, hi2, hj1, hj2, hk, rest⟩ := h
  have hR : (seg A (lo + w) w).drop (j - mid) = y :: (seg A (lo + w) w).drop (j + 1 - mid) := by
    rw [List.drop_eq_getElem_cons (by rw [length_seg]; omega)]
    have e : (seg A (lo + w) w)[j - mid]? = some y := by rw [seg_getElem? _ _ _ _ (by omega), show lo + w + (j - mid) = j by omega]; exact hy
    rw [List.getElem?_eq_getElem (by rw [length_seg]; omega)] at e
    rw [Option.some.inj e, show j - mid + 1 = j + 1 - mid by omega]
  rw [hR, merge_take_right (fun x hx => by
    rw [List.getElem?_drop, Nat.add_zero] at hx
    have hlt := (List.getElem?_eq_some_iff.1 hx).1
    rw [length_seg] at hlt
    rw [seg_getElem? _ _ _ _ (by omega), show lo + (i - lo) = i by omega] at hx
    exact ht (by omega) x hx)] at rest
  refine ⟨?_, hl, hmid, hhi, hlo, hi1, hi2, by omega, by omega, by omega, ?_⟩
  · have := congrArg (fun l => l[0]?) rest
    simpa using this
  · have := congrArg (fun l => l.drop 1) rest
    simp only [List.drop_drop, List.drop_succ_cons, List.drop_zero] at this
    rw [show k + 1 - lo = k - lo + 1 by omega]
    exact this

theorem tgt_at (ky : Nat → ByteArray) (A : List Nat) (w m k : Nat) (h1 : m * (w * 2) ≤ k) (h2 : k < m * (w * 2) + 2 * w) : tgt ky A w k = ((seg A (m * (w * 2)) w).merge (seg A (m * (w * 2) + w) w) (ile ky))[k - m * (w * 2)]? := by
  obtain ⟨q, rfl⟩ := Nat.exists_eq_add_of_le h1
  unfold tgt
  have em : (m * (w * 2) + q) % (2 * w) = q := by
    rw [Nat.mul_comm 2 w, Nat.mul_comm m, Nat.mul_add_mod]; exact Nat.mod_eq_of_lt (by omega)
  rw [em, Nat.add_sub_cancel, Nat.add_sub_cancel_left]
end Go.Proofs.Qxb6605960a
