import Derived.Test.Qxb6605960aPlain
namespace Go.Proofs.Qxb6605960a

/-! ### The plain law of the map: what it holds at a name, and how many names it holds -/

def lastV (xs : List (ByteArray × ByteArray)) (s : ByteArray) : Option ByteArray := xs.foldl (fun r x => if s = x.1 then some x.2 else r) none
theorem lastV_snoc (xs : List (ByteArray × ByteArray)) (x : ByteArray × ByteArray) (s : ByteArray) : lastV (xs ++ [x]) s = if s = x.1 then some x.2 else lastV xs s := by simp [lastV]

theorem mget_mput (L : List (ByteArray × Value)) (s t : ByteArray) (v : Value) : mget (mput L s v) t = if t = s then some v else mget L t := by
  induction L with
  | nil => simp [mput, mget]
  | cons p L ih =>
    obtain ⟨k, u⟩ := p
    by_cases hs : s = k
    · subst hs
      by_cases ht : t = s <;> simp [mput, mget, ht]
    · by_cases ht : t = k
      · subst ht
        simp [mput, hs, mget, Ne.symm hs]
      · simp [mput, hs, mget, ht, ih]

theorem length_mput (L : List (ByteArray × Value)) (s : ByteArray) (v : Value) : (mput L s v).length = if (mget L s).isSome then L.length else L.length + 1 := by
  induction L with
  | nil => simp [mput, mget]
  | cons p L ih =>
    obtain ⟨k, u⟩ := p
    by_cases hs : s = k
    · simp [mput, mget, hs]
    · simp only [mput, hs, if_false, List.length_cons, mget, ih]
      split <;> rfl

theorem snoc_ind {α : Type} {p : List α → Prop} (h0 : p []) (h1 : ∀ xs x, p xs → p (xs ++ [x])) (l : List α) : p l := by
  have : ∀ r : List α, p r.reverse := by
    intro r
    induction r with
    | nil => exact h0
    | cons x r ih => rw [List.reverse_cons]; exact h1 _ _ ih
  have := this l.reverse
  rwa [List.reverse_reverse] at this

theorem mget_mapOf (xs : List (ByteArray × ByteArray)) (s : ByteArray) : mget (mapOf xs) s = (lastV xs s).map (fun t => .iface 9 (.string t)) := by
  induction xs using snoc_ind with
  | h0 => rfl
  | h1 xs x ih =>
    rw [mapOf_snoc, mget_mput, lastV_snoc, ih]
    by_cases h : s = x.1 <;> simp [h]

theorem lastV_isSome (xs : List (ByteArray × ByteArray)) (s : ByteArray) : (lastV xs s).isSome = true ↔ s ∈ xs.map (·.1) := by
  induction xs using snoc_ind with
  | h0 => simp [lastV]
  | h1 xs x ih =>
    rw [lastV_snoc]
    by_cases h : s = x.1
    · simp [h]
    · rw [if_neg h, ih]; simp [h]

/-- The name at place i. -/
def kyOf (ns : List ByteArray) (i : Nat) : ByteArray := ns[i]?.getD ByteArray.empty
theorem kyOf_eq (ns : List ByteArray) (i : Nat) (h : i < ns.length) : kyOf ns i = ns[i] := by simp [kyOf, h]

/-- No name ahead of place i is its name. -/
def isF (ky : Nat → ByteArray) (i : Nat) : Bool := (List.range i).all fun j => decide (ky j ≠ ky i)
theorem isF_iff (ky : Nat → ByteArray) (i : Nat) : isF ky i = true ↔ ∀ j, j < i → ky j ≠ ky i := by
  simp [isF]

/-- The number of first occurrences among the first k names. -/
def firsts (ky : Nat → ByteArray) (k : Nat) : Nat := (List.range k).countP (isF ky)

theorem length_mapOf (ns vs : List ByteArray) (hl : ns.length = vs.length) (k : Nat) (hk : k ≤ ns.length) : (mapOf ((ns.zip vs).take k)).length = firsts (kyOf ns) k := by
  induction k with
  | zero => rfl
  | succ k ih =>
    have hz : (ns.zip vs).take (k + 1) = (ns.zip vs).take k ++ [(ns[k], vs[k])] := by
      rw [List.take_succ_eq_append_getElem (by simp; omega)]; simp
    have hm : (mget (mapOf ((ns.zip vs).take k)) ns[k]).isSome = true ↔ ns[k] ∈ ns.take k := by
      rw [mget_mapOf, Option.isSome_map, lastV_isSome, List.map_take, List.map_fst_zip (by omega)]
    have hf : isF (kyOf ns) k = true ↔ ¬ ns[k] ∈ ns.take k := by
      rw [isF_iff, List.mem_take_iff_getElem]
      constructor
      · rintro h ⟨j, hj, e⟩
        have hj' : j < k := by omega
        exact h j hj' (by rw [kyOf_eq ns j (by omega), kyOf_eq ns k (by omega), e])
      · intro h j hj e
        rw [kyOf_eq ns j (by omega), kyOf_eq ns k (by omega)] at e
        exact h ⟨j, by omega, e⟩
    rw [hz, mapOf_snoc, length_mput, ih (by omega)]
    unfold firsts
    rw [List.range_succ, List.countP_append]
    by_cases h : ns[k] ∈ ns.take k
    · rw [if_pos (hm.2 h)]
      have : isF (kyOf ns) k = false := by
        cases hq : isF (kyOf ns) k
        · rfl
        · exact absurd h (hf.1 hq)
      simp [this]
    · rw [if_neg (fun c => h (hm.1 c))]
      simp [hf.2 h]

/-- The last value at a name: the value at the last place that bears it. -/
theorem lastV_last (ns vs : List ByteArray) (hl : ns.length = vs.length) (i : Nat) (hi : i < ns.length) (j : Nat) (hj : j < ns.length) (he : ns[j] = ns[i]) (hlast : ∀ k, j < k → (h : k < ns.length) → ns[k] ≠ ns[i]) : lastV (ns.zip vs) ns[i] = some (vs[j]'(by omega)) := by
  have key : ∀ m, m ≤ ns.length → j < m → lastV ((ns.zip vs).take m) ns[i] = some (vs[j]'(by omega)) := by
    intro m
    induction m with
    | zero => intro _ h; omega
    | succ m ih =>
      intro hm hjm
      have hz : (ns.zip vs).take (m + 1) = (ns.zip vs).take m ++ [(ns[m], vs[m])] := by
        rw [List.take_succ_eq_append_getElem (by simp; omega)]; simp
      rw [hz, lastV_snoc]
      by_cases hjm' : j = m
      · subst hjm'; rw [if_pos he.symm]
      · have hne := hlast m (by omega) (by omega)
        rw [if_neg (fun e => hne e.symm)]
        exact ih (by omega) (by omega)
  have := key ns.length (Nat.le_refl _) hj
  rwa [List.take_of_length_le (by simp; omega)] at this
end Go.Proofs.Qxb6605960a
