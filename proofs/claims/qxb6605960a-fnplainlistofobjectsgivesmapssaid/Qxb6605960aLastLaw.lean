import Derived.Test.Qxb6605960aSortLaw
import Derived.Test.Qxb6605960aMapLaw
/-! The plain law of zzLastOf: the groups of equal keys in a sorted order of the places. -/
namespace Go.Proofs.Qxb6605960a

/-- The place that stands p-th in the order. -/
def oAt (O : List Nat) (p : Nat) : Nat := O[p]?.getD 0
theorem oAt_eq {O : List Nat} {p : Nat} (h : p < O.length) : O[p]? = some (oAt O p) := by simp [oAt, h]

structure Ord (ky : Nat → ByteArray) (n : Nat) (O : List Nat) : Prop where
  len : O.length = n
  perm : O.Perm (List.range n)
  srt : O.Pairwise (fun a b => ile ky a b = true)

section
variable {ky : Nat → ByteArray} {n : Nat} {O : List Nat}

theorem Ord.lt (h : Ord ky n O) {p : Nat} (hp : p < n) : oAt O p < n := by
  have hm : oAt O p ∈ O := List.mem_iff_getElem?.2 ⟨p, oAt_eq (by rw [h.len]; exact hp)⟩
  exact List.mem_range.1 (h.perm.mem_iff.1 hm)
theorem Ord.find (h : Ord ky n O) {z : Nat} (hz : z < n) : ∃ p, p < n ∧ oAt O p = z := by
  obtain ⟨p, hp⟩ := List.mem_iff_getElem?.1 (h.perm.mem_iff.2 (List.mem_range.2 hz))
  have hlt := (List.getElem?_eq_some_iff.1 hp).1
  exact ⟨p, by rw [← h.len]; exact hlt, by simp [oAt, hp]⟩
theorem Ord.le (h : Ord ky n O) {p q : Nat} (hpq : p < q) (hq : q < n) : ile ky (oAt O p) (oAt O q) = true := by
  have hp' : p < O.length := by rw [h.len]; omega
  have hq' : q < O.length := by rw [h.len]; omega
  have := List.pairwise_iff_getElem.1 h.srt p q hp' hq' hpq
  simpa [oAt, hp', hq'] using this
theorem Ord.ne (h : Ord ky n O) {p q : Nat} (hpq : p < q) (hq : q < n) : oAt O p ≠ oAt O q := by
  have hn : O.Nodup := h.perm.nodup_iff.2 List.nodup_range
  have hp' : p < O.length := by rw [h.len]; omega
  have hq' : q < O.length := by rw [h.len]; omega
  have := List.pairwise_iff_getElem.1 hn p q hp' hq' hpq
  simpa [oAt, hp', hq'] using this
theorem ile_key {x y : Nat} (h : ile ky x y = true) : klt (ky y) (ky x) = false := by
  cases hk : klt (ky y) (ky x) with
  | false => rfl
  | true =>
    simp only [ile, Bool.or_eq_true, Bool.and_eq_true, decide_eq_true_eq] at h
    rcases h with h | ⟨h, _⟩
    · have := klt_trans h hk; rw [klt_irrefl] at this; cases this
    · rw [h, klt_irrefl] at hk; cases hk
theorem ile_same {x y : Nat} (h : ile ky x y = true) (e : ky x = ky y) : x ≤ y := by
  simp only [ile, Bool.or_eq_true, Bool.and_eq_true, decide_eq_true_eq] at h
  rcases h with h | ⟨_, h⟩
  · rw [e, klt_irrefl] at h; cases h
  · exact h

/-- r stands between two groups. -/
def Bnd (ky : Nat → ByteArray) (n : Nat) (O : List Nat) (r : Nat) : Prop := ∀ p q, p < r → r ≤ q → q < n → ky (oAt O p) ≠ ky (oAt O q)

/-- From s to e: one group, whole. -/
structure Grp (ky : Nat → ByteArray) (n : Nat) (O : List Nat) (s e : Nat) : Prop where
  hs : s < e
  he : e ≤ n
  bnd : Bnd ky n O s
  same : ∀ p, s ≤ p → p < e → ky (oAt O p) = ky (oAt O s)
  stop : e < n → ky (oAt O e) ≠ ky (oAt O s)

theorem Grp.memb (h : Ord ky n O) {s e : Nat} (g : Grp ky n O s e) {q : Nat} (hq : q < n) (hk : ky (oAt O q) = ky (oAt O s)) : s ≤ q ∧ q < e := by
  constructor
  · rcases Nat.lt_or_ge q s with c | c
    · exact absurd hk (g.bnd q s c (Nat.le_refl _) (by have := g.hs; have := g.he; omega))
    · exact c
  · rcases Nat.lt_or_ge q e with c | c
    · exact c
    · exfalso
      have hen : e < n := by omega
      have hne := g.stop hen
      have h1 := ile_key (h.le g.hs hen)
      rcases Nat.lt_or_ge e q with d | d
      · have h2 := ile_key (h.le d hq)
        rw [hk] at h2
        rcases klt_tri (ky (oAt O e)) (ky (oAt O s)) with t | t | t
        · rw [h1] at t; cases t
        · exact hne t
        · rw [h2] at t; cases t
      · have : q = e := by omega
        subst this
        exact hne hk

theorem Grp.next (h : Ord ky n O) {s e : Nat} (g : Grp ky n O s e) : Bnd ky n O e := by
  intro p q hp hq hqn hk
  rcases Nat.lt_or_ge p s with c | c
  · exact g.bnd p q c (by have := g.hs; omega) hqn hk
  · have := (g.memb h hqn (by rw [← hk]; exact g.same p c hp)).2
    omega

/-- y is the last place that bears x's key. -/
def Lst (ky : Nat → ByteArray) (n x y : Nat) : Prop := y < n ∧ ky y = ky x ∧ ∀ z, z < n → ky z = ky x → z ≤ y

theorem Grp.last (h : Ord ky n O) {s e : Nat} (g : Grp ky n O s e) {t : Nat} (h1 : s ≤ t) (h2 : t < e) : Lst ky n (oAt O t) (oAt O (e - 1)) := by
  have hs := g.hs
  have he := g.he
  refine ⟨h.lt (by omega), by rw [g.same t h1 h2, g.same (e - 1) (by omega) (by omega)], fun z hz hk => ?_⟩
  obtain ⟨q, hq, rfl⟩ := h.find hz
  have hm := g.memb h hq (by rw [hk, g.same t h1 h2])
  rcases Nat.lt_or_ge q (e - 1) with c | c
  · exact ile_same (h.le c (by omega)) (by rw [g.same q hm.1 hm.2, g.same (e - 1) (by omega) (by omega)])
  · have : q = e - 1 := by omega
    subst this
    exact Nat.le_refl _

theorem Grp.first (h : Ord ky n O) {s e : Nat} (g : Grp ky n O s e) {p : Nat} (h1 : s ≤ p) (h2 : p < e) : isF ky (oAt O p) = decide (p = s) := by
  have hs := g.hs
  have he := g.he
  rcases Nat.lt_or_ge s p with c | c
  · have hne : ¬ p = s := by omega
    simp only [hne, decide_false]
    cases hf : isF ky (oAt O p) with
    | false => rfl
    | true =>
      exfalso
      have hle := ile_same (h.le c (by omega)) (g.same p h1 h2).symm
      have hne2 := h.ne c (by omega)
      exact (isF_iff ky _).1 hf (oAt O s) (by omega) (g.same p h1 h2).symm
  · have hps : p = s := by omega
    subst hps
    simp only [decide_true]
    refine (isF_iff ky _).2 (fun z hz hk => ?_)
    obtain ⟨q, hq, rfl⟩ := h.find (Nat.lt_trans hz (h.lt (by omega)))
    have hm := g.memb h hq hk
    rcases Nat.lt_or_ge p q with d | d
    · have := ile_same (h.le d hq) hk.symm
      omega
    · have : q = p := by omega
      subst this
      omega

/-- The first occurrences among the first r of the order. -/
def fcount (ky : Nat → ByteArray) (O : List Nat) (r : Nat) : Nat := (O.take r).countP (isF ky)

theorem fcount_succ {r : Nat} (hr : r < O.length) : fcount ky O (r + 1) = fcount ky O r + if isF ky (oAt O r) then 1 else 0 := by
  unfold fcount
  rw [List.take_succ_eq_append_getElem hr, List.countP_append]
  have : oAt O r = O[r] := by simp [oAt, hr]
  rw [this]
  simp

theorem Grp.count (h : Ord ky n O) {s e : Nat} (g : Grp ky n O s e) : fcount ky O e = fcount ky O s + 1 := by
  have key : ∀ m, s + 1 ≤ m → m ≤ e → fcount ky O m = fcount ky O s + 1 := by
    intro m
    induction m with
    | zero => intro h1; omega
    | succ m ih =>
      intro h1 h2
      have hlt : m < O.length := by rw [h.len]; have := g.he; omega
      rw [fcount_succ hlt]
      rcases Nat.lt_or_ge s m with c | c
      · rw [ih (by omega) (by omega), g.first h (by omega) (by omega)]
        have : ¬ m = s := by omega
        simp [this]
      · have : m = s := by omega
        subst this
        rw [g.first h (Nat.le_refl _) (by omega)]
        simp
  exact key e g.hs (Nat.le_refl _)

theorem fcount_all (h : Ord ky n O) : fcount ky O n = firsts ky n := by
  unfold fcount firsts
  rw [List.take_of_length_le (by rw [h.len]; exact Nat.le_refl _)]
  exact h.perm.countP_eq _

theorem bnd_zero : Bnd ky n O 0 := fun p q hp => by omega
end
end Go.Proofs.Qxb6605960a
