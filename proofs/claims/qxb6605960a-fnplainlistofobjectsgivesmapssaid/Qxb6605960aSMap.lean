import Derived.WideMake
import Derived.MapKept
import Derived.Laws.AppendOwn
import Derived.RangeFuncRecord
import Derived.RangeFuncOwn
namespace Go.Proofs.Qxb6605960a

/-- A map with string keys, as the list of its entries in the order in which they came. -/
def SMap (w : World) (b : Nat) (L : List (ByteArray × Value)) : Prop := ∃ es clock, w.heap[b]? = some (.map es clock) ∧ es.toList.map (fun e => (e.key, e.val)) = L.map (fun p => (Value.string p.1, p.2))

def mput : List (ByteArray × Value) → ByteArray → Value → List (ByteArray × Value)
  | [], s, v => [(s, v)]
  | (k, u) :: L, s, v => if s = k then (k, v) :: L else (k, u) :: mput L s v

def mget : List (ByteArray × Value) → ByteArray → Option Value
  | [], _ => none
  | (k, u) :: L, s => if s = k then some u else mget L s

theorem beq_ba (a b : ByteArray) : (a == b) = decide (a = b) := by
  rw [Bool.eq_iff_iff, MapKept.bytes_beq]; simp

theorem findNow_none {es : List MapEntry} : ∀ {L : List (ByteArray × Value)} {s : ByteArray} (i : Nat), es.map (fun e => (e.key, e.val)) = L.map (fun p => (Value.string p.1, p.2)) → mget L s = none → Instr.findNow .string (.string s) es i = some none := by
  induction es with
  | nil => intro L s i _ _; rfl
  | cons e es ih =>
    intro L s i h hg
    cases L with
    | nil => simp at h
    | cons p L =>
      obtain ⟨k, u⟩ := p
      simp only [List.map_cons, List.cons.injEq, Prod.mk.injEq] at h
      simp only [mget] at hg
      by_cases hs : s = k
      · rw [if_pos hs] at hg; cases hg
      · rw [if_neg hs] at hg
        simp only [Instr.findNow, h.1.1, Instr.sameNow, beq_ba, hs, decide_false]
        exact ih (i + 1) h.2 hg

theorem findNow_some {es : List MapEntry} : ∀ {L : List (ByteArray × Value)} {s : ByteArray} {u : Value} (i : Nat), es.map (fun e => (e.key, e.val)) = L.map (fun p => (Value.string p.1, p.2)) → mget L s = some u →
    ∃ j, Instr.findNow .string (.string s) es i = some (some (i + j, u)) ∧ (es[j]?).map (·.key) = some (.string s) ∧
      ∀ v, (es.modify j fun e => { e with key := .string s, val := v }).map (fun e => (e.key, e.val)) = (mput L s v).map (fun p => (Value.string p.1, p.2)) := by
  induction es with
  | nil =>
    intro L s u i h hg
    cases L with
    | nil => simp [mget] at hg
    | cons p L => simp at h
  | cons e es ih =>
    intro L s u i h hg
    cases L with
    | nil => simp at h
    | cons p L =>
      obtain ⟨k, u'⟩ := p
      simp only [List.map_cons, List.cons.injEq, Prod.mk.injEq] at h
      simp only [mget] at hg
      by_cases hs : s = k
      · rw [if_pos hs] at hg
        subst hs
        cases hg
        refine ⟨0, ?_, by simp [h.1.1], fun v => ?_⟩
        · simp [Instr.findNow, h.1.1, h.1.2, Instr.sameNow, beq_ba]
        · simp [mput, h.2]
      · rw [if_neg hs] at hg
        obtain ⟨j, h1, h2, h3⟩ := ih (i + 1) h.2 hg
        refine ⟨j + 1, ?_, by simpa using h2, fun v => ?_⟩
        · simp only [Instr.findNow, h.1.1, Instr.sameNow, beq_ba, hs, decide_false]
          rw [h1]; congr 3; omega
        · simp only [List.modify_succ_cons, List.map_cons, h.1.1, h.1.2, mput, if_neg hs, h3 v]

section
variable {P : Program} {w : World} {b : Nat} {L : List (ByteArray × Value)} {t k e : TypeId}

theorem SMap.lookup (h : SMap w b L) (ht : P.underlying t = some (.map k e)) (hk : P.underlying k = some .string) {z : Value} (hz : (zeroValue e).run P w = .ok z w) (s : ByteArray) :
    (Instr.lookup t (.map (some b)) (.string s) true).run P w = .ok (.tuple #[(mget L s).getD z, .bool (mget L s).isSome]) w := by
  obtain ⟨es, clock, hb, hL⟩ := h
  have hc : (Instr.checkKey es.isEmpty 10000 k (.string s)).run P w = .ok () w := MapKept.run_checkKey (k := .string s) hk (by simp [MapKept.IsKey]) es.isEmpty 9999
  cases hg : mget L s with
  | none =>
    have hf := findNow_none (s := s) 0 hL hg
    simp [Instr.lookup, run_underlying ht, MapKept.run_getObj_map hb, hc, MapKept.run_findKey hk hf, hz, Result.andThen]
  | some u =>
    obtain ⟨j, hf, _, _⟩ := findNow_some 0 hL hg
    simp [Instr.lookup, run_underlying ht, MapKept.run_getObj_map hb, hc, MapKept.run_findKey hk hf, Result.andThen]

theorem SMap.len (h : SMap w b L) (ht : P.underlying t = some (.map k e)) (ty : TypeId) : (Builtin.len_ #[t] ty #[.map (some b)]).run P w = .ok (goInt L.length) w := by
  obtain ⟨es, clock, hb, hL⟩ := h
  have hl : es.size = L.length := by have := congrArg List.length hL; simpa using this
  simp [Builtin.len_, run_underlying ht, MapKept.run_getObj_map hb, hl, Result.andThen]

theorem SMap.update (h : SMap w b L) (ht : P.underlying t = some (.map k e)) (hk : P.underlying k = some .string) (s : ByteArray) (v : Value) :
    ∃ o : Obj, (Instr.mapUpdate t (.map (some b)) (.string s) v).run P w = .ok () (w.putObj b o) ∧ SMap (w.putObj b o) b (mput L s v) := by
  obtain ⟨es, clock, hb, hL⟩ := h
  have hlt : b < w.heap.size := (Array.getElem?_eq_some_iff.1 hb).1
  have hc : (Instr.checkKey false 10000 k (.string s)).run P w = .ok () w := MapKept.run_checkKey (k := .string s) hk (by simp [MapKept.IsKey]) false 9999
  cases hg : mget L s with
  | none =>
    have hf := findNow_none (s := s) 0 hL hg
    refine ⟨.map (es.push { key := .string s, val := v, born := clock }) (clock + 1), ?_, _, _, World.putObj_heap_same hlt, ?_⟩
    · simp [Instr.mapUpdate, run_underlying ht, MapKept.run_getObj_map hb, hc, MapKept.run_findKey hk hf, MapKept.run_setObj_map _ hb, Result.andThen, World.putObj]
    · simp only [Array.toList_push, List.map_append, hL, List.map_cons, List.map_nil]
      clear hf hL hb
      induction L with
      | nil => rfl
      | cons p L ih =>
        obtain ⟨k', u⟩ := p
        simp only [mget] at hg
        by_cases hs : s = k'
        · rw [if_pos hs] at hg; cases hg
        · rw [if_neg hs] at hg
          simp only [mput, if_neg hs, List.map_cons, List.cons_append, ih hg]
  | some u =>
    obtain ⟨j, hf, hkey, hmod⟩ := findNow_some 0 hL hg
    have hkt : (Instr.keyThatStays (((es[j]?).map (·.key)).getD (.string s)) (.string s)).run P w = .ok (.string s) w := by
      have : (es[j]?).map (·.key) = some (.string s) := by simpa using hkey
      rw [this]
      simp [Instr.keyThatStays, Instr.sameBits, beq_ba]
    refine ⟨.map (es.modify j fun e => { e with key := .string s, val := v }) clock, ?_, _, _, World.putObj_heap_same hlt, ?_⟩
    · rw [Nat.zero_add] at hf
      simp [Instr.mapUpdate, run_underlying ht, MapKept.run_getObj_map hb, hc, MapKept.run_findKey hk hf, MapKept.run_setObj_map _ hb, Result.andThen, World.putObj, hkt]
    · rw [← hmod v]; simp [Array.toList_modify]

theorem SMap.made (w : World) : SMap (w.alloc (.map #[] 0)) w.heap.size [] := ⟨#[], 0, World.alloc_heap_new w _, rfl⟩

theorem SMap.kept {w' : World} {row : Option Nat} (h : SMap w b L) (hg : w.grownBy w' row) (hne : some b ≠ row) : SMap w' b L := by
  obtain ⟨es, clock, hb, hL⟩ := h
  exact ⟨es, clock, (hg.block b (Array.getElem?_eq_some_iff.1 hb).1 hne).trans hb, hL⟩

theorem SMap.lt (h : SMap w b L) : b < w.heap.size := by
  obtain ⟨es, clock, hb, _⟩ := h
  exact (Array.getElem?_eq_some_iff.1 hb).1
theorem SMap.block (h : SMap w b L) : ∃ o : Obj, w.heap[b]? = some o ∧ o.isCells = false := by
  obtain ⟨es, clock, hb, _⟩ := h
  exact ⟨_, hb, rfl⟩
theorem SMap.same {w' : World} (h : SMap w b L) (hb : w'.heap[b]? = w.heap[b]?) : SMap w' b L := by
  obtain ⟨es, clock, hb', hL⟩ := h
  exact ⟨es, clock, hb.trans hb', hL⟩
end
end Go.Proofs.Qxb6605960a
