import Derived.Test.Qxb6605960aAll
import Derived.Test.Qxb6605960aSMap
namespace Go.Proofs.Qxb6605960a
open Go.RowKit Go.Shelf

attribute [local go_sem] Oper.semAt_some

theorem ta_str_list (s : ByteArray) (w : World) : (Instr.typeAssert (.iface 9 (.string s)) 20 56 true).run Try.prog w = .ok (.tuple #[.slice none 0 0, .bool false]) w := by kernel_rfl
theorem ta_str_obj (s : ByteArray) (w : World) : (Instr.typeAssert (.iface 9 (.string s)) 20 60 true).run Try.prog w = .ok (.tuple #[.pointer none, .bool false]) w := by kernel_rfl
theorem ta_str_str (s : ByteArray) (w : World) : (Instr.typeAssert (.iface 9 (.string s)) 20 9 true).run Try.prog w = .ok (.tuple #[.string s, .bool true]) w := by kernel_rfl
theorem ta_obj_list (p : Option Addr) (w : World) : (Instr.typeAssert (.iface 60 (.pointer p)) 20 56 true).run Try.prog w = .ok (.tuple #[.slice none 0 0, .bool false]) w := by kernel_rfl
theorem ta_obj_obj (p : Option Addr) (w : World) : (Instr.typeAssert (.iface 60 (.pointer p)) 20 60 true).run Try.prog w = .ok (.tuple #[.pointer p, .bool true]) w := by kernel_rfl
theorem ta_map_map (m : Option Nat) (w : World) : (Instr.typeAssert (.iface 57 (.map m)) 20 57 true).run Try.prog w = .ok (.tuple #[.map m, .bool true]) w := by kernel_rfl
theorem ta_list_list (a : Option Addr) (l c : Nat) (w : World) : (Instr.typeAssert (.iface 56 (.slice a l c)) 20 56 true).run Try.prog w = .ok (.tuple #[.slice a l c, .bool true]) w := by kernel_rfl
theorem mk_map (n : Int) (w : World) : (Instr.makeMap 57 (some (.int .i64 n))).run Try.prog w = .ok (.map (some w.heap.size)) (w.alloc (.map #[] 0)) := by kernel_rfl

set_option maxRecDepth 100000 in
set_option maxHeartbeats 400000 in
/-- 'Plain' of a string: itself. -/
theorem plain_string_in (F : Fence) (n : Nat) (hF : ∀ f, F.fn f) (hro : F.round = none) (s : ByteArray) (w : World) :
    CallsIn F n Try.prog 27 #[.iface 9 (.string s)] w fun e w' => e = .returned (.iface 9 (.string s)) ∧ w = w' := by
  refine callsIn_of_wp Try.func27 rfl (hF _) ?_ hro
  simp only [Try.ntmps27, List.size_toArray, List.length_cons, List.length_nil, Nat.reduceAdd, Nat.reduceSub, Array.replicate_succ, Array.replicate_zero, List.push_toArray, List.append_toArray, List.nil_append, List.cons_append]
  have t1 := ta_str_list s
  have t2 := ta_str_obj s
  gi_wp2
  go_ret
  exact ⟨rfl, rfl⟩

/-- The map that the pairs make, put one behind another. -/
def mapOf (xs : List (ByteArray × ByteArray)) : List (ByteArray × Value) := xs.foldl (fun L x => mput L x.1 (.iface 9 (.string x.2))) []
theorem mapOf_snoc (pre : List (ByteArray × ByteArray)) (x : ByteArray × ByteArray) : mapOf (pre ++ [x]) = mput (mapOf pre) x.1 (.iface 9 (.string x.2)) := by simp [mapOf]

theorem grown_drew_put (W : World) (b : Nat) (o : Obj) : W.grownBy (W.drew.putObj b o) (some b) :=
  ⟨rfl, rfl, rfl, by simp, fun k _ hk => World.putObj_heap_other (fun e => hk (by rw [e]))⟩

theorem cell_box {W : World} {B : Nat} {v : Value} {t : TypeId} (h : W.heap[B]? = some (.cells #[v] t (0, 0))) : W.cell? ⟨B, 0, none⟩ = some v := by
  simp [World.cell?, h]

theorem kpObj_b {n₀ Bo : Nat} {w : World} (hn : n₀ ≤ w.heap.size) (hB : Bo < w.heap.size) (W : World) (l : Nat) (o o' : Obj) (hl : w.heap.size ≤ l) (h1 : W.heap[l]? = some o) (h2 : o.isCells = false) (h3 : o.isWalk = false) : KpObj n₀ Bo W (W.putObj l o') :=
  ⟨belowK_b hn W l o o' hl h1 h2 h3, World.putObj_heap_other (by omega)⟩

set_option maxRecDepth 100000 in
set_option maxHeartbeats 1000000 in
theorem plain_object_in (F : Fence) (n : Nat) (hF : ∀ f, F.fn f) (hFw : Hid (F = Fence.wide)) (hro : F.round = none) (hn : 4 ≤ n) (bo : Nat) (na : Option Addr) (bn bv len : Nat) (ns vs : List ByteArray) (hlen : len ≤ 4096) (w : World) (hO : ObjAt w.heap.size w bo na bn bv len ns vs) :
    CallsIn F n Try.prog 27 #[.iface 60 (.pointer (some ⟨bo, 0, none⟩))] w fun e w' => e = .returned (.iface 57 (.map (some w.heap.size))) ∧ SMap w' w.heap.size (mapOf (ns.zip vs)) ∧ Below w.heap.size w w' := by
  have h1 : 1 ≤ n := by omega
  refine callsIn_of_wp_marks Try.func27 rfl (hF _) ?_ hro
  simp only [Try.ntmps27, List.size_toArray, List.length_cons, List.length_nil, Nat.reduceAdd, Nat.reduceSub, Array.replicate_succ, Array.replicate_zero, List.push_toArray, List.append_toArray, List.nil_append, List.cons_append]
  have hcn := hO.cn
  have t1 := ta_obj_list (some ⟨bo, 0, none⟩)
  have t2 := ta_obj_obj (some ⟨bo, 0, none⟩)
  have t3 := mk_map (len : Int)
  gi_wp2_with (first | (gi_at_call 28; refine (len_in F _ hF hro bo len _ len w hcn).mono ?_; rintro e w' ⟨rfl, rfl⟩) | (gi_at_call 29; refine (all_in F _ hF hro _ _).mono ?_; rintro e w' ⟨rfl, rfl⟩))
  clear t1 t2 t3
  have hB0 : Below w.heap.size w (((w.alloc (.map #[] 0)).alloc (.cells #[.map (some w.heap.size)] 57)).alloc (.cells #[.pointer (some ⟨bo, 0, none⟩)] 60)) := (((Below.refl _ w).alloc (Nat.le_refl _) _).alloc (by simp) _).alloc (by simp; omega) _
  have hM0 : SMap (((w.alloc (.map #[] 0)).alloc (.cells #[.map (some w.heap.size)] 57)).alloc (.cells #[.pointer (some ⟨bo, 0, none⟩)] 60)) w.heap.size [] := ((SMap.made w).kept (World.grownBy_alloc _ _ none) (by simp)).kept (World.grownBy_alloc _ _ none) (by simp)
  have hb1 : (((w.alloc (.map #[] 0)).alloc (.cells #[.map (some w.heap.size)] 57)).alloc (.cells #[.pointer (some ⟨bo, 0, none⟩)] 60)).cell? ⟨w.heap.size + 1, 0, none⟩ = some (.map (some w.heap.size)) := by
    rw [World.cell?_alloc_past _ _ _ (by simp), World.cell?_alloc_at _ _ _ _ (by simp)]; rfl
  have hb2 : (((w.alloc (.map #[] 0)).alloc (.cells #[.map (some w.heap.size)] 57)).alloc (.cells #[.pointer (some ⟨bo, 0, none⟩)] 60)).cell? ⟨w.heap.size + 1 + 1, 0, none⟩ = some (.pointer (some ⟨bo, 0, none⟩)) := by
    rw [World.cell?_alloc_at _ _ _ _ (by simp)]; rfl
  refine wpIn_rangeFunc_ownG hro h1 (gf := 30) (lb := #[.pointer (some ⟨w.heap.size + 1 + 1, 0, none⟩)]) rfl (hF _) (enters_of Try.func30 (by kernel_rfl) rfl)
    (all_stops F (n - 1) hF hFw hro (by omega) (w.heap.size + 1 + 1) w.heap.size bo na bn bv len ns vs hlen _ (by simp) (by simp; omega) hb2 (hO.below hB0)) KpObj.trans (kpObj_b (by simp; omega) (by simp)) (Below.refl _ _) (fun _ => rfl)
    (fun pre W => (W.cell? ⟨w.heap.size + 1, 0, none⟩ = some (.map (some w.heap.size)) ∧ SMap W w.heap.size (mapOf pre)) ∧ Below w.heap.size w W)
    (fun _ _ _ => False)
    (OwnFrom.and (fun s A B row hs hg hr => ⟨cell_kept hs.1 hg (fun r e => (hr r e).2), hs.2.kept hg (fun e => by have := (hr _ e.symm).1; simp at this; omega)⟩) (ownFrom_below (Nat.le_refl _) (by simp; omega)))
    (fun _ _ _ _ _ hs _ _ => hs)
    ⟨⟨hb1, hM0⟩, hB0⟩
    (fun x => { tmps := #[.iface 60 (.pointer (some ⟨bo, 0, none⟩)), undef, .nilIface, undef, undef, undef, undef, .pointer (some ⟨bo, 0, none⟩), .pointer (some ⟨w.heap.size + 1, 0, none⟩), .string x.1, .iface 9 (.string x.2),
      .iface 60 (.pointer (some ⟨bo, 0, none⟩)), .tuple #[.slice none 0 0, .bool false], .bool false, .slice none 0 0, undef, undef, undef, undef, undef, undef, undef, undef, undef, undef, undef, undef, undef, undef, undef, undef, undef,
      undef, .tuple #[.pointer (some ⟨bo, 0, none⟩), .bool true], .bool true, .pointer (some ⟨bo, 0, none⟩), .pointer (some ⟨bo, 0, none⟩), .int .i64 len, .map (some w.heap.size), .pointer (some ⟨bo, 0, none⟩),
      .func (.func 30) #[] #[.pointer (some ⟨w.heap.size + 1 + 1, 0, none⟩)], .string x.1, .iface 9 (.string x.2), undef, undef, undef, undef, undef, undef, undef], defers := [] }) ?assign ?body ?done ?stop
  case assign =>
    intro l x W K hK
    gi_wp2
    exact hK
  case body =>
    rintro l pre x W ⟨⟨hc, hS⟩, hB⟩ hlt
    obtain ⟨x, y⟩ := x
    have hd : 1 ≤ n - 1 - 1 := by omega
    have hmx : Try.prog.follows .mixedOrders = true := by kernel_rfl
    obtain ⟨o, hup, hS'⟩ := SMap.update (P := Try.prog) (w := W.drew) (b := w.heap.size) (L := mapOf pre) (t := 57) (k := 9) (e := 20) hS Try.underlying57 Try.underlying9 x (.iface 9 (.string y))
    dsimp only
    gi_wp2
    gi_region_with_o (gi_at_call 27; refine (CallsIn.inRound l (plain_string_in F _ hF hro _ _)).mono ?_; rintro e w' ⟨rfl, rfl⟩)
    all_goals gi_wp2
    all_goals exact ⟨KeepsFrom.of_grownBy (grown_drew_put W _ o) (fun j e => by cases e; simp; omega),
      ⟨(Below.refl _ W).grown (grown_drew_put W _ o) hB.size (fun k e => by cases e; exact Nat.le_refl _), World.putObj_heap_other (by omega)⟩,
      ⟨cell_kept hc (grown_drew_put W _ o) (fun r e => by cases e; exact hS.block), by rw [mapOf_snoc]; exact hS'⟩,
      hB.grown (grown_drew_put W _ o) hB.size (fun k e => by cases e; exact Nat.le_refl _)⟩
  case done =>
    rintro D ys W hD rfl ⟨⟨hc, hS⟩, hB⟩ hK
    gi_wp2
    refine ⟨by simp, .inl ⟨_, _, rfl, run_takeDeferred hK, ?_⟩⟩
    exact ⟨_, results_tmp rfl _ _ _, rfl, hS.kept (grownBy_putObj' _ D _) (fun e => by cases e; simp at hD; omega), hB.trans (belowK_b (w := w) (Nat.le_refl _) W D _ _ (by simp at hD; omega) hK rfl rfl)⟩
  case stop =>
    rintro D c pre W _ _ h _
    exact h.elim

theorem plain_string (s : ByteArray) (w : World) : Calls Try.prog 27 #[.iface 9 (.string s)] w fun e w' => e = .returned (.iface 9 (.string s)) ∧ w = w' :=
  callsIn_wide.1 (plain_string_in Fence.wide 4 (fun _ => trivial) rfl s w)

theorem plain_object (bo : Nat) (na : Option Addr) (bn bv len : Nat) (ns vs : List ByteArray) (hlen : len ≤ 4096) (w : World) (hO : ObjAt w.heap.size w bo na bn bv len ns vs) :
    Calls Try.prog 27 #[.iface 60 (.pointer (some ⟨bo, 0, none⟩))] w fun e w' => e = .returned (.iface 57 (.map (some w.heap.size))) ∧ SMap w' w.heap.size (mapOf (ns.zip vs)) ∧ Below w.heap.size w w' :=
  callsIn_wide.1 (plain_object_in Fence.wide 4 (fun _ => trivial) rfl rfl (by omega) bo na bn bv len ns vs hlen w hO)
end Go.Proofs.Qxb6605960a
