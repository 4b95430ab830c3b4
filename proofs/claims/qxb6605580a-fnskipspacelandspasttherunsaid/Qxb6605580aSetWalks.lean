/-
  The walk of (*objectNames).repeats where the names are more than the few.
-/
import Derived.Test.Qxb6605580aRepWalks
import Derived.Lib.Strings
namespace Go.Proofs.Qxb6605580a
open Go.RowKit Go.Maps

theorem law9 : Keyed Try.prog 9 := string_keyed Try.underlying9
theorem zero48 (w : World) : (zeroValue 48).run Try.prog w = .ok (.agg #[]) w := by kernel_rfl
theorem key9 {x : ByteArray} (h : x.size ≤ maxLen) : keyOf Try.prog 9 (.string x) = some (.string x.data.toList) := WideMaps.keyOf_string_mk Try.underlying9 h

/-- Block M is a set of strings: those that are among acc. -/
def SetIs (w : World) (M cnt : Nat) (acc : List ByteArray) : Prop :=
  ∃ D : DataW Unit, w.ownsMap Try.prog 9 unitElem M cnt D ∧ ∀ x : ByteArray, x.size ≤ maxLen → Maps.has D (.string x.data.toList) = memB x acc

theorem lt_of_cell {w : World} {a : Addr} {v : Value} (h : w.cell? a = some v) : a.block < w.heap.size := by
  by_cases hl : a.block < w.heap.size
  · exact hl
  · have e : w.heap[a.block]? = none := by simp; omega
    simp [World.cell?, e] at h

theorem ObjAt.lt {w : World} {O : Nat} {few : List ByteArray} {n : Nat} {rv mv : Value} (h : ObjAt w O few n rv mv) : O < w.heap.size := lt_of_cell h.cn

/-- The object stays while its block does. -/
theorem ObjAt.same {w w' : World} {O : Nat} {few : List ByteArray} {n : Nat} {rv mv : Value} (h : ObjAt w O few n rv mv) (e : w'.heap[O]? = w.heap[O]?) : ObjAt w' O few n rv mv :=
  ⟨h.len, fun j s hj => (World.cell?_of_block (w := w) e).trans (h.few j s hj), (World.cell?_of_block (w := w) e).trans h.cn, (World.cell?_of_block (w := w) e).trans h.cr, (World.cell?_of_block (w := w) e).trans h.cm, fun j => (World.frozen?_of_block (w := w) e).trans (h.fz j)⟩

theorem ObjAt.grown {w w' : World} {O : Nat} {few : List ByteArray} {n : Nat} {rv mv : Value} {row : Option Nat} (h : ObjAt w O few n rv mv) (hg : w.grownBy w' row) (hne : some O ≠ row) : ObjAt w' O few n rv mv :=
  h.same (hg.block O h.lt hne)

theorem ObjAt.setRest {w : World} {O : Nat} {few : List ByteArray} {n : Nat} {rv mv : Value} (h : ObjAt w O few n rv mv) (v : Value) : ObjAt (w.setCell ⟨O, 9, none⟩ v) O few n v mv :=
  ⟨h.len, fun j s hj => by
      have : j < 8 := by have := (List.getElem?_eq_some_iff.1 hj).1; have := h.len; omega
      rw [World.cell?_setCell_other _ _ _ _ (fun e => by injection e with _ e2; omega)]; exact h.few j s hj,
    by rw [World.cell?_setCell_other _ _ _ _ (fun e => by injection e with _ e2; omega)]; exact h.cn, World.cell?_setCell_same _ _ _ h.cr,
    by rw [World.cell?_setCell_other _ _ _ _ (fun e => by injection e with _ e2; omega)]; exact h.cm, fun j => (World.frozen?_setCell _ _ _ _).trans (h.fz j)⟩

theorem ObjAt.setMap {w : World} {O : Nat} {few : List ByteArray} {n : Nat} {rv mv : Value} (h : ObjAt w O few n rv mv) (v : Value) : ObjAt (w.setCell ⟨O, 10, none⟩ v) O few n rv v :=
  ⟨h.len, fun j s hj => by
      have : j < 8 := by have := (List.getElem?_eq_some_iff.1 hj).1; have := h.len; omega
      rw [World.cell?_setCell_other _ _ _ _ (fun e => by injection e with _ e2; omega)]; exact h.few j s hj,
    by rw [World.cell?_setCell_other _ _ _ _ (fun e => by injection e with _ e2; omega)]; exact h.cn,
    by rw [World.cell?_setCell_other _ _ _ _ (fun e => by injection e with _ e2; omega)]; exact h.cr, World.cell?_setCell_same _ _ _ h.cm, fun j => (World.frozen?_setCell _ _ _ _).trans (h.fz j)⟩

theorem ObjAt.setFew {w : World} {O : Nat} {few : List ByteArray} {n : Nat} {rv mv : Value} (h : ObjAt w O few n rv mv) (hn : n < 8) (x : ByteArray) :
    ObjAt ((w.setCell ⟨O, n, none⟩ (.string x)).setCell ⟨O, 8, none⟩ (.int .i64 (n + 1))) O (few.set n x) (n + 1) rv mv := by
  obtain ⟨s0, hs0⟩ : ∃ s, few[n]? = some s := ⟨few[n]'(by have := h.len; omega), by simp⟩
  refine ⟨by simp [h.len], fun j s hj => ?_, ?_, ?_, ?_, fun j => ?_⟩
  · have hj8 : j < 8 := by have := (List.getElem?_eq_some_iff.1 hj).1; have := h.len; simp at *; omega
    rw [World.cell?_setCell_other _ _ _ _ (fun e => by injection e with _ e2; omega)]
    by_cases e : j = n
    · subst e
      rw [List.getElem?_set_self (by have := h.len; omega)] at hj
      cases hj
      exact World.cell?_setCell_same _ _ _ (h.few j s0 hs0)
    · rw [List.getElem?_set_ne (fun h => e h.symm)] at hj
      rw [World.cell?_setCell_other _ _ _ _ (fun e' => by injection e' with _ e2; omega)]
      exact h.few j s hj
  · have : (w.setCell ⟨O, n, none⟩ (.string x)).cell? ⟨O, 8, none⟩ = some (.int .i64 n) := by
      rw [World.cell?_setCell_other _ _ _ _ (fun e => by injection e with _ e2; omega)]; exact h.cn
    rw [World.cell?_setCell_same _ _ _ this]; rfl
  · rw [World.cell?_setCell_other _ _ _ _ (fun e => by injection e with _ e2; omega), World.cell?_setCell_other _ _ _ _ (fun e => by injection e with _ e2; omega)]; exact h.cr
  · rw [World.cell?_setCell_other _ _ _ _ (fun e => by injection e with _ e2; omega), World.cell?_setCell_other _ _ _ _ (fun e => by injection e with _ e2; omega)]; exact h.cm
  · rw [World.frozen?_setCell, World.frozen?_setCell]; exact h.fz j

/-! ### The set -/
theorem toList_eq_iff (x y : ByteArray) : (x.toList == y.toList) = decide (x.data.toList = y.data.toList) := by
  rw [Lib.toList_data, Lib.toList_data, Bool.eq_iff_iff]; simp

theorem has_step {D : DataW Unit} (hD : IsMap D) {acc : List ByteArray} (h : ∀ x : ByteArray, x.size ≤ maxLen → Maps.has D (.string x.data.toList) = memB x acc) (y : ByteArray) (d : DataW Unit) :
    ∀ x : ByteArray, x.size ≤ maxLen → Maps.has (D.put (.string y.data.toList) d) (.string x.data.toList) = memB x (acc ++ [y]) := by
  intro x hx
  rw [memB_append, memB_one, toList_eq_iff, ← h x hx]
  by_cases e : x.data.toList = y.data.toList
  · rw [e, Maps.has_put_same (k := .string y.data.toList) hD trivial d]; simp
  · rw [Maps.has_put_other (fun h => e (by injection h)) d]; simp [e]

theorem SetIs.put {w w' : World} {M cnt : Nat} {acc : List ByteArray} {D : DataW Unit} (hown : w.ownsMap Try.prog 9 unitElem M cnt D) (h : ∀ x : ByteArray, x.size ≤ maxLen → Maps.has D (.string x.data.toList) = memB x acc)
    {y : ByteArray} {d : DataW Unit} (hown' : w'.ownsMap Try.prog 9 unitElem M (cnt + 1) (D.put (.string y.data.toList) d)) : SetIs w' M (cnt + 1) (acc ++ [y]) :=
  ⟨_, hown', has_step hown.isMap h y d⟩

theorem SetIs.made (w : World) : SetIs (w.alloc (.map #[] 0)) w.heap.size 0 [] := ⟨_, World.ownsMap_made _ _ _ _, fun _ _ => rfl⟩

set_option maxHeartbeats 400000 in
theorem rep_set (O M cnt : Nat) (few : List ByteArray) (rv : Value) (x : ByteArray) (w : World) (D : DataW Unit) (hO : ObjAt w O few 8 rv (.map (some M))) (hx : x.size ≤ maxLen)
    (hown : w.ownsMap Try.prog 9 unitElem M cnt D) (hcnt : cnt ≤ 65536) :
    Calls Try.prog 25 #[.pointer (some ⟨O, 0, none⟩), .string x] w fun e w' => e = .returned (.bool (Maps.has D (.string x.data.toList))) ∧
      w'.ownsMap Try.prog 9 (unitElem (H := Unit)) M (cnt + 1) (D.put (.string x.data.toList) (.agg [])) ∧ w.grownBy w' (some M) := by
  have q27 : ∀ (w : World) (r : Option Nat), (binOp .eql 27 (.map r) (.map none)).run Try.prog w = .ok (.bool r.isNone) w := fun w r => run_eql_map_nil w _ _ _ r Try.underlying27
  have cn := hO.cn
  have cm := hO.cm
  have hkey := key9 hx
  have hlt := hO.lt
  clear hO
  go_enter Try.func25, Try.ntmps25
  go_wp2_with (first
    | (at_lookup; refine wpList_lookup_own_unit _ rfl _ _ 27 rfl 9 48 law9 Try.underlying27 (zero48 _) M cnt D rfl hown _ _ rfl hkey ?_)
    | (at_mapUpdate; refine wpList_mapUpdate_own _ rfl _ _ _ 27 rfl 9 48 law9 Try.underlying27 unitElem M cnt D rfl (hown.alloc _) (by unfold maxLen; omega) _ _ _ rfl rfl hkey _ [] unitElem_mk ?_; intro w1 hown1 hg1))
  go_ret
  exact ⟨rfl, hown1, (World.grownBy_alloc _ _ _).trans hg1⟩
end Go.Proofs.Qxb6605580a
