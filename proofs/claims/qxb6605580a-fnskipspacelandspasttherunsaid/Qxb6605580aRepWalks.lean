/-
  The walk of (*objectNames).repeats and of inOrder.
-/
import Derived.Test.Qxb6605580aNamesWalks
import Derived.Maps.OwnSet
namespace Go.Proofs.Qxb6605580a
open Go.RowKit

/-- The object in block O: the few (8 cells), how many they are, the rest, the set. -/
structure ObjAt (w : World) (O : Nat) (few : List ByteArray) (n : Nat) (rv mv : Value) : Prop where
  len : few.length = 8
  few : ∀ j s, few[j]? = some s → w.cell? ⟨O, j, none⟩ = some (.string s)
  cn : w.cell? ⟨O, 8, none⟩ = some (.int .i64 n)
  cr : w.cell? ⟨O, 9, none⟩ = some rv
  cm : w.cell? ⟨O, 10, none⟩ = some mv
  fz : ∀ j, w.frozen? ⟨O, j, none⟩ = false

/-- What a row of strings is as a slice. -/
theorem own_shape {w : World} {base : Nat} {v : Value} {ss : List ByteArray} (h : w.ownsRow base 9 1 v ss.length (ss.map .string)) :
    ∃ ao cap, v = .slice ao ss.length cap ∧ SS w ao ss := by
  obtain ⟨_, ⟨rfl, h0⟩ | ⟨g, cap, cur, rfl, _, hh, _, _, hs, ht⟩⟩ := h
  · exact ⟨none, 0, by rw [h0], fun hp => by omega⟩
  · refine ⟨_, cap, rfl, fun _ => ⟨g, 0, rfl, fun j s hj => ?_⟩⟩
    have hjl : j < ss.length := (List.getElem?_eq_some_iff.1 hj).1
    have e : cur.toList[j]? = some (.string s) := by
      have : (cur.toList.take (ss.length * 1))[j]? = some (.string s) := by rw [ht, List.getElem?_map, hj]; rfl
      rwa [List.getElem?_take_of_lt (by omega)] at this
    simp only [World.cell?, hh, Nat.zero_add]
    simpa using e

/-- x comes behind l. -/
def gtB (x l : ByteArray) : Bool := !Op.bytesLess x.toList l.toList && !(x.toList == l.toList)

/-- What 'inOrder' has seen where it says yes. -/
def InOrd (few rest : List ByteArray) (x : ByteArray) : Prop :=
  (∃ l, rest.getLast? = some l ∧ gtB x l = true) ∨ (rest = [] ∧ Asc few ∧ ∃ l, few[7]? = some l ∧ gtB x l = true)
def InOrdB (few rest : List ByteArray) (x : ByteArray) (e : Ending) : Prop := ∃ b, e = .returned (.bool b) ∧ (b = true → InOrd few rest x)
theorem inOrdB_mk {few rest : List ByteArray} {x : ByteArray} (b : Bool) (h : b = true → InOrd few rest x) : InOrdB few rest x (.returned (.bool b)) := ⟨b, rfl, h⟩

set_option maxHeartbeats 400000 in
theorem inOrder_rest (O : Nat) (few rest : List ByteArray) (b off cap : Nat) (mv : Value) (x : ByteArray) (w : World) (hO : ObjAt w O few 8 (.slice (some ⟨b, off, none⟩) rest.length cap) mv)
    (hc : ∀ j s, rest[j]? = some s → w.cell? ⟨b, off + j, none⟩ = some (.string s)) (hp : 0 < rest.length) (hl : rest.length ≤ 65536) :
    Calls Try.prog 28 #[.pointer (some ⟨O, 0, none⟩), .string x] w fun e w' => InOrdB few rest x e ∧ DrewFrom w w' := by
  have cr := hO.cr
  obtain ⟨s, hs⟩ : ∃ s, rest[rest.length - 1]? = some s := ⟨rest[rest.length - 1], by simp⟩
  have hcs := hc _ s hs
  have HL : Hid (rest.getLast? = some s) := by show _ = _; rw [List.getLast?_eq_getElem?]; exact hs
  have hw1 : IntKind.i64.wrap ((rest.length : Int) - 1) = (rest.length : Int) - 1 := by simp [IntKind.wrap, IntKind.bits, IntKind.signed]; omega
  have h1 : (1 : Int) ≤ (rest.length : Int) := by omega
  have h2 : 1 ≤ rest.length := hp
  clear hs hc hO
  go_enter Try.func28, Try.ntmps28
  go_wp2
  go_quiet (fail)
  go_wp2
  go_ret
  exact ⟨inOrdB_mk _ (fun h => .inl ⟨s, HL.out, h⟩), (DrewFrom.refl _).drewN _⟩

set_option maxHeartbeats 400000 in
theorem inOrder_few (O : Nat) (few : List ByteArray) (ao : Option Addr) (cap : Nat) (mv : Value) (x : ByteArray) (w : World) (hO : ObjAt w O few 8 (.slice ao 0 cap) mv) :
    Calls Try.prog 28 #[.pointer (some ⟨O, 0, none⟩), .string x] w fun e w' => InOrdB few [] x e ∧ DrewFrom w w' := by
  have cr := hO.cr
  have hl := hO.len
  obtain ⟨s, hs⟩ : ∃ s, few[7]? = some s := ⟨few[7], by simp⟩
  have hcs := hO.few _ s hs
  have HS : Hid (few[7]? = some s) := hs
  have hsort : ∀ wx, wx = w → Calls Try.prog 30 #[.slice (some ⟨O, 0, none⟩) 8 8] wx fun e w' => AscB few e ∧ DrewFrom w w' := by
    rintro wx rfl
    have h := sorted_any O 0 8 few wx (by omega) (by omega) (fun j s hj => by rw [Nat.zero_add]; exact hO.few j s hj)
    rwa [hl] at h
  clear hs hO
  go_enter Try.func28, Try.ntmps28
  go_wp2_with (go_at_call 30; refine (hsort _ rfl).mono ?_; rintro e w1 ⟨⟨b, rfl, hb⟩, hd⟩; have hcs1 := (hd.cell ⟨O, 7, none⟩).trans hcs; cases b)
  · go_ret
    exact ⟨inOrdB_mk _ (by simp), hd⟩
  · go_ret
    exact ⟨inOrdB_mk _ (fun h => .inr ⟨rfl, hb trivial, s, HS.out, h⟩), hd⟩

/-- inOrder, whatever the rest. -/
theorem inOrder_any (O : Nat) (few rest : List ByteArray) (rv mv : Value) (x : ByteArray) (w : World) (hO : ObjAt w O few 8 rv mv) (hr : w.ownsRow (O + 1) 9 1 rv rest.length (rest.map .string)) (hl : rest.length ≤ 65536) :
    Calls Try.prog 28 #[.pointer (some ⟨O, 0, none⟩), .string x] w fun e w' => InOrdB few rest x e ∧ DrewFrom w w' := by
  obtain ⟨ao, cap, rfl, hss⟩ := own_shape hr
  by_cases h0 : rest.length = 0
  · have e := List.eq_nil_of_length_eq_zero h0
    subst e
    exact inOrder_few O few ao cap mv x w hO
  · obtain ⟨b, off, rfl, hc⟩ := hss (by omega)
    exact inOrder_rest O few rest b off cap mv x w hO hc (by omega) hl

set_option maxHeartbeats 400000 in
theorem rep_few (O : Nat) (few : List ByteArray) (n : Nat) (rv mv : Value) (x : ByteArray) (w : World) (hO : ObjAt w O few n rv mv) (hn : n < 8) :
    Calls Try.prog 25 #[.pointer (some ⟨O, 0, none⟩), .string x] w fun e w' => e = .returned (.bool (memB x (few.take n))) ∧
      ∃ m, w' = if memB x (few.take n) then w.drewN m else ((w.drewN m).setCell ⟨O, n, none⟩ (.string x)).setCell ⟨O, 8, none⟩ (.int .i64 (n + 1)) := by
  have hlen := hO.len
  have htl : (few.take n).length = n := by simp; omega
  have hcon : ∀ m, Calls Try.prog 27 #[.slice (some ⟨O, 0, none⟩) n 8, .string x] (w.drewN m) fun e w' => e = .returned (.bool (memB x (few.take n))) ∧ w.drewN m = w' := by
    intro m
    have h := contains_any (some ⟨O, 0, none⟩) 8 (few.take n) x (w.drewN m) (fun _ => ⟨O, 0, rfl, fun j s hj => by rw [Nat.zero_add]; exact hO.few j s (by rw [List.getElem?_take] at hj; split at hj <;> simp_all)⟩) (by unfold maxLen; omega)
    rwa [htl] at h
  have cn := hO.cn
  obtain ⟨s, hs⟩ : ∃ s, few[n]? = some s := ⟨few[n], by simp⟩
  have cs := hO.few n s hs
  have fz := hO.fz
  have hb8 : (n : Int) ≤ 8 := by omega
  have hlt8 : (n : Int) < 8 := by omega
  clear hO hs
  cases hm : memB x (few.take n) with
  | true =>
    simp only [hm] at hcon
    clear hm
    go_enter Try.func25, Try.ntmps25
    go_wp2
    go_quiet ((go_at_call 27; exact quiet_of_eq (hcon _)))
    go_wp2
    go_ret
    exact ⟨rfl, _, rfl⟩
  | false =>
    simp only [hm] at hcon
    clear hm
    go_enter Try.func25, Try.ntmps25
    go_wp2
    go_quiet ((go_at_call 27; exact quiet_of_eq (hcon _)))
    go_wp2
    go_region
    have hc8 : ((w.drewN (nq + 1)).setCell ⟨O, n, none⟩ (.string x)).cell? ⟨O, 8, none⟩ = some (.int .i64 n) := by
      rw [World.cell?_setCell_other _ _ _ _ (fun e => by injection e with _ e2; omega)]; exact cn
    go_wp2
    go_ret
    exact ⟨rfl, _, rfl⟩
end Go.Proofs.Qxb6605580a
