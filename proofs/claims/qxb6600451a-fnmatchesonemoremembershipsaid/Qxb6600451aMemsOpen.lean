/-
  A slice of memberships that came in, and a membership that came in, opened into what the walks ask.
-/
import Derived.Test.Qxb6600451aMemWalks
import Derived.ProofKit
import Derived.Deep.Slices
import Derived.Deep.Strs
import Derived.Lib.SmallJoins
namespace Go.Proofs.Qxb6600451a
open Go.ChangeShapes Go.WideShapes Go.RowKit Go.Deep

theorem cells30 : Try.prog.cellsOf 30 = 3 := by kernel_rfl
theorem cells9 : Try.prog.cellsOf 9 = 1 := by kernel_rfl
theorem cells3 : Try.prog.cellsOf 3 = 1 := by kernel_rfl

theorem three {α : Type} {l : List α} (h : l.length = 3) : ∃ a b c, l = [a, b, c] := by
  match l, h with
  | [a, b, c], _ => exact ⟨a, b, c, rfl⟩

theorem mem_of_trod {H : Type} {enc : TypeId × Value → H} {W : World} {base : Nat} {sp : Nat → Bool} {held : Bool} {n : Nat} {cs : List Value} {x : DataW H × List MemPlace} (h : DataW.trod enc Try.prog W base sp held n 30 cs = some x) :
    ∃ m : Mem, cs = [.string m.g, .int .i64 m.k, .string m.s] ∧ OkM m := by
  obtain ⟨y0, y1, y2, k, _, hl, h0, h1, h2⟩ := trod_struct3 Try.underlying30 h
  rw [cells30] at hl
  obtain ⟨v0, v1, v2, rfl⟩ := three hl
  have q0 : (([v0, v1, v2] : List Value).drop 0).take (Try.prog.cellsOf 9) = [v0] := by rw [cells9]; rfl
  have q1 : (([v0, v1, v2] : List Value).drop 1).take (Try.prog.cellsOf 3) = [v1] := by rw [cells3]; rfl
  have q2 : (([v0, v1, v2] : List Value).drop 2).take (Try.prog.cellsOf 9) = [v2] := by rw [cells9]; rfl
  obtain ⟨g, e0, _, o0⟩ := DataW.trod_string Try.underlying9 h0
  obtain ⟨k, e1, _, o1⟩ := DataW.trod_int Try.underlying3 h1
  obtain ⟨s, e2, _, o2⟩ := DataW.trod_string Try.underlying9 h2
  have r0 := q0.symm.trans e0
  have r1 := q1.symm.trans e1
  have r2 := q2.symm.trans e2
  injection r0 with r0
  injection r1 with r1
  injection r2 with r2
  subst r0 r1 r2
  exact ⟨⟨g, k, s⟩, rfl, o0, o1, o2⟩

theorem mems_open {H : Type} {enc : TypeId × Value → H} {W : World} {a0 : Option Addr} {len0 cap0 fuel : Nat} {x : DataW H × List MemPlace} (hf : DataW.trod enc Try.prog W 0 (fun _ => true) true fuel 22 (Value.slice a0 len0 cap0).cells.toList = some x) :
    ∃ ms : List Mem, ms.length = len0 ∧ MS W a0 ms ∧ ms.length ≤ maxLen ∧ ∀ m ∈ ms, OkM m := by
  rcases open_slice Try.underlying22 hf with ⟨hcs, _⟩ | ⟨a, l, c, m, n, D, Pl, hcs, _, hl, hm, hmm, _, hx⟩
  · simp [Value.cells] at hcs
    obtain ⟨rfl, rfl, rfl⟩ := hcs
    exact ⟨[], rfl, fun h => by simp at h, by simp, by simp⟩
  · simp [Value.cells] at hcs
    obtain ⟨rfl, rfl, rfl⟩ := hcs
    simp only [if_true] at hmm
    have each : ∀ i, i < len0 → ∃ q : Mem, OkM q ∧ W.cell? (a.add (i * 3)) = some (.string q.g) ∧ W.cell? (a.add (i * 3 + 1)) = some (.int .i64 q.k) ∧ W.cell? (a.add (i * 3 + 2)) = some (.string q.s) := by
      intro i hi
      obtain ⟨cs', h1, h2⟩ := hx i (by omega)
      rw [cells30] at h1
      obtain ⟨_, hlen, hcell⟩ := World.cells?_some h1
      obtain ⟨q, rfl, hok⟩ := mem_of_trod h2
      have e0 := hcell 0 (by omega)
      have e1 := hcell 1 (by omega)
      have e2 := hcell 2 (by omega)
      rw [add_add] at e0 e1 e2
      exact ⟨q, hok, by simpa using e0, by simpa using e1, by simpa using e2⟩
    have hq : ∃ q : Nat → Mem, ∀ i, i < len0 → OkM (q i) ∧ W.cell? (a.add (i * 3)) = some (.string (q i).g) ∧ W.cell? (a.add (i * 3 + 1)) = some (.int .i64 (q i).k) ∧ W.cell? (a.add (i * 3 + 2)) = some (.string (q i).s) := by
      refine ⟨fun i => if h : i < len0 then Classical.choose (each i h) else ⟨ByteArray.empty, 0, ByteArray.empty⟩, fun i hi => ?_⟩
      simp only [hi, dite_true]
      exact Classical.choose_spec (each i hi)
    obtain ⟨q, hq⟩ := hq
    refine ⟨(List.range len0).map q, by simp, fun hp => ?_, by simp; omega, fun mm hmm' => ?_⟩
    · simp at hp
      obtain ⟨b, off, spot⟩ := a
      have hspot : spot = none := by simpa [Addr.add] using World.cell?_spot (hq 0 hp).2.1
      subst hspot
      refine ⟨b, off, rfl, fun j mm hj => ?_⟩
      have hjl : j < len0 := by have := (List.getElem?_eq_some_iff.1 hj).1; simpa using this
      have e : mm = q j := by
        rw [List.getElem?_map, List.getElem?_range hjl] at hj
        simpa using hj.symm
      subst e
      obtain ⟨_, c0, c1, c2⟩ := hq j hjl
      rw [add_plain] at c0 c1 c2
      exact ⟨c0, c1, c2⟩
    · obtain ⟨i, hi, rfl⟩ := List.mem_map.1 hmm'
      exact (hq i (by simpa using hi)).1

theorem mem_agg {H : Type} {enc : TypeId × Value → H} {W : World} {base : Nat} {sp : Nat → Bool} {held : Bool} {n : Nat} {cs : Array Value} {x : DataW H × List MemPlace} (h : DataW.trod enc Try.prog W base sp held n 30 (Value.agg cs).cells.toList = some x) :
    ∃ m : Mem, Value.agg cs = .agg #[.string m.g, .int .i64 m.k, .string m.s] ∧ OkM m := by
  obtain ⟨m, e, hok⟩ := mem_of_trod h
  refine ⟨m, ?_, hok⟩
  have e' : cs.toList = [.string m.g, .int .i64 m.k, .string m.s] := e
  rw [← Array.toArray_toList (xs := cs), e']
end Go.Proofs.Qxb6600451a
