/-
  A slice of strings that came in, opened into what the walks ask.
-/
import Derived.Test.Qxb6605580aNamesWalks
import Derived.SliceStrings
import Derived.WideShapes
namespace Go.Proofs.Qxb6605580a
open Go.ChangeShapes Go.WideShapes Go.RowKit

theorem names_open {H : Type} {W : World} {a0 : Option Addr} {len0 cap0 : Nat} {x : DataW H × List MemPlace}
    (h : ((Value.slice a0 len0 cap0).cells.toList = [.slice none 0 0] ∧ x = (.nil, [])) ∨
      ∃ (a : Addr) (len cap : Nat) (ss : List ByteArray), (Value.slice a0 len0 cap0).cells.toList = [.slice (some a) len cap] ∧ 0 ≤ a.block ∧ len ≤ cap ∧ cap ≤ maxLen ∧ ss.length = (if true = true then cap else len) ∧
        x = (.slice (strs (ss.take len)) (strs (ss.drop len)), MemPlace.row a ss.length) ∧
        (∀ i, i < ss.length → W.cell? (a.add i) = some (.string (ss.getD i ByteArray.empty))) ∧ (∀ s ∈ ss, s.size ≤ maxLen)) :
    ∃ ss : List ByteArray, ss.length = len0 ∧ SS W a0 ss ∧ ss.length ≤ maxLen ∧ (∀ s ∈ ss, s.size ≤ maxLen) ∧ (a0 = none → ss = []) := by
  rcases h with ⟨hcs, _⟩ | ⟨a, l, c, ss, hcs, _, hl, hm, hz, _, hcell, hws⟩
  · simp [Value.cells] at hcs
    obtain ⟨rfl, rfl, rfl⟩ := hcs
    exact ⟨[], rfl, fun h => by simp at h, by simp, by simp, fun _ => rfl⟩
  · simp [Value.cells] at hcs
    obtain ⟨rfl, rfl, rfl⟩ := hcs
    simp only [if_true] at hz
    have hlt : (ss.take len0).length = len0 := by simp; omega
    refine ⟨ss.take len0, hlt, fun hp => ?_, by omega, fun s hs => hws s (List.mem_of_mem_take hs), by simp⟩
    obtain ⟨b, off, spot⟩ := a
    have hspot : spot = none := by simpa [Addr.add] using World.cell?_spot (hcell 0 (by omega))
    subst hspot
    refine ⟨b, off, rfl, fun j s hj => ?_⟩
    have hjl : j < len0 := by have := (List.getElem?_eq_some_iff.1 hj).1; omega
    rw [List.getElem?_take_of_lt hjl] at hj
    rw [← add_plain, hcell j (by omega), List.getD_eq_getElem?_getD, hj]
    rfl
end Go.Proofs.Qxb6605580a
