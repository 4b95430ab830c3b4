/-
  The keys of the two maps.
-/
import Derived.Test.Qxb6600451aSplitWalk
import Derived.Maps.OwnSet
import Derived.DeepKeys4
import Derived.Lib.Strings
import Derived.Lib.SmallJoins
import Derived.MapViews
namespace Go.Proofs.Qxb6600451a
open Go.RowKit Go.Maps

theorem laidOut : laidOutB Try.prog = true := by kernel_rfl
theorem row45 : (45 : TypeId) < Try.prog.types.size := of_decide_eq_true (by kernel_rfl)
theorem deep45 : Try.prog.keyTypeAt 2 45 = true := by kernel_rfl
theorem law45 : Keyed Try.prog 45 := Keyed.of_law (deep_law_laid laidOut (m := 2) (by decide) row45 deep45 (by rw [Try.underlying45]))
theorem law9 : Keyed Try.prog 9 := string_keyed Try.underlying9
theorem key9 {x : ByteArray} (h : x.size ≤ maxLen) : keyOf Try.prog 9 (.string x) = some (.string x.data.toList) := WideMaps.keyOf_string_mk Try.underlying9 h
theorem zero42 (w : World) : (zeroValue 42).run Try.prog w = .ok (.map none) w := by kernel_rfl
theorem zero4 (w : World) : (zeroValue 4).run Try.prog w = .ok (.bool false) w := by kernel_rfl

theorem deepAll45 : Try.prog.keyTypeAt (Try.prog.types.size + 1) 45 = true := by kernel_rfl
theorem cells45 : Try.prog.cellsOf 45 = 2 := by kernel_rfl
theorem formed45 (a b : Value) : (Value.agg #[a, b]).formed Try.prog 45 = true := by
  simp [Value.formed, Try.underlying45, cells45]

/-- A reference reads as a key. -/
theorem key45 (k : Int) (s : ByteArray) (hk : (Lit.int .i64 k).wf = true) (hs : s.size ≤ maxLen) : ∃ kl, keyOf Try.prog 45 (.agg #[.int .i64 k, .string s]) = some kl := by
  have h : DataW.Trod (H := Unit) (fun _ => ()) Try.prog default 0 (fun _ => true) true 45 (.agg #[.int .i64 k, .string s]) (.agg [.lit (.int .i64 k), .lit (.string s.data.toList)]) [] :=
    Joins.shut_agg2 (y0 := (.lit (.int .i64 k), [])) (y1 := (.lit (.string s.data.toList), [])) Try.underlying45 (by kernel_rfl) cells45 ⟨1, by simp [DataW.trod, Try.underlying43, hk]⟩ ⟨1, by simp [DataW.trod, Try.underlying9, hs]⟩
  exact ⟨_, (keyOf_asKey deepAll45 (by rw [Try.underlying45]) (formed45 _ _) h).1⟩
end Go.Proofs.Qxb6600451a
