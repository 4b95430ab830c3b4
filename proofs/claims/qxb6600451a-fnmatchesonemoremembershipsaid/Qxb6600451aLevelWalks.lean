/-
  The walk of ZZLevelB1.
-/
import Derived.Test.Qxb6600451aRows
import Derived.WalkKit
import Derived.WalkSpells
import Derived.WalkLawsBesides
import Derived.RowKit3
namespace Go.Proofs.Qxb6600451a
open Go.RowKit

def AnyBool (e : Ending) : Prop := ∃ b, e = .returned (.bool b)
theorem anyBool_mk (b : Bool) : AnyBool (.returned (.bool b)) := ⟨b, rfl⟩

theorem grown_trans {a b c : World} (h : Grown a b) (k : Grown b c) : Grown a c :=
  ⟨World.keptBut_trans h.1 (World.keptBut_mono (fun _ f => f.elim) k.1), fun x => (k.2.1 x).trans (h.2.1 x), Nat.le_trans h.2.2 k.2.2⟩

theorem level_true_true (k : Int) (s t : ByteArray) (a : Int) (w : World) :
    Calls Try.prog 14 #[.bool true, .int .i64 k, .string s, .bool true, .string t, .int .i64 a] w fun e w' => e = .returned (.int .i64 0) ∧ Grown w w' := by
  go_enter Try.func14, Try.ntmps14
  go_wp2
  go_ret
  exact ⟨rfl, by repeat (first | exact Grown.refl _ | apply Grown.drew | apply Grown.alloc)⟩

theorem level_true_false (k : Int) (s t : ByteArray) (a : Int) (w : World) :
    Calls Try.prog 14 #[.bool true, .int .i64 k, .string s, .bool false, .string t, .int .i64 a] w fun e w' => e = .returned (.int .i64 1) ∧ Grown w w' := by
  go_enter Try.func14, Try.ntmps14
  go_wp2
  go_ret
  exact ⟨rfl, by repeat (first | exact Grown.refl _ | apply Grown.drew | apply Grown.alloc)⟩

theorem level_false_true (k : Int) (s t : ByteArray) (a : Int) (w : World) :
    Calls Try.prog 14 #[.bool false, .int .i64 k, .string s, .bool true, .string t, .int .i64 a] w fun e w' => e = .returned (.int .i64 2) ∧ Grown w w' := by
  go_enter Try.func14, Try.ntmps14
  go_wp2
  go_ret
  exact ⟨rfl, by repeat (first | exact Grown.refl _ | apply Grown.drew | apply Grown.alloc)⟩

theorem level_false_false (k : Int) (s t : ByteArray) (a : Int) (w : World) :
    Calls Try.prog 14 #[.bool false, .int .i64 k, .string s, .bool false, .string t, .int .i64 a] w fun e w' => e = .returned (.int .i64 3) ∧ Grown w w' := by
  go_enter Try.func14, Try.ntmps14
  go_wp2
  go_ret
  exact ⟨rfl, by repeat (first | exact Grown.refl _ | apply Grown.drew | apply Grown.alloc)⟩

theorem zz13_any (k : Int) (s t : ByteArray) (a : Int) (w : World) (hs : s.size ≤ maxLen) (ht : t.size ≤ maxLen) :
    Calls Try.prog 13 #[.int .i64 k, .string s, .string t, .int .i64 a] w fun e w' => AnyBool e ∧ w = w' := by
  unfold maxLen at hs ht
  by_cases h1 : (1048576 : Int) < (s.size : Int)
  · go_enter Try.func13, Try.ntmps13
    go_wp2
    go_ret
    exact ⟨anyBool_mk _, rfl⟩
  by_cases h2 : (1048576 : Int) < (t.size : Int)
  · go_enter Try.func13, Try.ntmps13
    go_wp2
    go_ret
    exact ⟨anyBool_mk _, rfl⟩
  go_enter Try.func13, Try.ntmps13
  go_wp2
  all_goals
    go_ret
    exact ⟨anyBool_mk _, rfl⟩
end Go.Proofs.Qxb6600451a
