/-
  The walks of zzBytes, zzCloneBytes, foldByte, lowerASCII and editsReach.
-/
import Derived.Test.Qxb6600553aRows
import Derived.Test.Qxb6600553aLevPlain
import Derived.WalkKit
import Derived.WalkSpells
import Derived.WalkLawsBesides
import Derived.Deep.QuietTactic
import Derived.BigQuiet
import Derived.Lib.SliceRun
namespace Go.Proofs.Qxb6600553a
open Go.RowKit

def AnyBool (e : Ending) : Prop := ∃ b, e = .returned (.bool b)
theorem anyBool_mk (b : Bool) : AnyBool (.returned (.bool b)) := ⟨b, rfl⟩
theorem ret_bool {a b : Bool} (h : a = b) : Ending.returned (.bool a) = .returned (.bool b) := by rw [h]

/-- wr is w with draws made. -/
def DrewFrom (w wr : World) : Prop := ∃ m, wr = w.drewN m
theorem DrewFrom.refl (w : World) : DrewFrom w w := ⟨0, rfl⟩
theorem DrewFrom.drewN {w wr : World} (h : DrewFrom w wr) (n : Nat) : DrewFrom w (wr.drewN n) := by obtain ⟨m, rfl⟩ := h; exact ⟨_, World.drewN_drewN _ _ _⟩
theorem DrewFrom.trans {w a b : World} (h : DrewFrom w a) (k : DrewFrom a b) : DrewFrom w b := by obtain ⟨m, rfl⟩ := k; exact h.drewN m
theorem DrewFrom.cell {w wr : World} (h : DrewFrom w wr) (a : Addr) : wr.cell? a = w.cell? a := by obtain ⟨m, rfl⟩ := h; rfl
theorem DrewFrom.below {w wr : World} (h : DrewFrom w wr) (B : Nat) : Below B w wr := by obtain ⟨m, rfl⟩ := h; exact ⟨rfl, rfl, rfl, Nat.le_refl _, fun _ _ => rfl⟩

theorem quiet_of_eq {P : Program} {f : FuncId} {args : Array Value} {w : World} {n : Nat} {v : Value}
    (h : Calls P f args (w.drewN n) fun e w' => e = .returned v ∧ w.drewN n = w') : Calls P f args (w.drewN n) fun e w'' => e = .returned v ∧ ∃ m, w'' = w.drewN m :=
  h.mono fun _ _ ⟨he, hm⟩ => ⟨he, n, hm.symm⟩

/-- The slice at 'ao' holds the bytes zs, in the world w. -/
def BS (w : World) (ao : Option Addr) (zs : List Int) : Prop :=
  0 < zs.length → ∃ b off, ao = some ⟨b, off, none⟩ ∧ ∀ j z, zs[j]? = some z → w.cell? ⟨b, off + j, none⟩ = some (.int .u8 z)
def Bytes (zs : List Int) : Prop := ∀ z ∈ zs, 0 ≤ z ∧ z ≤ 255

theorem BS.drew {w wr : World} {ao : Option Addr} {zs : List Int} (h : BS w ao zs) (hd : DrewFrom w wr) : BS wr ao zs := fun hp => by
  obtain ⟨b, off, rfl, hc⟩ := h hp
  exact ⟨b, off, rfl, fun j z hj => (hd.cell _).trans (hc j z hj)⟩

theorem zz6_any (ao bo : Option Addr) (n m ca cb : Nat) (k : Int) (w : World) (hn : n ≤ maxLen) (hm : m ≤ maxLen) :
    Calls Try.prog 6 #[.slice ao n ca, .slice bo m cb, .int .i64 k] w fun e w' => AnyBool e ∧ w = w' := by
  unfold maxLen at hn hm
  by_cases h1 : (1048576 : Int) < (n : Int)
  · go_enter Try.func6, Try.ntmps6
    go_wp2
    go_ret
    exact ⟨anyBool_mk _, rfl⟩
  by_cases h2 : (1048576 : Int) < (m : Int)
  · go_enter Try.func6, Try.ntmps6
    go_wp2
    go_ret
    exact ⟨anyBool_mk _, rfl⟩
  go_enter Try.func6, Try.ntmps6
  go_wp2
  all_goals
    go_ret
    exact ⟨anyBool_mk _, rfl⟩

/-- ASCII capitals lowered. -/
def fold (z : Int) : Int := if 65 ≤ z ∧ z ≤ 90 then z + 32 else z

theorem fold_any (z : Int) (w : World) (h0 : 0 ≤ z) (h1 : z ≤ 255) : Calls Try.prog 12 #[.int .u8 z] w fun e w' => e = .returned (.int .u8 (fold z)) ∧ w = w' := by
  by_cases hc : 65 ≤ z ∧ z ≤ 90
  · have e : fold z = z + 32 := if_pos hc
    obtain ⟨c1, c2⟩ := hc
    rw [e]
    clear e
    go_enter Try.func12, Try.ntmps12
    go_wp2
    go_ret
    exact ⟨rfl, rfl⟩
  · have e : fold z = z := if_neg hc
    rw [e]
    clear e
    by_cases c1 : 65 ≤ z
    · have c2 : ¬ z ≤ 90 := by omega
      clear hc
      go_enter Try.func12, Try.ntmps12
      go_wp2
      go_ret
      exact ⟨rfl, rfl⟩
    · clear hc
      go_enter Try.func12, Try.ntmps12
      go_wp2
      go_ret
      exact ⟨rfl, rfl⟩

theorem lower_any (z : Int) (w : World) (h0 : 0 ≤ z) (h1 : z ≤ 255) : Calls Try.prog 14 #[.int .u8 z] w fun e w' => e = .returned (.int .u8 (fold z)) ∧ w = w' := by
  by_cases hc : 65 ≤ z ∧ z ≤ 90
  · have e : fold z = z + 32 := if_pos hc
    obtain ⟨c1, c2⟩ := hc
    rw [e]
    clear e
    go_enter Try.func14, Try.ntmps14
    go_wp2
    go_ret
    exact ⟨by simp; omega, rfl⟩
  · have e : fold z = z := if_neg hc
    rw [e]
    clear e
    by_cases c1 : 65 ≤ z
    · have c2 : ¬ z ≤ 90 := by omega
      clear hc
      go_enter Try.func14, Try.ntmps14
      go_wp2
      go_ret
      exact ⟨rfl, rfl⟩
    · clear hc
      go_enter Try.func14, Try.ntmps14
      go_wp2
      go_ret
      exact ⟨rfl, rfl⟩
end Go.Proofs.Qxb6600553a
