/-
  The walks for FnSkipSpaceLandsPastTheRun.
-/
import Derived.Test.Qxb6605580aSkipWalks
import Derived.Test.Qxb6605580aRestWalks
import Derived.Test.Qxb6605580aNamesOpen
namespace Go.Proofs.Qxb6605580a
open Go.RowKit

set_option maxHeartbeats 1000000 in
/-- zzBytes_FnSkipSpaceLandsPastTheRun: some bool; it only reads. -/
theorem zz14_any (path text : ByteArray) (pos : Int) (ao : Option Addr) (cap : Nat) (ss : List ByteArray) (w : World) (hss : SS w ao ss) (hl : ss.length ≤ maxLen) (hz : ∀ s ∈ ss, s.size ≤ maxLen) (hp : path.size ≤ maxLen) (ht : text.size ≤ maxLen) :
    Calls Try.prog 14 #[.string path, .string text, .int .i64 pos, .slice ao ss.length cap] w fun e w' => AnyBool e ∧ w = w' := by
  unfold maxLen at hl hz hp ht
  by_cases h1 : (1048576 : Int) < (path.size : Int)
  · go_enter Try.func14, Try.ntmps14
    go_wp2
    go_ret
    exact ⟨anyBool_mk _, rfl⟩
  by_cases h2 : (1048576 : Int) < (text.size : Int)
  · go_enter Try.func14, Try.ntmps14
    go_wp2
    go_ret
    exact ⟨anyBool_mk _, rfl⟩
  by_cases h3 : (1048576 : Int) < (path.size : Int) + (text.size : Int)
  · go_enter Try.func14, Try.ntmps14
    go_wp2
    go_ret
    exact ⟨anyBool_mk _, rfl⟩
  by_cases h4 : (1048576 : Int) < (ss.length : Int)
  · go_enter Try.func14, Try.ntmps14
    go_wp2
    go_ret
    exact ⟨anyBool_mk _, rfl⟩
  by_cases h5 : (1048576 : Int) < (path.size : Int) + (text.size : Int) + (ss.length : Int)
  · go_enter Try.func14, Try.ntmps14
    go_wp2
    go_ret
    exact ⟨anyBool_mk _, rfl⟩
  by_cases h0 : ss.length = 0
  · go_enter Try.func14, Try.ntmps14
    go_wp2
    go_loop [10] (fun i => i = .int .i64 0) (fun _ => 0)
    case atStart => rfl
    case round =>
      subst hrel
      go_wp2
      go_ret
      exact ⟨anyBool_mk _, rfl⟩
  obtain ⟨b, off, rfl, hc⟩ := hss (by omega)
  go_enter Try.func14, Try.ntmps14
  go_wp2
  go_loop [9, 10] (fun t i => ∃ (z : Int) (k : Nat), k ≤ ss.length ∧ 0 ≤ z ∧ z ≤ 1048576 ∧ i = .int .i64 k ∧ t = .int .i64 z) (fun _ i => ss.length - (intOf i).toNat)
  case atStart => exact ⟨_, 0, by omega, by omega, by omega, rfl, rfl⟩
  case round =>
    obtain ⟨z, k, hk, hz0, hz1, rfl, rfl⟩ := hrel
    by_cases hlt : k < ss.length
    · obtain ⟨s, hs⟩ : ∃ s, ss[k]? = some s := ⟨ss[k], by simp [hlt]⟩
      have hcx := hc k s hs
      have hsz := hz s (List.mem_of_getElem? hs)
      clear hs hc hz
      go_wp2
      case roundEnd =>
        go_round
        case rel => exact ⟨_, k + 1, by omega, by omega, by omega, by go_num, rfl⟩
        case measure => simp [intOf]; omega
      all_goals
        go_ret
        exact ⟨anyBool_mk _, rfl⟩
    · go_wp2
      go_ret
      exact ⟨anyBool_mk _, rfl⟩

set_option maxHeartbeats 400000 in
/-- sameNamesB1 of two slices that hold the same names, both nil or neither. -/
theorem same_any (a b : Option Addr) (c1 c2 : Nat) (ss : List ByteArray) (w : World) (ha : SS w a ss) (hb : SS w b ss) (hn : a.isNone = b.isNone) (hl : ss.length ≤ 65536) :
    Calls Try.prog 21 #[.slice a ss.length c1, .slice b ss.length c2] w fun e w' => e = .returned (.bool true) ∧ DrewFrom w w' := by
  have q22 : ∀ (w : World) (a : Option Addr) (n c n' c' : Nat), (binOp .eql 22 (.slice a n c) (.slice none n' c')).run Try.prog w = .ok (.bool a.isNone) w := fun w a n c n' c' => Lib.run_eql_slice_nil w 22 9 a n c n' c' Try.underlying22
  by_cases h0 : ss.length = 0
  · go_enter Try.func21, Try.ntmps21
    go_wp2
    go_loop [5] (fun i => i = .int .i64 0) (fun _ => 0)
    case atStart => rfl
    case round =>
      subst hrel
      go_wp2
      go_ret
      exact ⟨rfl, DrewFrom.refl _⟩
  obtain ⟨b1, o1, rfl, hc1⟩ := ha (by omega)
  obtain ⟨b2, o2, rfl, hc2⟩ := hb (by omega)
  clear hn
  go_enter Try.func21, Try.ntmps21
  go_wp2
  go_loopw [5] (fun t wr => ∃ k : Nat, k ≤ ss.length ∧ t = .int .i64 k ∧ DrewFrom w wr) (fun t _ => ss.length - (intOf t).toNat)
  case atStart => exact ⟨0, by omega, rfl, DrewFrom.refl _⟩
  case round =>
    obtain ⟨k, hk, rfl, hd⟩ := hrel
    by_cases hlt : k < ss.length
    · obtain ⟨s, hs⟩ : ∃ s, ss[k]? = some s := ⟨ss[k], by simp [hlt]⟩
      have k1 : wr.cell? ⟨b1, o1 + k, none⟩ = some (.string s) := by rw [hd.cell]; exact hc1 k s hs
      have k2 : wr.cell? ⟨b2, o2 + k, none⟩ = some (.string s) := by rw [hd.cell]; exact hc2 k s hs
      clear hs hc1 hc2
      go_wp2
      go_quiet (fail)
      go_wp2
      go_roundw
      case rel => exact ⟨k + 1, by omega, by go_num, hd.drewN _⟩
      case measure => simp [intOf]; omega
    · go_wp2
      go_ret
      exact ⟨rfl, hd⟩

/-- skipSpace through the shim: what the reader's cells hold behind it. -/
theorem zzSkip_any (path s : ByteArray) (p R : Nat) (nv : Value) (w : World) (hs : s.size ≤ maxLen) (hp : p ≤ s.size)
    (c0 : w.cell? ⟨R, 0, none⟩ = some (.string path)) (c1 : w.cell? ⟨R, 1, none⟩ = some (.string s)) (c2 : w.cell? ⟨R, 2, none⟩ = some (.int .i64 p)) (c3 : w.cell? ⟨R, 3, none⟩ = some nv) (f2 : w.frozen? ⟨R, 2, none⟩ = false) :
    Calls Try.prog 16 #[.pointer (some ⟨R, 0, none⟩)] w fun e w' => e = .returned (.tuple #[]) ∧ w'.cell? ⟨R, 0, none⟩ = some (.string path) ∧ w'.cell? ⟨R, 1, none⟩ = some (.string s) ∧
      w'.cell? ⟨R, 2, none⟩ = some (.int .i64 (land s p)) ∧ w'.cell? ⟨R, 3, none⟩ = some nv ∧ Below R w w' := by
  have h := skip_any s p R w hs hp c1 c2 f2
  go_enter Try.func16, Try.ntmps16
  go_wp2_with (go_at_call 26; refine h.mono ?_; rintro e w' ⟨rfl, n, rfl⟩)
  go_end0
  refine ⟨rfl, ?_, ?_, World.cell?_setCell_same _ _ _ c2, ?_, (below_drewN (Below.refl R w) n).setCell (Nat.le_refl _) _⟩
  · rw [World.cell?_setCell_other _ _ _ _ (fun e => by injection e with _ e2; omega)]; exact c0
  · rw [World.cell?_setCell_other _ _ _ _ (fun e => by injection e with _ e2; omega)]; exact c1
  · rw [World.cell?_setCell_other _ _ _ _ (fun e => by injection e with _ e2; omega)]; exact c3
end Go.Proofs.Qxb6605580a
