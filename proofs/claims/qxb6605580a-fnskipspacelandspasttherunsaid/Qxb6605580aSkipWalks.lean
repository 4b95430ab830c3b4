/-
  The walk of skipSpace and of what lies around it.
-/
import Derived.Test.Qxb6605580aRows
import Derived.Test.Qxb6605580aSkipPlain
import Derived.WalkKit
import Derived.WalkSpells
import Derived.ChangeAlike
import Derived.Deep.QuietTactic
import Derived.BigQuiet
namespace Go.Proofs.Qxb6605580a
open Go.RowKit

set_option maxHeartbeats 400000 in
theorem skip_any (s : ByteArray) (p B : Nat) (w : World) (hs : s.size ≤ maxLen) (hp : p ≤ s.size)
    (c1 : w.cell? ⟨B, 1, none⟩ = some (.string s)) (c2 : w.cell? ⟨B, 2, none⟩ = some (.int .i64 p)) (f2 : w.frozen? ⟨B, 2, none⟩ = false) :
    Calls Try.prog 26 #[.pointer (some ⟨B, 0, none⟩)] w fun e w' => e = .returned (.tuple #[]) ∧ ∃ n, w' = (w.drewN n).setCell ⟨B, 2, none⟩ (.int .i64 (land s p)) := by
  unfold maxLen at hs
  go_enter Try.func26, Try.ntmps26
  go_wp2
  go_quiet (fail)
  go_wp2
  go_loop [3] (fun i => ∃ k : Nat, k ≤ s.size ∧ land s k = land s p ∧ i = .int .i64 k) (fun i => s.size - (intOf i).toNat)
  case atStart => exact ⟨p, hp, rfl, rfl⟩
  case round =>
    obtain ⟨k, hk, hl, rfl⟩ := hrel
    have HL : Hid (land s k = land s p) := hl
    clear hl
    by_cases hlt : k < s.size
    · go_wp2
      all_goals first
        | (have hy : wsB (s[k].toNat : Int) = true := by first | exact ws_y1 (by assumption) | exact ws_y2 (by assumption) | exact ws_y3 (by assumption) | exact ws_y4 (by assumption)
           go_round
           case rel => exact ⟨k + 1, by omega, (land_step s k hlt hy).trans HL.out, by go_num⟩
           case measure => simp [intOf]; omega)
        | (have hn : wsB (s[k].toNat : Int) = false := ws_n (by assumption) (by assumption) (by assumption) (by assumption)
           go_end0
           have e : land s p = k := by rw [← HL.out]; exact land_here s k hlt hn
           exact ⟨rfl, _, by rw [e]⟩)
    · go_wp2
      go_end0
      have e : land s p = k := by rw [← HL.out]; exact land_end s k (by omega)
      exact ⟨rfl, _, by rw [e]⟩

theorem grown_drewN {W w' : World} (h : Grown W w') (n : Nat) : Grown W (w'.drewN n) := h

theorem wsB_eq (c : Int) : (c == 32 || c == 9 || c == 10 || c == 13) = wsB c := by
  rw [Bool.eq_iff_iff]; simp [wsB, or_assoc]

theorem ws_any (c : Int) (w : World) : Calls Try.prog 18 #[.int .u8 c] w fun e w' => e = .returned (.bool (wsB c)) ∧ w = w' := by
  rw [← wsB_eq c]
  go_enter Try.func18, Try.ntmps18
  go_wp2
  all_goals (go_ret; exact ⟨by simp_all, rfl⟩)

theorem skipFrom_any (s : ByteArray) (p : Nat) (w : World) (hs : s.size ≤ maxLen) (hp : p ≤ s.size) :
    Calls Try.prog 24 #[.string s, .int .i64 p] w fun e w' => e = .returned (.int .i64 (land s p)) ∧ Grown w w' := by
  go_enter Try.func24, Try.ntmps24
  go_wp2_with (first | (go_at_call 26; refine (skip_any s p _ _ hs hp (by simp) (by simp) (by simp)).mono ?_; rintro e w' ⟨rfl, n, rfl⟩) | go_in)
  go_end0
  go_wp2
  go_ret
  exact ⟨rfl, (grown_drewN ((Grown.refl _).alloc _ _) _).setCell (by simp) _⟩

/-- From wherever within the run: it lands at the run's end. -/
theorem skipFrom_in (s : ByteArray) (p : Nat) (q : Int) (w : World) (hs : s.size ≤ maxLen) (hp : p ≤ s.size) (h1 : (p : Int) ≤ q) (h2 : q ≤ (land s p : Int)) :
    Calls Try.prog 24 #[.string s, .int .i64 q] w fun e w' => e = .returned (.int .i64 (land s p)) ∧ Grown w w' := by
  obtain ⟨m, rfl⟩ := Int.eq_ofNat_of_zero_le (show 0 ≤ q by omega)
  have hle := land_le s p hp
  rw [← land_mid s p m (by omega) (by omega)]
  exact skipFrom_any s m w hs (by omega)

theorem grown_trans {a b c : World} (h : Grown a b) (k : Grown b c) : Grown a c :=
  ⟨World.keptBut_trans h.1 (World.keptBut_mono (fun _ f => f.elim) k.1), fun x => (k.2.1 x).trans (h.2.1 x), Nat.le_trans h.2.2 k.2.2⟩
end Go.Proofs.Qxb6605580a
