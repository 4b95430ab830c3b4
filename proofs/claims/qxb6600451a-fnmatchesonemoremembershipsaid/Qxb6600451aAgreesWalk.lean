/-
  The walk of FnMatchesAgreesWithMembershipList.
-/
import Derived.Test.Qxb6600451aTotWalk
namespace Go.Proofs.Qxb6600451a
open Go.RowKit

theorem MS.later {w w' : World} {ao : Option Addr} {ms : List Mem} (h : MS w ao ms) (hb : Below w.heap.size w w') : MS w' ao ms := by
  intro hp
  obtain ⟨b, off, rfl, hc⟩ := h hp
  refine ⟨b, off, rfl, fun j m hm => ?_⟩
  obtain ⟨c0, c1, c2⟩ := hc j m hm
  have hbw : b < w.heap.size := lt_of_cell c0
  exact ⟨(hb.cell (p := ⟨b, _, none⟩) hbw).trans c0, (hb.cell (p := ⟨b, _, none⟩) hbw).trans c1, (hb.cell (p := ⟨b, _, none⟩) hbw).trans c2⟩

set_option maxHeartbeats 2000000 in
theorem agrees (ao : Option Addr) (cap : Nat) (ms : List Mem) (n p r : ByteArray) (k : Int) (w : World) (hms : MS w ao ms) (hl : ms.length ≤ maxLen) (hz : ∀ m ∈ ms, OkM m) (hn : n.size ≤ maxLen) (hp : p.size ≤ maxLen) (hr : r.size ≤ maxLen) :
    Calls Try.prog 3 #[.slice ao ms.length cap, .string n, .string p, .int .i64 k, .string r] w fun e w' => e = .returned (.bool true) ∧ Below w.heap.size w w' := by
  have h6 := zz6_any ao cap ms n p r k w hms hl hz hn hp hr
  by_cases hbig : (65536 : Int) < (ms.length : Int)
  · go_enter Try.func3, Try.ntmps3
    go_wp2_with (go_at_call 6; refine h6.mono ?_; rintro e w' ⟨⟨b, rfl⟩, rfl⟩; cases b)
    all_goals
      go_ret
      exact ⟨rfl, Below.refl _ _⟩
  have d1 : decide ((65536 : Int) < (ms.length : Int)) = false := decide_eq_false hbig
  have hl' : ms.length ≤ 65536 := by omega
  have h7 := bytes_det ao cap ms n p r w hms hl'
  generalize tot (tot0 ms.length n p r) ms = z at h7
  cases hzd : decide ((1048576 : Int) < z) with
  | true =>
    go_enter Try.func3, Try.ntmps3
    go_wp2_with (first
      | (go_at_call 6; refine h6.mono ?_; rintro e w' ⟨⟨b, rfl⟩, rfl⟩; cases b)
      | (go_at_call 7; refine h7.mono ?_; rintro e w1 ⟨rfl, m, rfl⟩))
    all_goals
      go_ret
      exact ⟨rfl, by first | exact Below.refl _ _ | exact below_drewN (Below.refl _ _) _⟩
  | false =>
    go_enter Try.func3, Try.ntmps3
    go_wp2_with (first
      | (go_at_call 6; refine h6.mono ?_; rintro e w' ⟨⟨b, rfl⟩, rfl⟩; cases b)
      | (go_at_call 7; refine h7.mono ?_; rintro e w1 ⟨rfl, q, hw1⟩; have hb1 : Below w.heap.size w w1 := (by rw [hw1]; exact below_drewN (Below.refl _ _) q); have hs1 : w.heap.size ≤ w1.heap.size := hb1.size; clear hw1)
      | (go_at_call 8; refine (split_false ao cap ms ⟨{ data := #[] }, 0, { data := #[] }⟩ w1 (hms.later hb1) hl').mono ?_; rintro e w2 ⟨g1, g2, g3, rfl, hrows, hb2, l1, l2, l3⟩)
      | (go_at_call 9; refine (dir_any g1 g2 g3 ms w2 hrows l1 l2 l3 (by omega) hz).mono ?_; rintro e w3 ⟨Dd, M, D, f, N, rfl, hdir, hb3⟩)
      | (go_at_call 10; refine (matches_any hdir n p k r hn hp hr).mono ?_; rintro e w4 ⟨rfl, hb4⟩; have hba : Below w.heap.size w w4 := ((hb1.trans (hb2.mono hs1)).trans (hb3.mono (Nat.le_trans hs1 hb2.size))).trans (hb4.mono (Nat.le_trans (Nat.le_trans hs1 hb2.size) hb3.size)))
      | (go_at_call 11; refine (model_any ao cap ms n p r k w4 (hms.later hba) hl').mono ?_; rintro e w5 ⟨rfl, rfl⟩))
    · go_ret
      exact ⟨rfl, Below.refl _ _⟩
    · go_ret
      exact ⟨ret_bool (by simp), hba⟩
end Go.Proofs.Qxb6600451a
