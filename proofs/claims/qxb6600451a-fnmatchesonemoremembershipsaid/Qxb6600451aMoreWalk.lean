/-
  The walk of FnMatchesOneMoreMembership.
-/
import Derived.Test.Qxb6600451aAgreesWalk
namespace Go.Proofs.Qxb6600451a
open Go.RowKit

theorem model_more (ms : List Mem) (x : Mem) (n p : ByteArray) (k : Int) (r : ByteArray) : modelB (ms ++ [x]) n p k r = (modelB ms n p k r || (k != 0 && (k != 1 && hit n p r x))) := by
  unfold modelB
  by_cases h0 : k = 0
  · simp [h0]
  · by_cases h1 : k = 1
    · simp [h1]
    · have e0 : (k == 0) = false := by simpa using h0
      have e1 : (k == 1) = false := by simpa using h1
      simp [h0, h1, e0, e1, bne]

theorem len_snoc {α : Type} (l : List α) (x : α) : (l ++ [x]).length = l.length + 1 := by simp

set_option maxHeartbeats 1000000 in
theorem more (ao : Option Addr) (cap : Nat) (ms : List Mem) (x : Mem) (n p r : ByteArray) (k : Int) (w : World) (hms : MS w ao ms) (hl : ms.length ≤ maxLen) (hz : ∀ m ∈ ms, OkM m) (hx : OkM x) (hn : n.size ≤ maxLen) (hp : p.size ≤ maxLen) (hr : r.size ≤ maxLen) :
    Calls Try.prog 4 #[.slice ao ms.length cap, .agg #[.string x.g, .int .i64 x.k, .string x.s], .string n, .string p, .int .i64 k, .string r] w fun e w' => e = .returned (.bool true) ∧ Below w.heap.size w w' := by
  have hba : Below w.heap.size w (w.alloc (.cells #[.string x.g, .int .i64 x.k, .string x.s] 30)) := (Below.refl _ _).alloc (Nat.le_refl _) _
  have h12 := zz12_any ao cap ms x n p r k (w.alloc (.cells #[.string x.g, .int .i64 x.k, .string x.s] 30)) (hms.later hba) hl hz hx hn hp hr
  have hzx : ∀ m ∈ ms ++ [x], OkM m := fun m hm => by
    rcases List.mem_append.1 hm with hm | hm
    · exact hz m hm
    · have : m = x := by simpa using hm
      rw [this]; exact hx
  by_cases hbig : (65536 : Int) < (ms.length : Int)
  · go_enter Try.func4, Try.ntmps4
    go_wp2_with (go_at_call 12; refine h12.mono ?_; rintro e w' ⟨⟨b, rfl⟩, hb1⟩; cases b)
    all_goals
      go_ret
      exact ⟨rfl, hba.trans (hb1.mono (by simp))⟩
  have d1 : decide ((65536 : Int) < (ms.length : Int)) = false := decide_eq_false hbig
  have hl' : ms.length ≤ 65536 := by omega
  go_enter Try.func4, Try.ntmps4
  go_wp2_with (first
    | (go_at_call 12; refine h12.mono ?_; rintro e w1 ⟨⟨b, rfl⟩, hb1⟩; have y0 : w1.cell? ⟨w.heap.size, 0, none⟩ = some (.string x.g) := (hb1.cell (p := ⟨w.heap.size, 0, none⟩) (by simp)).trans (by simp); have y1 : w1.cell? ⟨w.heap.size, 1, none⟩ = some (.int .i64 x.k) := (hb1.cell (p := ⟨w.heap.size, 1, none⟩) (by simp)).trans (by simp); have y2 : w1.cell? ⟨w.heap.size, 2, none⟩ = some (.string x.s) := (hb1.cell (p := ⟨w.heap.size, 2, none⟩) (by simp)).trans (by simp); cases b))
  · go_ret
    exact ⟨rfl, hba.trans (hb1.mono (by simp))⟩
  · have hbw1 : Below w.heap.size w w1 := hba.trans (hb1.mono (by simp))
    have hm1 : MS w1 ao ms := hms.later hbw1
    go_quiet ((go_at_call 7; exact Calls.quiet_of (bytes_det ao cap ms n p r _ (hm1.later (below_drewN (Below.refl _ _) _)) hl')))
    have t1 : True := trivial
    have t2 : True := trivial
    have t3 : True := trivial
    have hb2 := below_drewN hb1 nq
    have s2 : w.heap.size + 1 ≤ w1.heap.size := by have := hb1.size; simpa using this
    go_wp2_with (first
      | (go_at_call 8; have _t := t1; refine (split_false ao cap ms x _ (hm1.later (below_drewN (Below.refl _ _) _)) hl').mono ?_; rintro e w3 ⟨g1, g2, g3, rfl, hrows, hb3, l1, l2, l3⟩; have hc3 := hb2.trans (hb3.mono (by simpa using s2)); clear _t t1)
      | (go_at_call 9; have _t := t2; refine (dir_any g1 g2 g3 ms w3 hrows l1 l2 l3 (by omega) hz).mono ?_; rintro e w4 ⟨Dd, M, D, f, N, rfl, hdir, hb4⟩; have hc4 := hc3.trans (hb4.mono (by have := hc3.size; simpa using this)); clear _t t2)
      | (go_at_call 10; have _t := t3; refine (matches_any hdir n p k r hn hp hr).mono ?_; rintro e w5 ⟨rfl, hb5⟩; have hc5 := hc4.trans (hb5.mono (by have := hc4.size; simpa using this)); have z0 : w5.cell? ⟨w.heap.size, 0, none⟩ = some (.string x.g) := (hc5.cell (p := ⟨w.heap.size, 0, none⟩) (by simp)).trans (by simp); have z1 : w5.cell? ⟨w.heap.size, 1, none⟩ = some (.int .i64 x.k) := (hc5.cell (p := ⟨w.heap.size, 1, none⟩) (by simp)).trans (by simp); have z2 : w5.cell? ⟨w.heap.size, 2, none⟩ = some (.string x.s) := (hc5.cell (p := ⟨w.heap.size, 2, none⟩) (by simp)).trans (by simp); clear _t t3)
      | (go_at_call 8; refine (split_true ao cap ms x w5 (hms.later (hba.trans (hc5.mono (by simp)))) hl').mono ?_; rintro e w6 ⟨j1, j2, j3, rfl, hrows6, hb6, l61, l62, l63⟩; have hc6 := hc5.trans (hb6.mono (by have := hc5.size; simpa using this)); have hd9 := dir_any j1 j2 j3 (ms ++ [x]) w6 hrows6 l61 l62 l63 (by simp; omega) hzx; rw [len_snoc] at hd9)
      | (go_at_call 9; have _u := hd9; refine hd9.mono ?_; rintro e w7 ⟨Dd7, M7, D7, f7, N7, rfl, hdir7, hb7⟩; have hc7 := hc6.trans (hb7.mono (by have := hc6.size; simpa using this)))
      | (go_at_call 10; refine (matches_any hdir7 n p k r hn hp hr).mono ?_; rintro e w8 ⟨rfl, hb8⟩; have hc8 := hc7.trans (hb8.mono (by have := hc7.size; simpa using this)); have v0 : w8.cell? ⟨w.heap.size, 0, none⟩ = some (.string x.g) := (hc8.cell (p := ⟨w.heap.size, 0, none⟩) (by simp)).trans (by simp); have v1 : w8.cell? ⟨w.heap.size, 1, none⟩ = some (.int .i64 x.k) := (hc8.cell (p := ⟨w.heap.size, 1, none⟩) (by simp)).trans (by simp); have v2 : w8.cell? ⟨w.heap.size, 2, none⟩ = some (.string x.s) := (hc8.cell (p := ⟨w.heap.size, 2, none⟩) (by simp)).trans (by simp)))
    · go_ret
      exact ⟨rfl, hba.trans (hb2.mono (by simp))⟩
    all_goals
      have hend : Below w.heap.size w w8 := hba.trans (hc8.mono (by simp))
      clear hc3 hc4 hc5 hc6 hc7 hc8 hb2 hb3 hb4 hb5 hb6 hb7 hb8 hrows hrows6 hdir hdir7 hd9 h12 hms hm1 hz hzx z0 z1 z2 v0 v1 v2 y0 y1 y2 hb1
      go_ret
      refine ⟨ret_bool ?_, hend⟩
      clear hend
      first | (simp [model_more, hit, *]; done) | (simp [model_more, hit, *, Bool.and_assoc]; done)
end Go.Proofs.Qxb6600451a
