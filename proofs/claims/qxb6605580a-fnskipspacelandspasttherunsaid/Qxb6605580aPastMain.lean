/-
  The walk of FnSkipSpaceLandsPastTheRun.
-/
import Derived.Test.Qxb6605580aPastWalks
namespace Go.Proofs.Qxb6605580a
open Go.RowKit

theorem cloned_none {ao ao' : Option Addr} {n base n' c' : Nat} (h : Cloned ao n base (.slice ao' n' c')) : ao'.isNone = ao.isNone := by
  rcases h with ⟨rfl, e⟩ | ⟨hne, g, _, e⟩
  · simp at e; rw [e.1]
  · simp at e
    cases ao with
    | none => exact absurd rfl hne
    | some a => rw [e.1]; rfl

theorem nil_back {ao ao' : Option Addr} {n base n' c' : Nat} (h : Cloned ao n base (.slice ao' n' c')) (e : ao' = none) : ao = none := by
  have := cloned_none h
  rw [e] at this
  simpa using this.symm

/-- A row of strings of the call's own, seen from a later world. -/
theorem ss_later {w w' : World} {ao : Option Addr} {base B : Nat} {ss : List ByteArray} (h : 0 < ss.length → ∃ g, ao = some ⟨g, 0, none⟩ ∧ base ≤ g ∧ g < B ∧ ∀ j s, ss[j]? = some s → w.cell? ⟨g, 0 + j, none⟩ = some (.string s)) (hb : Below B w w') : SS w' ao ss := by
  intro hp
  obtain ⟨g, rfl, _, hg, hc⟩ := h hp
  exact ⟨g, 0, rfl, fun j s hj => (hb.cell (by exact hg)).trans (hc j s hj)⟩

theorem zzPos_any (R : Nat) (z : Int) (w : World) (h : w.cell? ⟨R, 2, none⟩ = some (.int .i64 z)) : Calls Try.prog 17 #[.pointer (some ⟨R, 0, none⟩)] w fun e w' => e = .returned (.int .i64 z) ∧ w = w' := by
  go_enter Try.func17, Try.ntmps17
  go_wp2
  go_ret
  exact ⟨rfl, rfl⟩

set_option maxHeartbeats 1000000 in
theorem past (path text : ByteArray) (pos : Int) (ao : Option Addr) (cap : Nat) (ss : List ByteArray) (w : World) (hss : SS w ao ss) (hl : ss.length ≤ maxLen) (hz : ∀ s ∈ ss, s.size ≤ maxLen) (hnil : ao = none → ss = []) (hp : path.size ≤ maxLen) (ht : text.size ≤ maxLen) :
    Calls Try.prog 5 #[.string path, .string text, .int .i64 pos, .slice ao ss.length cap] w fun e w' => e = .returned (.bool true) ∧ Below w.heap.size w w' := by
  have h14 := zz14_any path text pos ao cap ss w hss hl hz hp ht
  have hs := ht
  unfold maxLen at hp ht
  by_cases h1 : (1048576 : Int) < (path.size : Int)
  · go_enter Try.func5, Try.ntmps5
    go_wp2_with (go_at_call 14; refine h14.mono ?_; rintro e w' ⟨⟨b, rfl⟩, rfl⟩; cases b)
    all_goals
      go_ret
      exact ⟨rfl, Below.refl _ _⟩
  by_cases h2 : (1048576 : Int) < (text.size : Int)
  · go_enter Try.func5, Try.ntmps5
    go_wp2_with (go_at_call 14; refine h14.mono ?_; rintro e w' ⟨⟨b, rfl⟩, rfl⟩; cases b)
    all_goals
      go_ret
      exact ⟨rfl, Below.refl _ _⟩
  by_cases h3 : (65536 : Int) < (ss.length : Int)
  · go_enter Try.func5, Try.ntmps5
    go_wp2_with (go_at_call 14; refine h14.mono ?_; rintro e w' ⟨⟨b, rfl⟩, rfl⟩; cases b)
    all_goals
      go_ret
      exact ⟨rfl, Below.refl _ _⟩
  have h8 := nb_any ao cap ss w hss (by omega) hz
  have h9 := clone_any ao cap ss w hss (by omega) hnil
  have d1 : decide ((1048576 : Int) < (path.size : Int)) = false := decide_eq_false h1
  have d2 : decide ((1048576 : Int) < (text.size : Int)) = false := decide_eq_false h2
  have d3 : decide ((65536 : Int) < (ss.length : Int)) = false := decide_eq_false h3
  by_cases hn : pos < 0
  · have dn : decide (pos < 0) = true := decide_eq_true hn
    go_enter Try.func5, Try.ntmps5
    go_wp2_with (first
      | (go_at_call 14; refine h14.mono ?_; rintro e w' ⟨⟨b, rfl⟩, rfl⟩; cases b)
      | (go_at_call 8; refine h8.mono ?_; rintro e w' ⟨⟨z, rfl⟩, rfl⟩))
    all_goals
      go_ret
      exact ⟨rfl, Below.refl _ _⟩
  have dn : decide (pos < 0) = false := decide_eq_false hn
  by_cases hg : (text.size : Int) < pos
  · have dg : decide ((text.size : Int) < pos) = true := decide_eq_true hg
    go_enter Try.func5, Try.ntmps5
    go_wp2_with (first
      | (go_at_call 14; refine h14.mono ?_; rintro e w' ⟨⟨b, rfl⟩, rfl⟩; cases b)
      | (go_at_call 8; refine h8.mono ?_; rintro e w' ⟨⟨z, rfl⟩, rfl⟩))
    all_goals
      go_ret
      exact ⟨rfl, Below.refl _ _⟩
  obtain ⟨p, rfl⟩ := Int.eq_ofNat_of_zero_le (show 0 ≤ pos by omega)
  have hpp : p ≤ text.size := by omega
  have dg : decide (text.size < p) = false := decide_eq_false (by omega)
  have dg' : decide ((text.size : Int) < (p : Int)) = false := decide_eq_false (by omega)
  clear hn hg
  have hge := land_ge text p
  have hle := land_le text p hpp
  have e2 : decide (land text p < p) = false := decide_eq_false (by omega)
  have e3 : decide (text.size < land text p) = false := decide_eq_false (by omega)
  go_enter Try.func5, Try.ntmps5
  go_wp2_with (first
    | (go_at_call 14; refine h14.mono ?_; rintro e w' ⟨⟨b, rfl⟩, rfl⟩; cases b)
    | (go_at_call 8; refine h8.mono ?_; rintro e w' ⟨⟨z, rfl⟩, rfl⟩; cases hzd : decide ((1048576 : Int) < wrap64 ((path.size : Int) + (text.size : Int) + z)))
    | (go_at_call 9; have _t := h9; refine h9.mono ?_; rintro e w1 ⟨v, rfl, hown, hb1, hcl1⟩; obtain ⟨ao1, cap1, hv, hsh1⟩ := own_shape' hown; subst hv; clear h9)
    | (go_at_call 9; refine (clone_any ao1 cap1 ss w1 (ss_later hsh1 (Below.refl _ _)) (by omega) (fun e => hnil (nil_back hcl1 e))).mono ?_; rintro e w2 ⟨v, rfl, hown2, hb2, hcl2⟩; obtain ⟨ao2, cap2, hv, hsh2⟩ := own_shape' hown2; subst hv)
    | (go_at_call 15; go_in)
    | (go_at_call 16; refine (zzSkip_any path text p _ (.slice ao2 ss.length cap2) _ hs hpp (by simp) (by simp) (by simp) (by simp) (by simp)).mono ?_; rintro e w3 ⟨rfl, k0, k1, k2, k3, hb3⟩)
    | (go_at_call 17; refine (zzPos_any _ _ _ k2).mono ?_; rintro e w4 ⟨rfl, rfl⟩))
  · go_ret
    exact ⟨rfl, Below.refl _ _⟩
  · have hb0 : Below w.heap.size w w3 := (hb1.trans (hb2.mono hb1.size)).trans (((Below.refl _ _).alloc (Nat.le_trans hb1.size hb2.size) _).trans (hb3.mono (Nat.le_trans hb1.size hb2.size)))
    have s1 : SS w3 ao1 ss := ss_later hsh1 (hb2.trans (((Below.refl _ _).alloc hb2.size _).trans (hb3.mono hb2.size)))
    have s2 : SS w3 ao2 ss := ss_later hsh2 (((Below.refl _ _).alloc (Nat.le_refl _) _).trans hb3)
    have hnn : ao2.isNone = ao1.isNone := cloned_none hcl2
    have h21 := same_any ao2 ao1 cap2 cap1 ss w3 s2 s1 hnn (by omega)
    clear h14 h8 hown hown2 hsh1 hsh2 hcl1 hcl2 hb1 hb2 hb3 s1 s2 hnn hss hnil hz
    go_loop [12] (fun i => ∃ k : Nat, p ≤ k ∧ k ≤ land text p ∧ i = .int .i64 k) (fun i => land text p - (intOf i).toNat)
    case atStart => exact ⟨p, Nat.le_refl _, hge, rfl⟩
    case round =>
      obtain ⟨k, hk1, hk2, rfl⟩ := hrel
      by_cases hlt : k < land text p
      · have hks : k < text.size := by omega
        have hw := land_ws text p k hk1 hlt hks
        go_wp2_with (go_at_call 18; refine (ws_any _ _).mono ?_; rintro e w2 ⟨rfl, rfl⟩)
        go_round
        case rel => exact ⟨k + 1, by omega, by omega, by go_num⟩
        case measure => simp [intOf]; omega
      · by_cases hend : land text p < text.size
        · have hw := land_stop text p hend
          go_wp2_with (first | (go_at_call 18; refine (ws_any _ _).mono ?_; rintro e w2 ⟨rfl, rfl⟩) | (go_at_call 21; refine h21.mono ?_; rintro e w4 ⟨rfl, hd⟩) | go_in)
          go_ret
          exact ⟨rfl, hb0.trans (hd.below _)⟩
        · go_wp2_with (first | (go_at_call 18; refine (ws_any _ _).mono ?_; rintro e w2 ⟨rfl, rfl⟩) | (go_at_call 21; refine h21.mono ?_; rintro e w4 ⟨rfl, hd⟩) | go_in)
          go_ret
          exact ⟨rfl, hb0.trans (hd.below _)⟩
  · go_ret
    exact ⟨rfl, Below.refl _ _⟩
end Go.Proofs.Qxb6605580a
