/-
  The walks of lists, matches and ZZMatchesB1.
-/
import Derived.Test.Qxb6600451aDirWalk
namespace Go.Proofs.Qxb6600451a
open Go.RowKit Go.Maps

theorem grownBy_of_below {w w' : World} (h : Below w.heap.size w w') : w.grownBy w' none := ⟨h.os, h.tape, h.output, h.size, fun k hk _ => h.block k hk⟩

set_option maxHeartbeats 1000000 in
/-- (*Directory).lists. -/
theorem lists_any {w : World} {Dd M : Nat} {D : DataW Unit} {f : List UInt8 → Option Nat} {acc : List Mem} {N : Nat} (h : DirAt w Dd M D f acc N) (g : ByteArray) (k : Int) (s : ByteArray) (hg : g.size ≤ maxLen) (hk : (Lit.int .i64 k).wf = true) (hs : s.size ≤ maxLen) :
    Calls Try.prog 17 #[.pointer (some ⟨Dd, 0, none⟩), .string g, .agg #[.int .i64 k, .string s]] w fun e w' => e = .returned (.bool (acc.any (seen g.data.toList k s))) ∧ Below w.heap.size w w' := by
  have hlt := h.lt
  have cM : (w.alloc (.cells #[.int .i64 k, .string s] 45)).cell? ⟨Dd, 2, none⟩ = some (.map (some M)) := by rw [World.cell?_alloc_lt _ _ _ (by exact hlt)]; exact h.cell
  have ha : DirAt (w.alloc (.cells #[.int .i64 k, .string s] 45)) Dd M D f acc N := h.grown (World.grownBy_alloc _ _ _)
  have l1 := fun n => (ha.drewN n).group hg
  have l2 := fun n => (ha.drewN n).member g.data.toList hk hs
  have hmap : ∃ v : Option Nat, mapOf (f g.data.toList) = .map v := by cases f g.data.toList <;> exact ⟨_, rfl⟩
  obtain ⟨v, hv⟩ := hmap
  simp only [hv] at l1 l2
  clear hv ha h
  go_enter Try.func17, Try.ntmps17
  go_wp2
  go_quiet (fail)
  go_wp2
  go_ret
  exact ⟨rfl, below_drewN ((Below.refl _ _).alloc (Nat.le_refl _) _) _⟩

theorem any_seen (acc : List Mem) (n p r : ByteArray) : (acc.any (seen r.data.toList 0 n) || acc.any (seen r.data.toList 1 p)) = acc.any (hit n p r) := by
  rw [Bool.eq_iff_iff]
  simp only [Bool.or_eq_true, List.any_eq_true, seen, hit, Lib.toList_data, Bool.and_eq_true]
  constructor
  · rintro (⟨m, hm, h1, h2⟩ | ⟨m, hm, h1, h2⟩)
    · exact ⟨m, hm, h1, .inl h2⟩
    · exact ⟨m, hm, h1, .inr h2⟩
  · rintro ⟨m, hm, h1, h2 | h2⟩
    · exact .inl ⟨m, hm, h1, h2⟩
    · exact .inr ⟨m, hm, h1, h2⟩

set_option maxHeartbeats 1000000 in
/-- ZZMatchesB1: what the reference's documented meaning says. -/
theorem matches_any {w : World} {Dd M : Nat} {D : DataW Unit} {f : List UInt8 → Option Nat} {acc : List Mem} {N : Nat} (h : DirAt w Dd M D f acc N) (n p : ByteArray) (k : Int) (r : ByteArray) (hn : n.size ≤ maxLen) (hp : p.size ≤ maxLen) (hr : r.size ≤ maxLen) :
    Calls Try.prog 10 #[.pointer (some ⟨Dd, 0, none⟩), .string n, .string p, .int .i64 k, .string r] w fun e w' => e = .returned (.bool (modelB acc n p k r)) ∧ Below w.heap.size w w' := by
  by_cases hk0 : k = 0
  · subst hk0
    go_enter Try.func10, Try.ntmps10
    go_wp2
    go_ret
    exact ⟨rfl, ((Below.refl _ _).alloc (Nat.le_refl _) _).alloc (by simp) _⟩
  by_cases hk1 : k = 1
  · subst hk1
    go_enter Try.func10, Try.ntmps10
    go_wp2
    go_ret
    exact ⟨rfl, ((Below.refl _ _).alloc (Nat.le_refl _) _).alloc (by simp) _⟩
  have k0 : (k == 0) = false := by simpa using hk0
  have k1 : (k == 1) = false := by simpa using hk1
  have HM : Hid (modelB acc n p k r = (acc.any (seen r.data.toList 0 n) || acc.any (seen r.data.toList 1 p))) := by show _ = _; rw [any_seen]; simp [modelB, hk0, hk1]
  clear hk0 hk1
  have hA : DirAt ((w.alloc (.cells #[.string n, .string p, .map none] 49)).alloc (.cells #[.int .i64 k, .string r] 45)) Dd M D f acc N := (h.grown (World.grownBy_alloc _ _ none)).grown (World.grownBy_alloc _ _ none)
  have h1 := lists_any hA r 0 n hr (by decide) hn
  have h2 := fun (wx : World) (hx : Below ((w.alloc (.cells #[.string n, .string p, .map none] 49)).alloc (.cells #[.int .i64 k, .string r] 45)).heap.size ((w.alloc (.cells #[.string n, .string p, .map none] 49)).alloc (.cells #[.int .i64 k, .string r] 45)) wx) => lists_any (hA.grown (grownBy_of_below hx)) r 1 p hr (by decide) hp
  have hbase : Below w.heap.size w ((w.alloc (.cells #[.string n, .string p, .map none] 49)).alloc (.cells #[.int .i64 k, .string r] 45)) := ((Below.refl _ _).alloc (Nat.le_refl _) _).alloc (by simp) _
  clear h hA
  cases hb : acc.any (seen r.data.toList 0 n) with
  | true =>
    simp only [hb] at h1
    go_enter Try.func10, Try.ntmps10
    go_wp2_with (first | (go_at_call 15; go_in) | (go_at_call 17; refine h1.mono ?_; rintro e w1 ⟨rfl, hb1⟩))
    go_ret
    refine ⟨ret_bool ?_, hbase.trans (hb1.mono (by simp; omega))⟩
    rw [HM.out, hb]
    rfl
  | false =>
    simp only [hb] at h1
    go_enter Try.func10, Try.ntmps10
    go_wp2_with (first | (go_at_call 15; go_in) | (go_at_call 17; have _t := h1; refine h1.mono ?_; rintro e w1 ⟨rfl, hb1⟩; clear h1 _t; have y1 : w1.cell? ⟨w.heap.size + 1, 1, none⟩ = some (.string r) := (hb1.cell (p := ⟨w.heap.size + 1, 1, none⟩) (by simp)).trans (by simp); have y2 : w1.cell? ⟨w.heap.size, 1, none⟩ = some (.string p) := (hb1.cell (p := ⟨w.heap.size, 1, none⟩) (by simp; omega)).trans (by simp)) | (go_at_call 17; refine (h2 _ hb1).mono ?_; rintro e w2 ⟨rfl, hb2⟩))
    go_ret
    refine ⟨ret_bool ?_, (hbase.trans (hb1.mono (by simp; omega))).trans (hb2.mono (by have := hb1.size; simp at this; omega))⟩
    rw [HM.out, hb]
    rfl
end Go.Proofs.Qxb6600451a
