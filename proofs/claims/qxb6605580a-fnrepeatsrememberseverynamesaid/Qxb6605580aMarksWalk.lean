/-
  The walk of FnRepeatsMarksEarlierNames.
-/
import Derived.Test.Qxb6605580aRepeats
import Derived.Test.Qxb6605580aNamesOpen
namespace Go.Proofs.Qxb6605580a
open Go.RowKit Go.Maps

/-- The fresh object. -/
theorem rep_fresh (w : World) : Rep (w.alloc (.cells #[.string { data := #[] }, .string { data := #[] }, .string { data := #[] }, .string { data := #[] }, .string { data := #[] }, .string { data := #[] }, .string { data := #[] }, .string { data := #[] }, .int .i64 0, .slice none 0 0, .map none] 29)) w.heap.size [] := by
  refine ⟨List.replicate 8 { data := #[] }, 0, .slice none 0 0, .map none, ⟨rfl, fun j s hj => ?_, ?_, ?_, ?_, fun j => ?_⟩, by simp, .inl ⟨by omega, rfl, rfl, rfl⟩⟩
  · have h8 : j < 8 := by have := (List.getElem?_eq_some_iff.1 hj).1; simpa using this
    have hk : j = 0 ∨ j = 1 ∨ j = 2 ∨ j = 3 ∨ j = 4 ∨ j = 5 ∨ j = 6 ∨ j = 7 := by omega
    have hs : s = { data := #[] } := by
      have := List.mem_of_getElem? hj
      simpa using List.eq_of_mem_replicate this
    subst hs
    rcases hk with rfl | rfl | rfl | rfl | rfl | rfl | rfl | rfl <;> simp
  · simp
  · simp
  · simp
  · rw [frozen?_alloc_cells]
    simp [World.frozen?]

/-- The state of the loop that feeds the names. -/
def Fed (w0 : World) (O : Nat) (l : List ByteArray) (wr : World) : Prop := ∃ acc, Rep wr O acc ∧ (∀ y, memB y acc = memB y l) ∧ acc.length ≤ l.length ∧ Below O w0 wr

theorem fed_call {w0 wr : World} {O : Nat} {l : List ByteArray} (h : Fed w0 O l wr) (hl : l.length ≤ 60000) {x : ByteArray} (hx : x.size ≤ maxLen) :
    Calls Try.prog 10 #[.pointer (some ⟨O, 0, none⟩), .string x] wr fun e w' => e = .returned (.bool (memB x l)) ∧ Fed w0 O (l ++ [x]) w' := by
  obtain ⟨acc, hR, hm, hlen, hb⟩ := h
  refine (zzRepeats_any O acc x wr hR (by omega) hx).mono ?_
  rintro e w' ⟨rfl, ⟨acc', hR', hm', hl'⟩, hb'⟩
  exact ⟨by rw [hm], acc', hR', fun y => by rw [hm', hm, memB_append, memB_one], by simp; omega, hb.trans hb'⟩

theorem Fed.cell {w0 wr : World} {O : Nat} {l : List ByteArray} (h : Fed w0 O l wr) {a : Addr} (ha : a.block < O) : wr.cell? a = w0.cell? a := by
  obtain ⟨_, _, _, _, hb⟩ := h
  exact hb.cell ha
theorem Fed.below {w0 wr : World} {O : Nat} {l : List ByteArray} (h : Fed w0 O l wr) : Below O w0 wr := by
  obtain ⟨_, _, _, _, hb⟩ := h
  exact hb
theorem Fed.drewN {w0 wr : World} {O : Nat} {l : List ByteArray} (h : Fed w0 O l wr) (m : Nat) : Fed w0 O l (wr.drewN m) := by
  obtain ⟨acc, ⟨few, n, rv, mv, hO, hr⟩, hm, hl, hb⟩ := h
  exact ⟨acc, ⟨few, n, rv, mv, hO.same rfl, hr⟩, hm, hl, below_drewN hb m⟩

set_option maxHeartbeats 1000000 in
theorem marks (ao : Option Addr) (cap : Nat) (ss : List ByteArray) (w : World) (hss : SS w ao ss) (hl : ss.length ≤ maxLen) (hz : ∀ s ∈ ss, s.size ≤ maxLen) (hnil : ao = none → ss = []) :
    Calls Try.prog 3 #[.slice ao ss.length cap] w fun e w' => e = .returned (.bool true) ∧ Below w.heap.size w w' := by
  have h7 := zz7_any ao cap ss w hss hl hz
  by_cases hbig : (4096 : Int) < (ss.length : Int)
  · go_enter Try.func3, Try.ntmps3
    go_wp2_with (go_at_call 7; refine h7.mono ?_; rintro e w' ⟨⟨b, rfl⟩, rfl⟩; cases b)
    all_goals
      go_ret
      exact ⟨rfl, Below.refl _ _⟩
  have h8 := nb_any ao cap ss w hss (by omega) hz
  have h9 := clone_any ao cap ss w hss (by omega) hnil
  have hd4 : decide ((4096 : Int) < (ss.length : Int)) = false := decide_eq_false hbig
  go_enter Try.func3, Try.ntmps3
  go_wp2_with (first
    | (go_at_call 7; refine h7.mono ?_; rintro e w' ⟨⟨b, rfl⟩, rfl⟩; cases b)
    | (go_at_call 8; refine h8.mono ?_; rintro e w' ⟨⟨z, rfl⟩, rfl⟩; cases hzd : decide ((1048576 : Int) < z))
    | (go_at_call 9; refine h9.mono ?_; rintro e w1 ⟨v, rfl, hown, hb1, _⟩; obtain ⟨ao2, cap2, hv, hsh⟩ := own_shape' hown; subst hv))
  · go_ret
    exact ⟨rfl, Below.refl _ _⟩
  · clear h7 h8 h9
    go_loopw [4] (fun i wr => ∃ k : Nat, k ≤ ss.length ∧ i = .int .i64 k ∧ Fed (w1.alloc (.cells #[.string { data := #[] }, .string { data := #[] }, .string { data := #[] }, .string { data := #[] }, .string { data := #[] }, .string { data := #[] }, .string { data := #[] }, .string { data := #[] }, .int .i64 0, .slice none 0 0, .map none] 29)) w1.heap.size (ss.take k) wr) (fun i _ => ss.length - (intOf i).toNat)
    case atStart => exact ⟨0, by omega, rfl, [], rep_fresh _, fun _ => rfl, by simp, Below.refl _ _⟩
    case round =>
      obtain ⟨k, hk, rfl, hfed⟩ := hrel
      by_cases hlt : k < ss.length
      · obtain ⟨g, rfl, hg1, hg2, hgc⟩ := hsh (by omega)
        obtain ⟨s, hs⟩ : ∃ s, ss[k]? = some s := ⟨ss[k], by simp⟩
        have hcells : ∀ {l : List ByteArray} {wx : World}, Fed (w1.alloc (.cells #[.string { data := #[] }, .string { data := #[] }, .string { data := #[] }, .string { data := #[] }, .string { data := #[] }, .string { data := #[] }, .string { data := #[] }, .string { data := #[] }, .int .i64 0, .slice none 0 0, .map none] 29)) w1.heap.size l wx → ∀ j s, ss[j]? = some s → wx.cell? ⟨g, 0 + j, none⟩ = some (.string s) := fun h j s hj => by
          rw [h.cell (by exact hg2), World.cell?_alloc_lt _ _ _ (by exact hg2)]; exact hgc j s hj
        have hcs := hcells hfed k s hs
        rw [Nat.zero_add] at hcs
        have h10 := fed_call hfed (by simp; omega) (hz s (List.mem_of_getElem? hs))
        have h11 := fun wx hwx => given_any g 0 cap2 ss k s hs wx (by omega) hwx
        have HS : Hid (ss[k]? = some s) := hs
        clear hs
        go_wp2_with (first
          | (go_at_call 10; refine h10.mono ?_; rintro e w2 ⟨rfl, hfed2⟩)
          | (go_at_call 11; refine (h11 _ (hcells hfed2)).mono ?_; rintro e w3 ⟨rfl, m, rfl⟩))
        go_roundw
        case rel => exact ⟨k + 1, by omega, by go_num, by rw [take_snoc HS.out]; exact hfed2.drewN m⟩
        case measure => simp [intOf]; omega
      · go_wp2
        go_ret
        exact ⟨rfl, hb1.trans (((Below.refl _ _).alloc hb1.size _).trans (hfed.below.mono hb1.size))⟩
  · go_ret
    exact ⟨rfl, Below.refl _ _⟩
end Go.Proofs.Qxb6605580a
