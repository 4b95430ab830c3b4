/-
  The walk of FnRepeatsRemembersEveryName.
-/
import Derived.Test.Qxb6605580aMarksWalk
import Derived.Test.Qxb6605580aCountWalk
namespace Go.Proofs.Qxb6605580a
open Go.RowKit Go.Maps

/-- The world with the fresh object laid. -/
def withObj (w : World) : World := w.alloc (.cells #[.string { data := #[] }, .string { data := #[] }, .string { data := #[] }, .string { data := #[] }, .string { data := #[] }, .string { data := #[] }, .string { data := #[] }, .string { data := #[] }, .int .i64 0, .slice none 0 0, .map none] 29)

theorem Fed.grown {w0 w w' : World} {O : Nat} {l : List ByteArray} (h : Fed w0 O l w) (hb : Below w.heap.size w w') : Fed w0 O l w' := by
  obtain ⟨acc, ⟨few, n, rv, mv, hO, hz, hc⟩, hm, hl, hbel⟩ := h
  have hg : w.grownBy w' none := ⟨hb.os, hb.tape, hb.output, hb.size, fun k hk _ => hb.block k hk⟩
  refine ⟨acc, ⟨few, n, rv, mv, hO.grown hg (by simp), hz, ?_⟩, hm, hl, hbel.trans (hb.mono (by have := hO.lt; omega))⟩
  rcases hc with h | ⟨rfl, rfl, rest, hr, h2⟩ | ⟨rfl, M, cnt, rfl, hOM, ⟨D, hown, hhas⟩, h2⟩
  · exact .inl h
  · exact .inr (.inl ⟨rfl, rfl, rest, hr.kept hg (by cases rv.ownBlock <;> simp), h2⟩)
  · exact .inr (.inr ⟨rfl, M, cnt, rfl, hOM, ⟨D, hown.kept hg (by simp), hhas⟩, h2⟩)

theorem memB_self {l : List ByteArray} {k : Nat} {s : ByteArray} (h : l[k]? = some s) (m : List ByteArray) : memB s (l ++ m) = true := by
  rw [memB_append, memB_hit s l k s h (by simp)]; rfl

set_option maxHeartbeats 1000000 in
theorem remembers (ao : Option Addr) (cap : Nat) (ss : List ByteArray) (w : World) (hss : SS w ao ss) (hl : ss.length ≤ maxLen) (hz : ∀ s ∈ ss, s.size ≤ maxLen) (hnil : ao = none → ss = []) :
    Calls Try.prog 4 #[.slice ao ss.length cap] w fun e w' => e = .returned (.bool true) ∧ Below w.heap.size w w' := by
  have h7 := zz12_any ao cap ss w hss hl hz
  by_cases hbig : (4096 : Int) < (ss.length : Int)
  · go_enter Try.func4, Try.ntmps4
    go_wp2_with (go_at_call 12; refine h7.mono ?_; rintro e w' ⟨⟨b, rfl⟩, rfl⟩; cases b)
    all_goals
      go_ret
      exact ⟨rfl, Below.refl _ _⟩
  have h8 := nb_any ao cap ss w hss (by omega) hz
  have h9 := clone_any ao cap ss w hss (by omega) hnil
  have hd4 : decide ((4096 : Int) < (ss.length : Int)) = false := decide_eq_false hbig
  go_enter Try.func4, Try.ntmps4
  go_wp2_with (first
    | (go_at_call 12; refine h7.mono ?_; rintro e w' ⟨⟨b, rfl⟩, rfl⟩; cases b)
    | (go_at_call 8; refine h8.mono ?_; rintro e w' ⟨⟨z, rfl⟩, rfl⟩; cases hzd : decide ((1048576 : Int) < z))
    | (go_at_call 9; refine h9.mono ?_; rintro e w1 ⟨v, rfl, hown, hb1, _⟩; obtain ⟨ao2, cap2, hv, hsh⟩ := own_shape' hown; subst hv))
  · go_ret
    exact ⟨rfl, Below.refl _ _⟩
  · clear h7 h8 h9
    have hcells : ∀ {l : List ByteArray} {wx : World}, Fed (withObj w1) w1.heap.size l wx → SS wx ao2 ss := fun h hp => by
      obtain ⟨g, rfl, hg1, hg2, hgc⟩ := hsh hp
      exact ⟨g, 0, rfl, fun j s hj => by rw [h.cell (by exact hg2)]; show (World.alloc _ _).cell? _ = _; rw [World.cell?_alloc_lt _ _ _ (by exact hg2)]; exact hgc j s hj⟩
    have hend : ∀ {l : List ByteArray} {wx : World}, Fed (withObj w1) w1.heap.size l wx → Below w.heap.size w wx := fun h =>
      hb1.trans (((Below.refl _ _).alloc hb1.size _).trans (h.below.mono hb1.size))
    go_loopw [4, 5] (fun f i wr => ∃ k : Nat, k ≤ ss.length ∧ i = .int .i64 k ∧ f = .int .i64 (fr (ss.take k)) ∧ Fed (withObj w1) w1.heap.size (ss.take k) wr) (fun _ i _ => ss.length - (intOf i).toNat)
    case atStart => exact ⟨0, by omega, rfl, rfl, [], rep_fresh _, fun _ => rfl, by simp, Below.refl _ _⟩
    case round =>
      obtain ⟨k, hk, rfl, rfl, hfed⟩ := hrel
      by_cases hlt : k < ss.length
      · obtain ⟨g, off, rfl, hgc⟩ := hcells hfed (by omega)
        obtain ⟨s, hs⟩ : ∃ s, ss[k]? = some s := ⟨ss[k], by simp⟩
        have hcs := hgc k s hs
        have h10 := fed_call hfed (by simp; omega) (hz s (List.mem_of_getElem? hs))
        have HS : Hid (ss[k]? = some s) := hs
        have HF : Hid (fr (ss.take (k + 1)) = fr (ss.take k) + if memB s (ss.take k) then 0 else 1) := fr_take hs
        have hfl := fr_le (ss.take k)
        have hft2 : (ss.take k).length ≤ k := by simp; omega
        clear hs hgc
        cases hm : memB s (ss.take k) with
        | true =>
          simp only [hm] at h10
          go_wp2_with (go_at_call 10; refine h10.mono ?_; rintro e w2 ⟨rfl, hfed2⟩)
          go_roundw
          case rel => exact ⟨k + 1, by omega, by go_num, congrArg (Value.int .i64) (by rw [HF.out, if_pos hm]; rfl), by rw [take_snoc HS.out]; exact hfed2⟩
          case measure => simp [intOf]; omega
        | false =>
          simp only [hm] at h10
          go_wp2_with (go_at_call 10; refine h10.mono ?_; rintro e w2 ⟨rfl, hfed2⟩)
          go_roundw
          case rel => exact ⟨k + 1, by omega, by go_num, congrArg (Value.int .i64) (by rw [HF.out, if_neg (by simp [hm])]; rfl), by rw [take_snoc HS.out]; exact hfed2⟩
          case measure => simp [intOf]; omega
      · rw [List.take_of_length_le (by omega)] at hfed
        have hfr : fr (ss.take k) = fr ss := by rw [List.take_of_length_le (by omega)]
        have h13 := count_any ao2 cap2 ss wr (hcells hfed) (by omega)
        rw [hfr]
        clear hfr
        go_wp2_with (go_at_call 13; refine h13.mono ?_; rintro e w2 ⟨rfl, hb2⟩)
        have hfed2 := hfed.grown hb2
        clear hfed hb2 h13
        go_loopw [6] (fun i wr => ∃ j : Nat, j ≤ ss.length ∧ i = .int .i64 j ∧ Fed (withObj w1) w1.heap.size (ss ++ ss.take j) wr) (fun i _ => ss.length - (intOf i).toNat)
        case atStart => exact ⟨0, by omega, rfl, by simpa using hfed2⟩
        case round =>
          clear hfed2
          obtain ⟨j, hj, rfl, hfed⟩ := hrel
          by_cases hjl : j < ss.length
          · obtain ⟨g, off, rfl, hgc⟩ := hcells hfed (by omega)
            obtain ⟨s, hs⟩ : ∃ s, ss[j]? = some s := ⟨ss[j], by simp⟩
            have hcs := hgc j s hs
            have h10 := fed_call hfed (by simp; omega) (hz s (List.mem_of_getElem? hs))
            simp only [memB_self hs] at h10
            have HS : Hid (ss[j]? = some s) := hs
            clear hs hgc
            go_wp2_with (go_at_call 10; refine h10.mono ?_; rintro e w2 ⟨rfl, hfed2⟩)
            go_roundw
            case rel => exact ⟨j + 1, by omega, by go_num, by rw [take_snoc HS.out, ← List.append_assoc]; exact hfed2⟩
            case measure => simp [intOf]; omega
          · go_wp2
            go_ret
            exact ⟨rfl, hend hfed⟩
  · go_ret
    exact ⟨rfl, Below.refl _ _⟩
end Go.Proofs.Qxb6605580a
