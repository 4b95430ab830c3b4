/-
  The walk of zzCloneBytes.
-/
import Derived.Test.Qxb6600553aReachWalk
namespace Go.Proofs.Qxb6600553a
open Go.RowKit

theorem info5 : (Try.prog.info? 5).map (fun i => (i.zero, i.size, i.bytes)) = some (some (.int .u8 0), 1, 1) := by kernel_rfl

/-- Block g is the row of the bytes l. -/
def RowB (w : World) (g : Nat) (l : List Int) : Prop := w.heap[g]? = some (.cells (l.map (Value.int .u8)).toArray 5 (0, 0))
theorem RowB.cell {w : World} {g : Nat} {l : List Int} (h : RowB w g l) {j : Nat} {s : Int} (hj : l[j]? = some s) : w.cell? ⟨g, j, none⟩ = some (.int .u8 s) := by
  unfold RowB at h
  simp [World.cell?, h, hj]
theorem RowB.free {w : World} {g : Nat} {l : List Int} (h : RowB w g l) (j : Nat) : w.frozen? ⟨g, j, none⟩ = false := by
  unfold RowB at h
  simp [World.frozen?, h]
theorem RowB.set {w : World} {g : Nat} {l : List Int} (h : RowB w g l) (j : Nat) (s : Int) : RowB (w.setCell ⟨g, j, none⟩ (.int .u8 s)) g (l.set j s) := by
  unfold RowB at h ⊢
  simp only [World.setCell, Array.getElem?_modify, if_true, h, Option.map_some]
  simp [List.map_set]
theorem RowB.lt {w : World} {g : Nat} {l : List Int} (h : RowB w g l) : g < w.heap.size := (Array.getElem?_eq_some_iff.1 h).1

/-- A full row is its block. -/
theorem full_block {w : World} {base g n : Nat} {e : TypeId} {xs : List Value} (h : w.ownsRow base e 1 (.slice (some ⟨g, 0, none⟩) n n) n xs) : w.heap[g]? = some (.cells xs.toArray e (0, 0)) := by
  obtain ⟨_, h | ⟨g', cap, cur, hv, _, hh, _, _, hs, ht⟩⟩ := h
  · simp at h
  · simp at hv
    obtain ⟨rfl, rfl⟩ := hv
    rw [hh, ← ht, List.take_of_length_le (by simp; omega)]
theorem made_B {w : World} {base g n : Nat} (h : w.ownsRow base 5 1 (.slice (some ⟨g, 0, none⟩) n n) n (madeCells (Value.int .u8 0).cells (n * 1)).toList) : RowB w g (List.replicate n 0) := by
  have h1 := full_block h
  unfold RowB
  rw [h1, show (Value.int .u8 0).cells = #[.int .u8 0] from rfl, toList_madeCells_one, Nat.mul_one, List.map_replicate]

theorem lt_of_cell {w : World} {a : Addr} {v : Value} (h : w.cell? a = some v) : a.block < w.heap.size := by
  by_cases hl : a.block < w.heap.size
  · exact hl
  · have e : w.heap[a.block]? = none := by simp; omega
    simp [World.cell?, e] at h

/-- A slice of the call's own that holds the bytes zs. -/
def OwnB (w w' : World) (zs : List Int) (v : Value) : Prop :=
  ∃ ao cap, v = .slice ao zs.length cap ∧ (0 < zs.length → ∃ g, ao = some ⟨g, 0, none⟩ ∧ w.heap.size ≤ g ∧ g < w'.heap.size ∧ ∀ j z, zs[j]? = some z → w'.cell? ⟨g, 0 + j, none⟩ = some (.int .u8 z))

set_option maxHeartbeats 1000000 in
theorem clone_any (ao : Option Addr) (cap : Nat) (zs : List Int) (w : World) (hbs : BS w ao zs) (hl : zs.length ≤ 1048576) (hnil : ao = none → zs = []) :
    Calls Try.prog 7 #[.slice ao zs.length cap] w fun e w' => ∃ v, e = .returned v ∧ OwnB w w' zs v ∧ Below w.heap.size w w' := by
  have q22 : ∀ (w : World) (a : Option Addr) (n c n' c' : Nat), (binOp .eql 22 (.slice a n c) (.slice none n' c')).run Try.prog w = .ok (.bool a.isNone) w := fun w a n c n' c' => Lib.run_eql_slice_nil w 22 5 a n c n' c' Try.underlying22
  cases ao with
  | none =>
    have hn := hnil rfl
    subst hn
    go_enter Try.func7, Try.ntmps7
    go_wp2
    go_ret
    exact ⟨_, rfl, ⟨none, 0, rfl, fun h => by simp at h⟩, Below.refl _ _⟩
  | some ad =>
    obtain ⟨i0, hi, hz0, hz1, hz2⟩ := info_parts info5
    go_enter Try.func7, Try.ntmps7
    go_wp2_with (at_make; refine wpList_make_full _ rfl _ _ 22 rfl w.heap.size 5 i0 (.int .u8 0) 1 Try.underlying22 hi hz0 hz1 _ _ _ _ zs.length rfl rfl rfl rfl (by rw [hz2]; omega) (by unfold maxLen; omega) (Nat.le_refl _) ?_; intro w1 hown1 hg1)
    have hrow := made_B hown1
    have hb1 : Below w.heap.size w w1 := (Below.refl _ _).grown hg1 (Nat.le_refl _) (by simp)
    clear hown1 hg1
    go_loopw [4] (fun i wr => ∃ (j : Nat) (l : List Int), j ≤ zs.length ∧ i = .int .i64 j ∧ RowB wr w.heap.size l ∧ l.length = zs.length ∧ (∀ i z, i < j → zs[i]? = some z → l[i]? = some z) ∧ Below w.heap.size w wr) (fun i _ => zs.length - (intOf i).toNat)
    case atStart => exact ⟨0, _, by omega, rfl, hrow, by simp, fun i z h => by omega, hb1⟩
    case round =>
      clear hrow hb1
      obtain ⟨j, l, hj, rfl, hrow, hlen, hcop, hb⟩ := hrel
      by_cases hlt : j < zs.length
      · obtain ⟨b, off, he, hc⟩ := hbs (by omega)
        injection he with he
        subst he
        obtain ⟨z, hz⟩ : ∃ z, zs[j]? = some z := ⟨zs[j], by simp [hlt]⟩
        have c0 := hc j z hz
        have hbw : b < w.heap.size := lt_of_cell c0
        have d0 : wr.cell? ⟨b, off + j, none⟩ = some (.int .u8 z) := (hb.cell (p := ⟨b, off + j, none⟩) hbw).trans c0
        obtain ⟨y, hy⟩ : ∃ y, l[j]? = some y := ⟨l[j], by simp⟩
        have e1 := hrow.cell hy
        have f1 := hrow.free
        have HZ : Hid (zs[j]? = some z) := hz
        have HL : Hid (l.length = zs.length) := hlen
        clear hz hc c0 hy hlen
        go_wp2
        go_roundw
        case rel =>
          refine ⟨j + 1, l.set j z, by omega, by go_num, hrow.set j z, by rw [List.length_set]; exact HL.out, fun i z' hi hz' => ?_, hb.setCell (Nat.le_refl _) _⟩
          by_cases e : i = j
          · subst e
            rw [HZ.out] at hz'
            cases hz'
            exact List.getElem?_set_self (by have := HL.out; omega)
          · rw [List.getElem?_set_ne (Ne.symm e)]
            exact hcop i z' (by omega) hz'
        case measure => simp [intOf]; omega
      · go_wp2
        go_ret
        refine ⟨_, rfl, ⟨_, _, rfl, fun _ => ⟨w.heap.size, rfl, Nat.le_refl _, hrow.lt, fun i z hi => ?_⟩⟩, hb⟩
        rw [Nat.zero_add]
        exact hrow.cell (hcop i z (by have := (List.getElem?_eq_some_iff.1 hi).1; omega) hi)
end Go.Proofs.Qxb6600553a
