/-
  The walk of countDistinctB1.
-/
import Derived.Test.Qxb6605580aSortPlain
namespace Go.Proofs.Qxb6605580a
open Go.RowKit Go.Maps

/-- Block g is the row of the strings l. -/
def RowIs (w : World) (g : Nat) (l : List ByteArray) : Prop := w.heap[g]? = some (.cells (l.map Value.string).toArray 9 (0, 0))

theorem RowIs.cell {w : World} {g : Nat} {l : List ByteArray} (h : RowIs w g l) {j : Nat} {s : ByteArray} (hj : l[j]? = some s) : w.cell? ⟨g, j, none⟩ = some (.string s) := by
  unfold RowIs at h
  simp [World.cell?, h, hj]
theorem RowIs.free {w : World} {g : Nat} {l : List ByteArray} (h : RowIs w g l) (j : Nat) : w.frozen? ⟨g, j, none⟩ = false := by
  unfold RowIs at h
  simp [World.frozen?, h]
theorem RowIs.set {w : World} {g : Nat} {l : List ByteArray} (h : RowIs w g l) (j : Nat) (s : ByteArray) : RowIs (w.setCell ⟨g, j, none⟩ (.string s)) g (l.set j s) := by
  unfold RowIs at h ⊢
  simp only [World.setCell, Array.getElem?_modify, if_true, h, Option.map_some]
  simp [List.map_set]
theorem RowIs.drewN {w : World} {g : Nat} {l : List ByteArray} (h : RowIs w g l) (m : Nat) : RowIs (w.drewN m) g l := h

theorem src_cells' {w w1 : World} {ao : Option Addr} {ss : List ByteArray} (hss : SS w ao ss) (hg : w.grownBy w1 none) :
    0 < (ss.map Value.string).length → some (⟨w.heap.size, 0, none⟩ : Addr) = some ⟨w.heap.size, 0, none⟩ ∧ ∃ a, ao = some a ∧ ∀ j v, (ss.map Value.string)[j]? = some v → w1.cell? (a.add j) = some v := by
  intro hp
  obtain ⟨b, off, rfl, hc⟩ := hss (by simpa using hp)
  exact ⟨rfl, _, rfl, (src_cells (fun _ => ⟨b, off, rfl, hc⟩) hg hp).2.elim fun a ha => by obtain ⟨h1, h2⟩ := ha; injection h1 with h1; subst h1; exact h2⟩

set_option maxHeartbeats 1000000 in
theorem count_any (ao : Option Addr) (cap : Nat) (ss : List ByteArray) (w : World) (hss : SS w ao ss) (hl : ss.length ≤ 65536) :
    Calls Try.prog 13 #[.slice ao ss.length cap] w fun e w' => e = .returned (.int .i64 (fr ss)) ∧ Below w.heap.size w w' := by
  obtain ⟨i0, hi, hz0, hz1, hz2⟩ := info_parts info9
  go_enter Try.func13, Try.ntmps13
  go_wp2_with (first
    | (at_make; refine wpList_make_full _ rfl _ _ 22 rfl w.heap.size 9 i0 (.string ByteArray.empty) 1 Try.underlying22 hi hz0 hz1 _ _ _ _ ss.length rfl rfl rfl rfl (by rw [hz2]; omega) (by unfold maxLen; omega) (Nat.le_refl _) ?_; intro w1 hown1 hg1)
    | (have _t := hown1; refine wpList_copy_splice rfl (.tmp 12) (.tmp 13) 22 22 rfl 9 Try.underlying22 size9 _ _ _ _ _ _ rfl rfl w.heap.size 0 _ 9 (full_block hown1) (ss.map .string) (by simp) (src_cells' hss hg1) (by simp [size_madeCells]) (strs_oneCell ss) w.heap.size w ((Below.refl _ _).grown hg1 (Nat.le_refl _) (by simp)) (Nat.le_refl _) ?_; intro w2 hb2 hbel; clear hown1))
  have hrow : RowIs w2 w.heap.size ss := by
    have h := hb2.out
    rw [show splice (madeCells (Value.string ByteArray.empty).cells (ss.length * 1)).toList 0 (ss.map Value.string) = ss.map Value.string by simp [splice, size_madeCells]] at h
    exact h
  clear hb2 hg1 hss hi hz0 hz1 hz2
  go_loopw [4] (fun t wr => ∃ (i : Nat) (l : List ByteArray), 1 ≤ i ∧ (i ≤ ss.length ∨ i = 1) ∧ t = .int .i64 i ∧ RowIs wr w.heap.size l ∧ l.Perm ss ∧ Srt (l.take i) ∧ Below w.heap.size w wr) (fun t _ => ss.length - (intOf t).toNat)
  case atStart => exact ⟨1, ss, by omega, by omega, rfl, hrow, List.Perm.refl _, by
    match ss with
    | [] => exact List.Pairwise.nil
    | a :: r => exact List.pairwise_singleton _ _, hbel⟩
  case round =>
    clear hrow hbel
    obtain ⟨i, l, hi1, hi2, rfl, hrow, hperm, hsrt, hbel⟩ := hrel
    have hlen := hperm.length_eq
    by_cases hlt : i < ss.length
    · go_wp2
      go_loopw [5] (fun t wr => ∃ (j : Nat) (l : List ByteArray), j ≤ i ∧ t = .int .i64 j ∧ RowIs wr w.heap.size l ∧ l.Perm ss ∧ Inv l i j ∧ Below w.heap.size w wr) (fun t _ => (intOf t).toNat)
      case atStart => exact ⟨i, l, Nat.le_refl _, rfl, hrow, hperm, inv_start (by omega) hsrt, hbel⟩
      case round =>
        clear hrow hbel hperm hsrt hlen
        obtain ⟨j, l, hj, rfl, hrow, hperm, hinv, hbel⟩ := hrel
        have hlen := hperm.length_eq
        by_cases hj0 : 0 < j
        · obtain ⟨s, hs⟩ : ∃ s, l[j]? = some s := ⟨l[j], by simp⟩
          obtain ⟨t, ht⟩ : ∃ t, l[j - 1]? = some t := ⟨l[j - 1], by simp⟩
          have cs := hrow.cell hs
          have ct := hrow.cell ht
          have fz := hrow.free
          have ct2 : ∀ m x, ((wr.drewN m).setCell ⟨w.heap.size, j, none⟩ x).cell? ⟨w.heap.size, j - 1, none⟩ = some (.string t) := fun m x => by
            rw [World.cell?_setCell_other _ _ _ _ (fun e => by injection e with _ e2; omega)]; exact ct
          have HS : Hid (l[j]? = some s) := hs
          have HT : Hid (l[j - 1]? = some t) := ht
          have HLEN : Hid (l.length = ss.length) := hlen
          have g1 : (1 : Int) ≤ (j : Int) := by omega
          have g2 : 1 ≤ j := hj0
          have g3 : (j : Int) < (ss.length : Int) := by omega
          have g4 : j ≤ ss.length := by omega
          have g5 : (j : Int) ≤ (ss.length : Int) := by omega
          have g6 : j < ss.length := by omega
          have g7 : (0 : Int) < (j : Int) := by omega
          have gw : IntKind.i64.wrap ((j : Int) - 1) = (j : Int) - 1 := by simp [IntKind.wrap, IntKind.bits, IntKind.signed]; omega
          clear hs ht hlen
          cases hb : Op.bytesLess s.toList t.toList with
          | true =>
            go_wp2
            go_quiet (fail)
            go_wp2
            have hst := inv_step hinv hj0 HS.out HT.out hb
            go_roundw
            case rel => exact ⟨j - 1, (l.set j t).set (j - 1) s, by omega, by go_num, ((hrow.drewN _).set j t).set (j - 1) s, hst.2.trans hperm, hst.1, ((below_drewN hbel _).setCell (Nat.le_refl _) _).setCell (Nat.le_refl _) _⟩
            case measure => simp [intOf]; omega
          | false =>
            go_wp2
            go_quiet (fail)
            go_wp2
            go_roundw
            case rel => exact ⟨i + 1, l, by omega, by omega, by go_num, hrow.drewN _, hperm, inv_end hinv (.inr ⟨s, t, HS.out, HT.out, hj0, hb⟩), below_drewN hbel _⟩
            case measure => simp [intOf]; omega
        · have hd : decide ((0 : Int) < (j : Int)) = false := decide_eq_false (by omega)
          go_wp2
          go_quiet (fail)
          go_wp2
          go_roundw
          case rel => exact ⟨i + 1, l, by omega, by omega, by go_num, hrow.drewN _, hperm, inv_end hinv (.inl (by omega)), below_drewN hbel _⟩
          case measure => simp [intOf]; omega
    · go_wp2
      have hall : Srt l := by rwa [List.take_of_length_le (by omega)] at hsrt
      clear hsrt
      go_loopw [7, 8] (fun d t wr => ∃ k : Nat, k ≤ ss.length ∧ t = .int .i64 k ∧ d = .int .i64 (fr (l.take k)) ∧ RowIs wr w.heap.size l ∧ Below w.heap.size w wr) (fun _ t _ => ss.length - (intOf t).toNat)
      case atStart => exact ⟨0, by omega, rfl, rfl, hrow, hbel⟩
      case round =>
        clear hrow hbel
        obtain ⟨k, hk, rfl, rfl, hrow, hbel⟩ := hrel
        by_cases hkl : k < ss.length
        · obtain ⟨s, hs⟩ : ∃ s, l[k]? = some s := ⟨l[k], by simp⟩
          have cs := hrow.cell hs
          have hft := fr_take hs
          have hfl := fr_le (l.take k)
          have hft2 : (l.take k).length ≤ k := by simp; omega
          by_cases hk0 : k = 0
          · subst hk0
            have HF : Hid (fr (l.take (0 + 1)) = fr (l.take 0) + if memB s (l.take 0) then 0 else 1) := hft
            clear hft hs
            go_wp2
            go_quiet (fail)
            go_wp2
            go_roundw
            case rel => exact ⟨1, by omega, rfl, congrArg (Value.int .i64) (by have h := HF.out; simp [memB, fr_nil] at h; rw [h]; simp [fr_nil]; unfold wrap64; omega), hrow.drewN _, below_drewN hbel _⟩
            case measure => simp [intOf]; omega
          · obtain ⟨t, ht⟩ : ∃ t, l[k - 1]? = some t := ⟨l[k - 1], by simp⟩
            have ct := hrow.cell ht
            have hsm := srt_mem hall (by omega) hs ht
            rw [hsm] at hft
            have HF : Hid (fr (l.take (k + 1)) = fr (l.take k) + if s.toList == t.toList then 0 else 1) := hft
            have HLEN : Hid (l.length = ss.length) := hlen
            have g0 : ((k : Int) == 0) = false := by simp; omega
            have g1 : (1 : Int) ≤ (k : Int) := by omega
            have g2 : 1 ≤ k := by omega
            have g3 : (k : Int) < (ss.length : Int) := by omega
            have g5 : (k : Int) ≤ (ss.length : Int) := by omega
            have gw : IntKind.i64.wrap ((k : Int) - 1) = (k : Int) - 1 := by simp [IntKind.wrap, IntKind.bits, IntKind.signed]; omega
            clear hft hs ht hsm hlen hk0
            go_wp2
            go_quiet (fail)
            go_wp2
            all_goals first
              | (have hne : (!s.toList == t.toList) = true := by assumption
                 go_roundw
                 case rel => exact ⟨k + 1, by omega, by go_num, congrArg (Value.int .i64) (by rw [HF.out, if_neg (by simpa using hne)]; rfl), hrow.drewN _, below_drewN hbel _⟩
                 case measure => simp [intOf]; omega)
              | (have heq : (!s.toList == t.toList) = false := by assumption
                 go_roundw
                 case rel => exact ⟨k + 1, by omega, by go_num, congrArg (Value.int .i64) (by rw [HF.out, if_pos (by simpa using heq)]; rfl), hrow.drewN _, below_drewN hbel _⟩
                 case measure => simp [intOf]; omega)
        · go_wp2
          go_ret
          exact ⟨ret_int (by rw [List.take_of_length_le (by omega), fr_perm hperm]), hbel⟩
end Go.Proofs.Qxb6605580a
