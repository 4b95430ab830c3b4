/-
  The walk of zzSplitUudexB1.
-/
import Derived.Test.Qxb6600451aMemWalks
namespace Go.Proofs.Qxb6600451a
open Go.RowKit

theorem info9 : (Try.prog.info? 9).map (fun i => (i.zero, i.size, i.bytes)) = some (some (.string ByteArray.empty), 1, 16) := by kernel_rfl
theorem info3 : (Try.prog.info? 3).map (fun i => (i.zero, i.size, i.bytes)) = some (some (.int .i64 0), 1, 8) := by kernel_rfl

/-- Block g is the row of the strings l. -/
def RowS (w : World) (g : Nat) (l : List ByteArray) : Prop := w.heap[g]? = some (.cells (l.map Value.string).toArray 9 (0, 0))
/-- Block g is the row of the ints l. -/
def RowI (w : World) (g : Nat) (l : List Int) : Prop := w.heap[g]? = some (.cells (l.map (Value.int .i64)).toArray 3 (0, 0))

theorem RowS.cell {w : World} {g : Nat} {l : List ByteArray} (h : RowS w g l) {j : Nat} {s : ByteArray} (hj : l[j]? = some s) : w.cell? ⟨g, j, none⟩ = some (.string s) := by
  unfold RowS at h
  simp [World.cell?, h, hj]
theorem RowS.free {w : World} {g : Nat} {l : List ByteArray} (h : RowS w g l) (j : Nat) : w.frozen? ⟨g, j, none⟩ = false := by
  unfold RowS at h
  simp [World.frozen?, h]
theorem RowS.set {w : World} {g : Nat} {l : List ByteArray} (h : RowS w g l) (j : Nat) (s : ByteArray) : RowS (w.setCell ⟨g, j, none⟩ (.string s)) g (l.set j s) := by
  unfold RowS at h ⊢
  simp only [World.setCell, Array.getElem?_modify, if_true, h, Option.map_some]
  simp [List.map_set]
theorem RowS.other {w : World} {g : Nat} {l : List ByteArray} (h : RowS w g l) {a : Addr} (ha : g ≠ a.block) (v : Value) : RowS (w.setCell a v) g l := by
  unfold RowS at h ⊢
  rw [Below.heap_setCell _ _ _ _ ha]; exact h
theorem RowI.cell {w : World} {g : Nat} {l : List Int} (h : RowI w g l) {j : Nat} {s : Int} (hj : l[j]? = some s) : w.cell? ⟨g, j, none⟩ = some (.int .i64 s) := by
  unfold RowI at h
  simp [World.cell?, h, hj]
theorem RowI.free {w : World} {g : Nat} {l : List Int} (h : RowI w g l) (j : Nat) : w.frozen? ⟨g, j, none⟩ = false := by
  unfold RowI at h
  simp [World.frozen?, h]
theorem RowI.set {w : World} {g : Nat} {l : List Int} (h : RowI w g l) (j : Nat) (s : Int) : RowI (w.setCell ⟨g, j, none⟩ (.int .i64 s)) g (l.set j s) := by
  unfold RowI at h ⊢
  simp only [World.setCell, Array.getElem?_modify, if_true, h, Option.map_some]
  simp [List.map_set]
theorem RowI.other {w : World} {g : Nat} {l : List Int} (h : RowI w g l) {a : Addr} (ha : g ≠ a.block) (v : Value) : RowI (w.setCell a v) g l := by
  unfold RowI at h ⊢
  rw [Below.heap_setCell _ _ _ _ ha]; exact h

/-- A full row is its block. -/
theorem full_block {w : World} {base g n : Nat} {e : TypeId} {xs : List Value} (h : w.ownsRow base e 1 (.slice (some ⟨g, 0, none⟩) n n) n xs) : w.heap[g]? = some (.cells xs.toArray e (0, 0)) := by
  obtain ⟨_, h | ⟨g', cap, cur, hv, _, hh, _, _, hs, ht⟩⟩ := h
  · simp at h
  · simp at hv
    obtain ⟨rfl, rfl⟩ := hv
    rw [hh, ← ht, List.take_of_length_le (by simp; omega)]

theorem made_S {w : World} {base g n : Nat} (h : w.ownsRow base 9 1 (.slice (some ⟨g, 0, none⟩) n n) n (madeCells (Value.string ByteArray.empty).cells (n * 1)).toList) : RowS w g (List.replicate n ByteArray.empty) := by
  have h1 := full_block h
  unfold RowS
  rw [h1, show (Value.string ByteArray.empty).cells = #[.string ByteArray.empty] from rfl, toList_madeCells_one, Nat.mul_one, List.map_replicate]
theorem made_I {w : World} {base g n : Nat} (h : w.ownsRow base 3 1 (.slice (some ⟨g, 0, none⟩) n n) n (madeCells (Value.int .i64 0).cells (n * 1)).toList) : RowI w g (List.replicate n 0) := by
  have h1 := full_block h
  unfold RowI
  rw [h1, show (Value.int .i64 0).cells = #[.int .i64 0] from rfl, toList_madeCells_one, Nat.mul_one, List.map_replicate]
theorem RowS.grown {w w' : World} {g : Nat} {l : List ByteArray} (h : RowS w g l) (hg : w.grownBy w' none) : RowS w' g l := by
  unfold RowS at h ⊢
  rw [hg.block g (by have := (Array.getElem?_eq_some_iff.1 h).1; exact this) (by simp)]; exact h
theorem RowI.grown {w w' : World} {g : Nat} {l : List Int} (h : RowI w g l) (hg : w.grownBy w' none) : RowI w' g l := by
  unfold RowI at h ⊢
  rw [hg.block g (by have := (Array.getElem?_eq_some_iff.1 h).1; exact this) (by simp)]; exact h
theorem RowS.lt {w : World} {g : Nat} {l : List ByteArray} (h : RowS w g l) : g < w.heap.size := (Array.getElem?_eq_some_iff.1 h).1
theorem RowI.lt {w : World} {g : Nat} {l : List Int} (h : RowI w g l) : g < w.heap.size := (Array.getElem?_eq_some_iff.1 h).1

/-- The three rows bear the first j memberships. -/
def Bear (ms : List Mem) (j : Nat) (l1 : List ByteArray) (l2 : List Int) (l3 : List ByteArray) : Prop :=
  ∀ i m, i < j → ms[i]? = some m → l1[i]? = some m.g ∧ l2[i]? = some m.k ∧ l3[i]? = some m.s

theorem Bear.step {ms : List Mem} {j n : Nat} {l1 : List ByteArray} {l2 : List Int} {l3 : List ByteArray} (h : Bear ms j l1 l2 l3) {m : Mem} (hm : ms[j]? = some m) (h1 : l1.length = n) (h2 : l2.length = n) (h3 : l3.length = n) (hj : j < n) :
    Bear ms (j + 1) (l1.set j m.g) (l2.set j m.k) (l3.set j m.s) := by
  intro i m' hi hm'
  by_cases e : i = j
  · subst e
    rw [hm] at hm'
    cases hm'
    exact ⟨List.getElem?_set_self (by omega), List.getElem?_set_self (by omega), List.getElem?_set_self (by omega)⟩
  · rw [List.getElem?_set_ne (Ne.symm e), List.getElem?_set_ne (Ne.symm e), List.getElem?_set_ne (Ne.symm e)]
    exact h i m' (by omega) hm'

/-- Three rows that hold the memberships L. -/
def Rows3 (w : World) (g1 g2 g3 : Nat) (L : List Mem) : Prop :=
  ∀ j m, L[j]? = some m → w.cell? ⟨g1, j, none⟩ = some (.string m.g) ∧ w.cell? ⟨g2, j, none⟩ = some (.int .i64 m.k) ∧ w.cell? ⟨g3, j, none⟩ = some (.string m.s)

/-- What the split hands back. -/
def SplitEnd (w : World) (L : List Mem) (e : Ending) (w' : World) : Prop :=
  ∃ g1 g2 g3, e = .returned (.tuple #[.slice (some ⟨g1, 0, none⟩) L.length L.length, .slice (some ⟨g2, 0, none⟩) L.length L.length, .slice (some ⟨g3, 0, none⟩) L.length L.length]) ∧ Rows3 w' g1 g2 g3 L ∧ Below w.heap.size w w' ∧ g1 < w'.heap.size ∧ g2 < w'.heap.size ∧ g3 < w'.heap.size

set_option maxHeartbeats 2000000 in
theorem split_false (ao : Option Addr) (cap : Nat) (ms : List Mem) (x : Mem) (w : World) (hms : MS w ao ms) (hl : ms.length ≤ 65536) :
    Calls Try.prog 8 #[.slice ao ms.length cap, .agg #[.string x.g, .int .i64 x.k, .string x.s], .bool false] w fun e w' => SplitEnd w ms e w' := by
  obtain ⟨i9, hi9, hz0, hz1, hz2⟩ := info_parts info9
  obtain ⟨i3, hi3, hy0, hy1, hy2⟩ := info_parts info3
  have tok1 : True := trivial
  have tok2 : True := trivial
  have tok3 : True := trivial
  go_enter Try.func8, Try.ntmps8
  go_wp2_with (first
    | (at_make; have _t := tok1; refine wpList_make_full _ rfl _ _ 25 rfl w.heap.size 9 i9 (.string ByteArray.empty) 1 Try.underlying25 hi9 hz0 hz1 _ _ _ _ ms.length rfl rfl (by omega) (by omega) (by rw [hz2]; omega) (by unfold maxLen; omega) (by simp) ?_; intro w1 hown1 hg1; clear _t tok1)
    | (at_make; have _t := tok2; refine wpList_make_full _ rfl _ _ 26 rfl w.heap.size 3 i3 (.int .i64 0) 1 Try.underlying26 hi3 hy0 hy1 _ _ _ _ ms.length rfl rfl (by omega) (by omega) (by rw [hy2]; omega) (by unfold maxLen; omega) (by have := hg1.size; simp at this; omega) ?_; intro w2 hown2 hg2; clear _t tok2)
    | (at_make; have _t := tok3; refine wpList_make_full _ rfl _ _ 25 rfl w.heap.size 9 i9 (.string ByteArray.empty) 1 Try.underlying25 hi9 hz0 hz1 _ _ _ _ ms.length rfl rfl (by omega) (by omega) (by rw [hz2]; omega) (by unfold maxLen; omega) (by have := hg1.size; have := hg2.size; simp at *; omega) ?_; intro w3 hown3 hg3; clear _t tok3))
  have s1 := hg1.size
  have s2 := hg2.size
  have s3 := hg3.size
  have r1 := ((made_S hown1).grown hg2).grown hg3
  have r2 := (made_I hown2).grown hg3
  have r3 := made_S hown3
  have q1 := (made_S hown1).lt
  have q2 := (made_I hown2).lt
  have q3 := (made_S hown3).lt
  have hb0 : Below (w.heap.size + 1) (w.alloc (.cells #[.string x.g, .int .i64 x.k, .string x.s] 30)) w3 :=
    (((Below.refl _ _).grown hg1 (by simp) (by simp)).grown hg2 (by simp at s1; omega) (by simp)).grown hg3 (by simp at s1; omega) (by simp)
  simp only [World.size_alloc] at r1 q1 s1
  generalize hG2 : w1.heap.size = G2 at *
  generalize hG3 : w2.heap.size = G3 at *
  clear hown1 hown2 hown3 hg1 hg2 hg3 hG2 hG3
  go_loopw [13] (fun i wr => ∃ (j : Nat) (l1 : List ByteArray) (l2 : List Int) (l3 : List ByteArray), j ≤ ms.length ∧ i = .int .i64 j ∧ RowS wr (w.heap.size + 1) l1 ∧ RowI wr G2 l2 ∧ RowS wr G3 l3 ∧ l1.length = ms.length ∧ l2.length = ms.length ∧ l3.length = ms.length ∧ Bear ms j l1 l2 l3 ∧
      Below (w.heap.size + 1) (w.alloc (.cells #[.string x.g, .int .i64 x.k, .string x.s] 30)) wr ∧ G3 < wr.heap.size) (fun i _ => ms.length - (intOf i).toNat)
  case atStart => exact ⟨0, _, _, _, by omega, rfl, r1, r2, r3, by simp, by simp, by simp, fun i m hi => by omega, hb0, q3⟩
  case round =>
    clear r1 r2 r3 hb0 q3 s3
    obtain ⟨j, l1, l2, l3, hj, rfl, r1, r2, r3, h1, h2, h3, hbear, hbel, q3⟩ := hrel
    by_cases hlt : j < ms.length
    · obtain ⟨b, off, rfl, hc⟩ := hms (by omega)
      obtain ⟨m, hm⟩ : ∃ m, ms[j]? = some m := ⟨ms[j], by simp [hlt]⟩
      obtain ⟨c0, c1, c2⟩ := hc j m hm
      have hbw : b < w.heap.size := lt_of_cell c0
      have d0 : wr.cell? ⟨b, off + j * 3, none⟩ = some (.string m.g) := by rw [hbel.cell (by show b < _; omega), World.cell?_alloc_lt _ _ _ (by exact hbw)]; exact c0
      have d1 : wr.cell? ⟨b, off + j * 3 + 1, none⟩ = some (.int .i64 m.k) := by rw [hbel.cell (by show b < _; omega), World.cell?_alloc_lt _ _ _ (by exact hbw)]; exact c1
      have d2 : wr.cell? ⟨b, off + j * 3 + 2, none⟩ = some (.string m.s) := by rw [hbel.cell (by show b < _; omega), World.cell?_alloc_lt _ _ _ (by exact hbw)]; exact c2
      obtain ⟨y1, hy1⟩ : ∃ y, l1[j]? = some y := ⟨l1[j], by simp⟩
      obtain ⟨y2, hy2⟩ : ∃ y, l2[j]? = some y := ⟨l2[j], by simp⟩
      obtain ⟨y3, hy3⟩ : ∃ y, l3[j]? = some y := ⟨l3[j], by simp⟩
      have e1 := r1.cell hy1
      have e2 := r2.cell hy2
      have e3 := r3.cell hy3
      have f1 := r1.free
      have f2 := r2.free
      have f3 := r3.free
      have n1 : ¬ b = w.heap.size + 1 := by omega
      have n2 : ¬ b = G2 := by omega
      have n3 : ¬ b = G3 := by omega
      have n4 : ¬ w.heap.size + 1 = G2 := by omega
      have n5 : ¬ w.heap.size + 1 = G3 := by omega
      have n6 : ¬ G2 = G3 := by omega
      have n1' : ¬ w.heap.size + 1 = b := by omega
      have n2' : ¬ G2 = b := by omega
      have n3' : ¬ G3 = b := by omega
      have n4' : ¬ G2 = w.heap.size + 1 := by omega
      have n5' : ¬ G3 = w.heap.size + 1 := by omega
      have n6' : ¬ G3 = G2 := by omega
      have HB := hbear.step hm h1 h2 h3 (by omega)
      have HL : Hid (l1.length = ms.length ∧ l2.length = ms.length ∧ l3.length = ms.length) := ⟨h1, h2, h3⟩
      clear hm hc c0 c1 c2 hy1 hy2 hy3 h1 h2 h3
      go_wp2
      go_roundw
      case rel =>
        exact ⟨j + 1, l1.set j m.g, l2.set j m.k, l3.set j m.s, by omega, by go_num, ((r1.set j m.g).other n4 _).other n5 _, ((r2.other n4' _).set j m.k).other n6 _, ((r3.other n5' _).other n6' _).set j m.s,
          by rw [List.length_set]; exact HL.out.1, by rw [List.length_set]; exact HL.out.2.1, by rw [List.length_set]; exact HL.out.2.2, HB,
          ((hbel.setCell (Nat.le_refl _) _).setCell (by show _ ≤ G2; omega) _).setCell (by show _ ≤ G3; omega) _, by simpa [World.setCell] using q3⟩
      case measure => simp [intOf]; omega
    · go_wp2
      go_ret3
      refine ⟨_, _, _, rfl, fun i m hi => ?_, (((Below.refl _ _).alloc (Nat.le_refl _) _).trans (hbel.mono (by omega))), by omega, by omega, by omega⟩
      obtain ⟨b1, b2, b3⟩ := hbear i m (by have := (List.getElem?_eq_some_iff.1 hi).1; omega) hi
      exact ⟨r1.cell b1, r2.cell b2, r3.cell b3⟩

set_option maxHeartbeats 2000000 in
theorem split_true (ao : Option Addr) (cap : Nat) (ms : List Mem) (x : Mem) (w : World) (hms : MS w ao ms) (hl : ms.length ≤ 65536) :
    Calls Try.prog 8 #[.slice ao ms.length cap, .agg #[.string x.g, .int .i64 x.k, .string x.s], .bool true] w fun e w' => SplitEnd w (ms ++ [x]) e w' := by
  obtain ⟨i9, hi9, hz0, hz1, hz2⟩ := info_parts info9
  obtain ⟨i3, hi3, hy0, hy1, hy2⟩ := info_parts info3
  have tok1 : True := trivial
  have tok2 : True := trivial
  have tok3 : True := trivial
  go_enter Try.func8, Try.ntmps8
  go_wp2_with (first
    | (at_make; have _t := tok1; refine wpList_make_full _ rfl _ _ 25 rfl w.heap.size 9 i9 (.string ByteArray.empty) 1 Try.underlying25 hi9 hz0 hz1 _ _ _ _ (ms.length + 1) rfl rfl (by omega) (by omega) (by rw [hz2]; omega) (by unfold maxLen; omega) (by simp) ?_; intro w1 hown1 hg1; clear _t tok1)
    | (at_make; have _t := tok2; refine wpList_make_full _ rfl _ _ 26 rfl w.heap.size 3 i3 (.int .i64 0) 1 Try.underlying26 hi3 hy0 hy1 _ _ _ _ (ms.length + 1) rfl rfl (by omega) (by omega) (by rw [hy2]; omega) (by unfold maxLen; omega) (by have := hg1.size; simp at this; omega) ?_; intro w2 hown2 hg2; clear _t tok2)
    | (at_make; have _t := tok3; refine wpList_make_full _ rfl _ _ 25 rfl w.heap.size 9 i9 (.string ByteArray.empty) 1 Try.underlying25 hi9 hz0 hz1 _ _ _ _ (ms.length + 1) rfl rfl (by omega) (by omega) (by rw [hz2]; omega) (by unfold maxLen; omega) (by have := hg1.size; have := hg2.size; simp at *; omega) ?_; intro w3 hown3 hg3; clear _t tok3))
  have s1 := hg1.size
  have s2 := hg2.size
  have s3 := hg3.size
  have r1 := ((made_S hown1).grown hg2).grown hg3
  have r2 := (made_I hown2).grown hg3
  have r3 := made_S hown3
  have q1 := (made_S hown1).lt
  have q2 := (made_I hown2).lt
  have q3 := (made_S hown3).lt
  have hb0 : Below (w.heap.size + 1) (w.alloc (.cells #[.string x.g, .int .i64 x.k, .string x.s] 30)) w3 :=
    (((Below.refl _ _).grown hg1 (by simp) (by simp)).grown hg2 (by simp at s1; omega) (by simp)).grown hg3 (by simp at s1; omega) (by simp)
  simp only [World.size_alloc] at r1 q1 s1
  generalize hG2 : w1.heap.size = G2 at *
  generalize hG3 : w2.heap.size = G3 at *
  clear hown1 hown2 hown3 hg1 hg2 hg3 hG2 hG3
  go_loopw [13] (fun i wr => ∃ (j : Nat) (l1 : List ByteArray) (l2 : List Int) (l3 : List ByteArray), j ≤ ms.length ∧ i = .int .i64 j ∧ RowS wr (w.heap.size + 1) l1 ∧ RowI wr G2 l2 ∧ RowS wr G3 l3 ∧ l1.length = (ms.length + 1) ∧ l2.length = (ms.length + 1) ∧ l3.length = (ms.length + 1) ∧ Bear ms j l1 l2 l3 ∧
      Below (w.heap.size + 1) (w.alloc (.cells #[.string x.g, .int .i64 x.k, .string x.s] 30)) wr ∧ G3 < wr.heap.size) (fun i _ => ms.length - (intOf i).toNat)
  case atStart => exact ⟨0, _, _, _, by omega, rfl, r1, r2, r3, by simp, by simp, by simp, fun i m hi => by omega, hb0, q3⟩
  case round =>
    clear r1 r2 r3 hb0 q3 s3
    obtain ⟨j, l1, l2, l3, hj, rfl, r1, r2, r3, h1, h2, h3, hbear, hbel, q3⟩ := hrel
    by_cases hlt : j < ms.length
    · obtain ⟨b, off, rfl, hc⟩ := hms (by omega)
      obtain ⟨m, hm⟩ : ∃ m, ms[j]? = some m := ⟨ms[j], by simp [hlt]⟩
      obtain ⟨c0, c1, c2⟩ := hc j m hm
      have hbw : b < w.heap.size := lt_of_cell c0
      have d0 : wr.cell? ⟨b, off + j * 3, none⟩ = some (.string m.g) := by rw [hbel.cell (by show b < _; omega), World.cell?_alloc_lt _ _ _ (by exact hbw)]; exact c0
      have d1 : wr.cell? ⟨b, off + j * 3 + 1, none⟩ = some (.int .i64 m.k) := by rw [hbel.cell (by show b < _; omega), World.cell?_alloc_lt _ _ _ (by exact hbw)]; exact c1
      have d2 : wr.cell? ⟨b, off + j * 3 + 2, none⟩ = some (.string m.s) := by rw [hbel.cell (by show b < _; omega), World.cell?_alloc_lt _ _ _ (by exact hbw)]; exact c2
      obtain ⟨y1, hy1⟩ : ∃ y, l1[j]? = some y := ⟨l1[j], by simp⟩
      obtain ⟨y2, hy2⟩ : ∃ y, l2[j]? = some y := ⟨l2[j], by simp⟩
      obtain ⟨y3, hy3⟩ : ∃ y, l3[j]? = some y := ⟨l3[j], by simp⟩
      have e1 := r1.cell hy1
      have e2 := r2.cell hy2
      have e3 := r3.cell hy3
      have f1 := r1.free
      have f2 := r2.free
      have f3 := r3.free
      have n1 : ¬ b = w.heap.size + 1 := by omega
      have n2 : ¬ b = G2 := by omega
      have n3 : ¬ b = G3 := by omega
      have n4 : ¬ w.heap.size + 1 = G2 := by omega
      have n5 : ¬ w.heap.size + 1 = G3 := by omega
      have n6 : ¬ G2 = G3 := by omega
      have n1' : ¬ w.heap.size + 1 = b := by omega
      have n2' : ¬ G2 = b := by omega
      have n3' : ¬ G3 = b := by omega
      have n4' : ¬ G2 = w.heap.size + 1 := by omega
      have n5' : ¬ G3 = w.heap.size + 1 := by omega
      have n6' : ¬ G3 = G2 := by omega
      have HB := hbear.step hm h1 h2 h3 (by omega)
      have HL : Hid (l1.length = (ms.length + 1) ∧ l2.length = (ms.length + 1) ∧ l3.length = (ms.length + 1)) := ⟨h1, h2, h3⟩
      clear hm hc c0 c1 c2 hy1 hy2 hy3 h1 h2 h3
      go_wp2
      go_roundw
      case rel =>
        exact ⟨j + 1, l1.set j m.g, l2.set j m.k, l3.set j m.s, by omega, by go_num, ((r1.set j m.g).other n4 _).other n5 _, ((r2.other n4' _).set j m.k).other n6 _, ((r3.other n5' _).other n6' _).set j m.s,
          by rw [List.length_set]; exact HL.out.1, by rw [List.length_set]; exact HL.out.2.1, by rw [List.length_set]; exact HL.out.2.2, HB,
          ((hbel.setCell (Nat.le_refl _) _).setCell (by show _ ≤ G2; omega) _).setCell (by show _ ≤ G3; omega) _, by simpa [World.setCell] using q3⟩
      case measure => simp [intOf]; omega
    · have x0 : wr.cell? ⟨w.heap.size, 0, none⟩ = some (.string x.g) := by rw [hbel.cell (by show w.heap.size < _; omega)]; simp
      have x1 : wr.cell? ⟨w.heap.size, 1, none⟩ = some (.int .i64 x.k) := by rw [hbel.cell (by show w.heap.size < _; omega)]; simp
      have x2 : wr.cell? ⟨w.heap.size, 2, none⟩ = some (.string x.s) := by rw [hbel.cell (by show w.heap.size < _; omega)]; simp
      obtain ⟨y1, hy1⟩ : ∃ y, l1[ms.length]? = some y := ⟨l1[ms.length], by simp⟩
      obtain ⟨y2, hy2⟩ : ∃ y, l2[ms.length]? = some y := ⟨l2[ms.length], by simp⟩
      obtain ⟨y3, hy3⟩ : ∃ y, l3[ms.length]? = some y := ⟨l3[ms.length], by simp⟩
      have e1 := r1.cell hy1
      have e2 := r2.cell hy2
      have e3 := r3.cell hy3
      have f1 := r1.free
      have f2 := r2.free
      have f3 := r3.free
      have n2 : ¬ w.heap.size = G2 := by omega
      have n3 : ¬ w.heap.size = G3 := by omega
      have n4 : ¬ w.heap.size + 1 = G2 := by omega
      have n5 : ¬ w.heap.size + 1 = G3 := by omega
      have n6 : ¬ G2 = G3 := by omega
      have n2' : ¬ G2 = w.heap.size := by omega
      have n3' : ¬ G3 = w.heap.size := by omega
      have n4' : ¬ G2 = w.heap.size + 1 := by omega
      have n5' : ¬ G3 = w.heap.size + 1 := by omega
      have n6' : ¬ G3 = G2 := by omega
      have HL : Hid (l1.length = (ms.length + 1) ∧ l2.length = (ms.length + 1) ∧ l3.length = (ms.length + 1)) := ⟨h1, h2, h3⟩
      have HJ : Hid (j = ms.length) := by show j = _; omega
      clear hy1 hy2 hy3 h1 h2 h3 hms
      go_wp2
      go_ret3
      have R1 := ((r1.set ms.length x.g).other (a := ⟨G2, ms.length, none⟩) n4 (.int .i64 x.k)).other (a := ⟨G3, ms.length, none⟩) n5 (.string x.s)
      have R2 := ((r2.other (a := ⟨w.heap.size + 1, ms.length, none⟩) n4' (.string x.g)).set ms.length x.k).other (a := ⟨G3, ms.length, none⟩) n6 (.string x.s)
      have R3 := ((r3.other (a := ⟨w.heap.size + 1, ms.length, none⟩) n5' (.string x.g)).other (a := ⟨G2, ms.length, none⟩) n6' (.int .i64 x.k)).set ms.length x.s
      have hb1 : Bear (ms ++ [x]) ms.length l1 l2 l3 := fun i m hi hm => hbear i m (by rw [HJ.out]; exact hi) (by rwa [List.getElem?_append_left hi] at hm)
      have hb2 := hb1.step (m := x) (by simp) HL.out.1 HL.out.2.1 HL.out.2.2 (by omega)
      refine ⟨w.heap.size + 1, G2, G3, by rw [List.length_append]; rfl, fun i m hi => ?_, ?_, by simp [World.setCell]; omega, by simp [World.setCell]; omega, by simpa [World.setCell] using q3⟩
      · obtain ⟨b1, b2, b3⟩ := hb2 i m (by have := (List.getElem?_eq_some_iff.1 hi).1; simpa using this) hi
        exact ⟨R1.cell b1, R2.cell b2, R3.cell b3⟩
      · exact (((Below.refl _ _).alloc (Nat.le_refl _) _).trans (((hbel.mono (by omega)).setCell (by show _ ≤ w.heap.size + 1; omega) _).setCell (by show _ ≤ G2; omega) _)).setCell (by show _ ≤ G3; omega) _
end Go.Proofs.Qxb6600451a
