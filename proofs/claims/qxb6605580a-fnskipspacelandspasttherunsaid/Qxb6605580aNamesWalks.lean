/-
  The walks of the small functions over a slice of strings.
-/
import Derived.Test.Qxb6605580aRows
import Derived.WalkKit
import Derived.WalkSpells
import Derived.WalkLawsBesides
import Derived.ChangeAlike
import Derived.Deep.QuietTactic
import Derived.BigQuiet
import Derived.Laws.CopyOwn
import Derived.Lib.SliceRun
namespace Go.Proofs.Qxb6605580a
open Go.RowKit

/-- The slice at 'ao' holds the strings ss, in the world w. -/
def SS (w : World) (ao : Option Addr) (ss : List ByteArray) : Prop :=
  0 < ss.length → ∃ b off, ao = some ⟨b, off, none⟩ ∧ ∀ j s, ss[j]? = some s → w.cell? ⟨b, off + j, none⟩ = some (.string s)

def AnyBool (e : Ending) : Prop := ∃ b, e = .returned (.bool b)
def AnyInt (e : Ending) : Prop := ∃ z, e = .returned (.int .i64 z)
theorem anyBool_mk (b : Bool) : AnyBool (.returned (.bool b)) := ⟨b, rfl⟩
theorem anyInt_mk (z : Int) : AnyInt (.returned (.int .i64 z)) := ⟨z, rfl⟩

set_option maxHeartbeats 400000 in
/-- zzBytes_FnRepeatsMarksEarlierNames: some bool; it only reads. -/
theorem zz7_any (ao : Option Addr) (cap : Nat) (ss : List ByteArray) (w : World) (hss : SS w ao ss) (hl : ss.length ≤ maxLen) (hz : ∀ s ∈ ss, s.size ≤ maxLen) :
    Calls Try.prog 7 #[.slice ao ss.length cap] w fun e w' => AnyBool e ∧ w = w' := by
  unfold maxLen at hl hz
  by_cases hbig : (1048576 : Int) < (ss.length : Int)
  · go_enter Try.func7, Try.ntmps7
    go_wp2
    go_ret
    exact ⟨anyBool_mk _, rfl⟩
  by_cases h0 : ss.length = 0
  · go_enter Try.func7, Try.ntmps7
    go_wp2
    go_loop [4] (fun i => i = .int .i64 0) (fun _ => 0)
    case atStart => rfl
    case round =>
      subst hrel
      go_wp2
      go_ret
      exact ⟨anyBool_mk _, rfl⟩
  obtain ⟨b, off, rfl, hc⟩ := hss (by omega)
  go_enter Try.func7, Try.ntmps7
  go_wp2
  go_loop [3, 4] (fun t i => ∃ (z : Int) (k : Nat), k ≤ ss.length ∧ 0 ≤ z ∧ z ≤ 1048576 ∧ i = .int .i64 k ∧ t = .int .i64 z) (fun _ i => ss.length - (intOf i).toNat)
  case atStart => exact ⟨_, 0, by omega, by omega, by omega, rfl, rfl⟩
  case round =>
    obtain ⟨z, k, hk, hz0, hz1, rfl, rfl⟩ := hrel
    by_cases hlt : k < ss.length
    · obtain ⟨s, hs⟩ : ∃ s, ss[k]? = some s := ⟨ss[k], by simp [hlt]⟩
      have hcx := hc k s hs
      have hsz := hz s (List.mem_of_getElem? hs)
      clear hs hc hz
      go_wp2
      case roundEnd =>
        go_round
        case rel => exact ⟨_, k + 1, by omega, by omega, by omega, by go_num, rfl⟩
        case measure => simp [intOf]; omega
      all_goals
        go_ret
        exact ⟨anyBool_mk _, rfl⟩
    · go_wp2
      go_ret
      exact ⟨anyBool_mk _, rfl⟩

set_option maxHeartbeats 400000 in
/-- zzBytes_FnRepeatsRemembersEveryName: some bool; it only reads. -/
theorem zz12_any (ao : Option Addr) (cap : Nat) (ss : List ByteArray) (w : World) (hss : SS w ao ss) (hl : ss.length ≤ maxLen) (hz : ∀ s ∈ ss, s.size ≤ maxLen) :
    Calls Try.prog 12 #[.slice ao ss.length cap] w fun e w' => AnyBool e ∧ w = w' := by
  unfold maxLen at hl hz
  by_cases hbig : (1048576 : Int) < (ss.length : Int)
  · go_enter Try.func12, Try.ntmps12
    go_wp2
    go_ret
    exact ⟨anyBool_mk _, rfl⟩
  by_cases h0 : ss.length = 0
  · go_enter Try.func12, Try.ntmps12
    go_wp2
    go_loop [4] (fun i => i = .int .i64 0) (fun _ => 0)
    case atStart => rfl
    case round =>
      subst hrel
      go_wp2
      go_ret
      exact ⟨anyBool_mk _, rfl⟩
  obtain ⟨b, off, rfl, hc⟩ := hss (by omega)
  go_enter Try.func12, Try.ntmps12
  go_wp2
  go_loop [3, 4] (fun t i => ∃ (z : Int) (k : Nat), k ≤ ss.length ∧ 0 ≤ z ∧ z ≤ 1048576 ∧ i = .int .i64 k ∧ t = .int .i64 z) (fun _ i => ss.length - (intOf i).toNat)
  case atStart => exact ⟨_, 0, by omega, by omega, by omega, rfl, rfl⟩
  case round =>
    obtain ⟨z, k, hk, hz0, hz1, rfl, rfl⟩ := hrel
    by_cases hlt : k < ss.length
    · obtain ⟨s, hs⟩ : ∃ s, ss[k]? = some s := ⟨ss[k], by simp [hlt]⟩
      have hcx := hc k s hs
      have hsz := hz s (List.mem_of_getElem? hs)
      clear hs hc hz
      go_wp2
      case roundEnd =>
        go_round
        case rel => exact ⟨_, k + 1, by omega, by omega, by omega, by go_num, rfl⟩
        case measure => simp [intOf]; omega
      all_goals
        go_ret
        exact ⟨anyBool_mk _, rfl⟩
    · go_wp2
      go_ret
      exact ⟨anyBool_mk _, rfl⟩

set_option maxHeartbeats 400000 in
/-- namesBytesB1: some int; it only reads. -/
theorem nb_any (ao : Option Addr) (cap : Nat) (ss : List ByteArray) (w : World) (hss : SS w ao ss) (hl : ss.length ≤ 65536) (hz : ∀ s ∈ ss, s.size ≤ maxLen) :
    Calls Try.prog 8 #[.slice ao ss.length cap] w fun e w' => AnyInt e ∧ w = w' := by
  unfold maxLen at hz
  by_cases h0 : ss.length = 0
  · go_enter Try.func8, Try.ntmps8
    go_wp2
    go_loop [3, 4] (fun t i => t = .int .i64 0 ∧ i = .int .i64 0) (fun _ _ => 0)
    case atStart => exact ⟨rfl, rfl⟩
    case round =>
      obtain ⟨rfl, rfl⟩ := hrel
      go_wp2
      go_ret
      exact ⟨anyInt_mk _, rfl⟩
  obtain ⟨b, off, rfl, hc⟩ := hss (by omega)
  go_enter Try.func8, Try.ntmps8
  go_wp2
  go_loop [3, 4] (fun t i => ∃ (z : Int) (k : Nat), k ≤ ss.length ∧ 0 ≤ z ∧ z ≤ 1048576 ∧ i = .int .i64 k ∧ t = .int .i64 z) (fun _ i => ss.length - (intOf i).toNat)
  case atStart => exact ⟨_, 0, by omega, by omega, by omega, rfl, rfl⟩
  case round =>
    obtain ⟨z, k, hk, hz0, hz1, rfl, rfl⟩ := hrel
    by_cases hlt : k < ss.length
    · obtain ⟨s, hs⟩ : ∃ s, ss[k]? = some s := ⟨ss[k], by simp [hlt]⟩
      have hcx := hc k s hs
      have hsz := hz s (List.mem_of_getElem? hs)
      clear hs hc hz
      go_wp2
      case roundEnd =>
        go_round
        case rel => exact ⟨_, k + 1, by omega, by omega, by omega, by go_num, rfl⟩
        case measure => simp [intOf]; omega
      all_goals
        go_ret
        exact ⟨anyInt_mk _, rfl⟩
    · go_wp2
      go_ret
      exact ⟨anyInt_mk _, rfl⟩

theorem ret_bool {a b : Bool} (h : a = b) : Ending.returned (.bool a) = .returned (.bool b) := by rw [h]
theorem ret_int {k : IntKind} {a b : Int} (h : a = b) : Ending.returned (.int k a) = .returned (.int k b) := by rw [h]

/-- Is x among the strings l? -/
def memB (x : ByteArray) (l : List ByteArray) : Bool := l.any fun y => x.toList == y.toList

theorem memB_nil (x : ByteArray) : memB x [] = false := rfl
theorem memB_append (x : ByteArray) (l m : List ByteArray) : memB x (l ++ m) = (memB x l || memB x m) := by simp [memB]
theorem memB_one (x y : ByteArray) : memB x [y] = (x.toList == y.toList) := by simp [memB]
theorem memB_take_succ (x : ByteArray) (l : List ByteArray) (k : Nat) (s : ByteArray) (h : l[k]? = some s) : memB x (l.take (k + 1)) = (memB x (l.take k) || x.toList == s.toList) := by
  rw [List.take_add_one, h, memB_append]; simp [memB]
theorem memB_hit (x : ByteArray) (l : List ByteArray) (k : Nat) (s : ByteArray) (h : l[k]? = some s) (e : (x.toList == s.toList) = true) : memB x l = true :=
  List.any_eq_true.2 ⟨s, List.mem_of_getElem? h, e⟩
theorem beq_swap {α : Type} [BEq α] [LawfulBEq α] (a b : α) : (a == b) = (b == a) := by
  rw [Bool.eq_iff_iff]; simp; exact eq_comm

set_option maxHeartbeats 400000 in
/-- slices.Index: the first place of x, or -1; here: is it there? -/
theorem index_any (ao : Option Addr) (cap : Nat) (ss : List ByteArray) (x : ByteArray) (w : World) (hss : SS w ao ss) (hl : ss.length ≤ maxLen) :
    Calls Try.prog 29 #[.slice ao ss.length cap, .string x] w fun e w' => (∃ z : Int, e = .returned (.int .i64 z) ∧ decide (0 ≤ z) = memB x ss) ∧ w = w' := by
  unfold maxLen at hl
  by_cases h0 : ss.length = 0
  · have hn : ss = [] := List.eq_nil_of_length_eq_zero h0
    subst hn
    go_enter Try.func29, Try.ntmps29
    go_wp2
    go_loop [8] (fun i => i = .int .i64 0) (fun _ => 0)
    case atStart => rfl
    case round =>
      subst hrel
      go_wp2
      go_ret
      exact ⟨⟨_, rfl, rfl⟩, rfl⟩
  obtain ⟨b, off, rfl, hc⟩ := hss (by omega)
  go_enter Try.func29, Try.ntmps29
  go_wp2
  go_loop [8] (fun i => ∃ k : Nat, k ≤ ss.length ∧ memB x (ss.take k) = false ∧ i = .int .i64 k) (fun i => ss.length - (intOf i).toNat)
  case atStart => exact ⟨0, by omega, rfl, rfl⟩
  case round =>
    obtain ⟨k, hk, hm, rfl⟩ := hrel
    have HM : Hid (memB x (ss.take k) = false) := hm
    clear hm
    by_cases hlt : k < ss.length
    · obtain ⟨s, hs⟩ : ∃ s, ss[k]? = some s := ⟨ss[k], by simp [hlt]⟩
      have hcx := hc k s hs
      have HS : Hid (ss[k]? = some s) := hs
      clear hs hc
      go_wp2
      case roundEnd =>
        have hne : (x.toList == s.toList) = false := by assumption
        go_round
        case rel => exact ⟨k + 1, by omega, by rw [memB_take_succ x ss k s HS.out, HM.out, hne]; rfl, by go_num⟩
        case measure => simp [intOf]; omega
      all_goals
        have heq : (x.toList == s.toList) = true := by assumption
        go_ret
        exact ⟨⟨_, rfl, by rw [memB_hit x ss k s HS.out heq]; simp⟩, rfl⟩
    · go_wp2
      go_ret
      exact ⟨⟨_, rfl, by have h := HM.out; rw [List.take_of_length_le (by omega)] at h; rw [h]; rfl⟩, rfl⟩

/-- slices.Contains. -/
theorem contains_any (ao : Option Addr) (cap : Nat) (ss : List ByteArray) (x : ByteArray) (w : World) (hss : SS w ao ss) (hl : ss.length ≤ maxLen) :
    Calls Try.prog 27 #[.slice ao ss.length cap, .string x] w fun e w' => e = .returned (.bool (memB x ss)) ∧ w = w' := by
  go_enter Try.func27, Try.ntmps27
  go_wp2_with (go_at_call 29; refine (index_any ao cap ss x _ hss hl).mono ?_; rintro e w' ⟨⟨z, rfl, hz⟩, rfl⟩)
  go_ret
  exact ⟨ret_bool rfl, rfl⟩

theorem isNaN_any (x : ByteArray) (w : World) : Calls Try.prog 32 #[.string x] w fun e w' => e = .returned (.bool false) ∧ w = w' := by
  go_enter Try.func32, Try.ntmps32
  go_wp2
  go_ret
  exact ⟨by simp, rfl⟩

theorem less_any (x y : ByteArray) (w : World) : Calls Try.prog 31 #[.string x, .string y] w fun e w' => e = .returned (.bool (Op.bytesLess x.toList y.toList)) ∧ w = w' := by
  go_enter Try.func31, Try.ntmps31
  go_wp2_with (go_at_call 32; refine (isNaN_any _ _).mono ?_; rintro e w' ⟨rfl, rfl⟩)
  go_ret
  exact ⟨rfl, rfl⟩

set_option maxHeartbeats 400000 in
/-- givenBeforeB1: was the i-th name given before? -/
theorem given_any (b off cap : Nat) (ss : List ByteArray) (i : Nat) (x : ByteArray) (hi : ss[i]? = some x) (w : World) (hl : ss.length ≤ 65536)
    (hc : ∀ j s, ss[j]? = some s → w.cell? ⟨b, off + j, none⟩ = some (.string s)) :
    Calls Try.prog 11 #[.slice (some ⟨b, off, none⟩) ss.length cap, .int .i64 i] w fun e w' => e = .returned (.bool (memB x (ss.take i))) ∧ ∃ m, w' = w.drewN m := by
  have hci := hc i x hi
  have hin : i < ss.length := (List.getElem?_eq_some_iff.1 hi).1
  have HI : Hid (ss[i]? = some x) := hi
  clear hi
  go_enter Try.func11, Try.ntmps11
  go_wp2
  go_loopw [5] (fun t wr => ∃ k m : Nat, k ≤ i ∧ memB x (ss.take k) = false ∧ t = .int .i64 k ∧ wr = w.drewN m) (fun t _ => i - (intOf t).toNat)
  case atStart => exact ⟨0, 0, by omega, rfl, rfl, rfl⟩
  case round =>
    obtain ⟨k, m, hk, hm, rfl, rfl⟩ := hrel
    have HM : Hid (memB x (ss.take k) = false) := hm
    clear hm
    by_cases hlt : k < i
    · obtain ⟨s, hs⟩ : ∃ s, ss[k]? = some s := ⟨ss[k], by simp⟩
      have hcx := hc k s hs
      have HS : Hid (ss[k]? = some s) := hs
      have hkl : k < ss.length := by omega
      clear hs hc
      go_wp2
      go_quiet (fail)
      go_wp2
      case roundEnd =>
        have hne : (s.toList == x.toList) = false := by assumption
        go_roundw
        case rel => exact ⟨k + 1, _, by omega, by rw [memB_take_succ x ss k s HS.out, HM.out, beq_swap, hne]; rfl, by go_num, by first | rfl | exact World.drewN_drewN _ _ _⟩
        case measure => simp [intOf]; omega
      all_goals
        have heq : (s.toList == x.toList) = true := by assumption
        go_ret
        exact ⟨ret_bool (memB_hit x (ss.take i) k s (by rw [List.getElem?_take_of_lt hlt]; exact HS.out) (by rw [beq_swap]; exact heq)).symm, _, World.drewN_drewN _ _ _⟩
    · go_wp2
      go_ret
      exact ⟨ret_bool (by have h := HM.out; rw [show k = i by omega] at h; exact h.symm), m, rfl⟩

/-- 'Calls.quiet_of_same' for a contract that says 'w = w''. -/
theorem quiet_of_eq {P : Program} {f : FuncId} {args : Array Value} {w : World} {n : Nat} {v : Value}
    (h : Calls P f args (w.drewN n) fun e w' => e = .returned v ∧ w.drewN n = w') : Calls P f args (w.drewN n) fun e w'' => e = .returned v ∧ ∃ m, w'' = w.drewN m :=
  h.mono fun _ _ ⟨he, hm⟩ => ⟨he, n, hm.symm⟩

/-- wr is w with draws made. -/
def DrewFrom (w wr : World) : Prop := ∃ m, wr = w.drewN m
theorem DrewFrom.refl (w : World) : DrewFrom w w := ⟨0, rfl⟩
theorem DrewFrom.drewN {w wr : World} (h : DrewFrom w wr) (n : Nat) : DrewFrom w (wr.drewN n) := by obtain ⟨m, rfl⟩ := h; exact ⟨_, World.drewN_drewN _ _ _⟩
theorem DrewFrom.cell {w wr : World} (h : DrewFrom w wr) (a : Addr) : wr.cell? a = w.cell? a := by obtain ⟨m, rfl⟩ := h; rfl
theorem DrewFrom.below {w wr : World} (h : DrewFrom w wr) (B : Nat) : Below B w wr := by obtain ⟨m, rfl⟩ := h; exact ⟨rfl, rfl, rfl, Nat.le_refl _, fun _ _ => rfl⟩

/-- No string is below the one ahead of it. -/
def Asc (ss : List ByteArray) : Prop := ∀ j s t, ss[j]? = some s → ss[j + 1]? = some t → Op.bytesLess t.toList s.toList = false

def AscB (ss : List ByteArray) (e : Ending) : Prop := ∃ b, e = .returned (.bool b) ∧ (b = true → Asc ss)
theorem ascB_no (ss : List ByteArray) : AscB ss (.returned (.bool false)) := ⟨false, rfl, by simp⟩
theorem ascB_yes (ss : List ByteArray) (h : Asc ss) : AscB ss (.returned (.bool true)) := ⟨true, rfl, fun _ => h⟩

set_option maxHeartbeats 400000 in
/-- slices.IsSorted: if it says yes, the strings ascend. -/
theorem sorted_any (b off cap : Nat) (ss : List ByteArray) (w : World) (hl : ss.length ≤ 65536) (h1 : 0 < ss.length)
    (hc : ∀ j s, ss[j]? = some s → w.cell? ⟨b, off + j, none⟩ = some (.string s)) :
    Calls Try.prog 30 #[.slice (some ⟨b, off, none⟩) ss.length cap] w fun e w' => AscB ss e ∧ DrewFrom w w' := by
  go_enter Try.func30, Try.ntmps30
  go_wp2
  go_loopw [3] (fun t wr => ∃ k : Nat, k < ss.length ∧ (∀ j s t, k ≤ j → ss[j]? = some s → ss[j + 1]? = some t → Op.bytesLess t.toList s.toList = false) ∧ t = .int .i64 k ∧ DrewFrom w wr) (fun t _ => (intOf t).toNat)
  case atStart => exact ⟨ss.length - 1, by omega, fun j s t hj _ h => by have := (List.getElem?_eq_some_iff.1 h).1; omega, by go_num, DrewFrom.refl w⟩
  case round =>
    obtain ⟨k, hk, hm, rfl, hwr⟩ := hrel
    have HM : Hid (∀ j s t, k ≤ j → ss[j]? = some s → ss[j + 1]? = some t → Op.bytesLess t.toList s.toList = false) := hm
    clear hm
    by_cases hlt : 0 < k
    · obtain ⟨s, hs⟩ : ∃ s, ss[k - 1]? = some s := ⟨ss[k - 1], by simp⟩
      obtain ⟨t, ht⟩ : ∃ t, ss[k]? = some t := ⟨ss[k], by simp⟩
      have hcs : wr.cell? ⟨b, off + (k - 1), none⟩ = some (.string s) := by rw [hwr.cell]; exact hc (k - 1) s hs
      have hct : wr.cell? ⟨b, off + k, none⟩ = some (.string t) := by rw [hwr.cell]; exact hc k t ht
      have HS : Hid (ss[k - 1]? = some s) := hs
      have HT : Hid (ss[k]? = some t) := ht
      have hki : (k : Int) < (ss.length : Int) := by omega
      have hk0 : 0 ≤ (k : Int) - 1 := by omega
      have hwrap : IntKind.i64.wrap ((k : Int) - 1) = (k : Int) - 1 := by simp [IntKind.wrap, IntKind.bits, IntKind.signed]; omega
      have hka : (1 : Int) ≤ (k : Int) := by omega
      have hkb : 1 ≤ k := hlt
      have hkc : k ≤ ss.length := by omega
      have hkd : (k : Int) ≤ (ss.length : Int) := by omega
      have hk1 : (k : Int) - 1 < (ss.length : Int) := by omega
      clear hs ht hc
      go_wp2
      go_quiet ((go_at_call 31; exact quiet_of_eq (less_any _ _ _)))
      go_wp2
      case roundEnd =>
        have hne : Op.bytesLess t.toList s.toList = false := by assumption
        go_roundw
        case rel =>
          refine ⟨k - 1, by omega, fun j s' t' hj h1 h2 => ?_, by go_num, hwr.drewN _⟩
          by_cases e : j = k - 1
          · subst e
            rw [HS.out] at h1; rw [show k - 1 + 1 = k by omega, HT.out] at h2
            cases h1; cases h2; exact hne
          · exact HM.out j s' t' (by omega) h1 h2
        case measure => simp [intOf]; omega
      all_goals
        go_ret
        exact ⟨ascB_no _, hwr.drewN _⟩
    · go_wp2
      go_ret
      exact ⟨ascB_yes _ (fun j s t => HM.out j s t (by omega)), hwr⟩

theorem info9 : (Try.prog.info? 9).map (fun i => (i.zero, i.size, i.bytes)) = some (some (.string ByteArray.empty), 1, 16) := by kernel_rfl
theorem size9 : (Try.prog.info? 9).map (·.size) = some 1 := by kernel_rfl
theorem cells9 : Try.prog.cellsOf 9 = 1 := by kernel_rfl

/-- A full row is its block. -/
theorem full_block {w : World} {base g n : Nat} {e : TypeId} {xs : List Value} (h : w.ownsRow base e 1 (.slice (some ⟨g, 0, none⟩) n n) n xs) : w.heap[g]? = some (.cells xs.toArray e (0, 0)) := by
  obtain ⟨_, h | ⟨g', cap, cur, hv, _, hh, _, _, hs, ht⟩⟩ := h
  · simp at h
  · simp at hv
    obtain ⟨rfl, rfl⟩ := hv
    rw [hh, ← ht, List.take_of_length_le (by simp; omega)]
/-- .. and back. -/
theorem block_full {w : World} {base g n : Nat} {e : TypeId} {xs : List Value} (h : w.heap[g]? = some (.cells xs.toArray e (0, 0))) (hb : base ≤ g) (hl : xs.length = n) (hm : n ≤ maxLen) : w.ownsRow base e 1 (.slice (some ⟨g, 0, none⟩) n n) n xs :=
  ⟨by omega, .inr ⟨g, n, xs.toArray, rfl, hb, h, Nat.le_refl _, hm, by simp; omega, by rw [List.take_of_length_le (by simp; omega)]⟩⟩

theorem strs_oneCell (ss : List ByteArray) : ∀ v ∈ ss.map Value.string, v.oneCell' = true := by
  intro v hv
  obtain ⟨s, _, rfl⟩ := List.mem_map.1 hv
  rfl

theorem src_cells {w w1 : World} {ad : Addr} {ss : List ByteArray} (hss : SS w (some ad) ss) (hg : w.grownBy w1 none) :
    0 < (ss.map Value.string).length → some (⟨w.heap.size, 0, none⟩ : Addr) = some ⟨w.heap.size, 0, none⟩ ∧ ∃ a, some ad = some a ∧ ∀ j v, (ss.map Value.string)[j]? = some v → w1.cell? (a.add j) = some v := by
  intro hp
  obtain ⟨b, off, he, hc⟩ := hss (by simpa using hp)
  refine ⟨rfl, ad, rfl, fun j v hv => ?_⟩
  simp at he
  subst he
  rw [List.getElem?_map, Option.map_eq_some_iff] at hv
  obtain ⟨s, hs, rfl⟩ := hv
  have h := hc j s hs
  rw [← WideShapes.add_plain] at h
  exact hg.cell h (by simp)

def Cloned (ao : Option Addr) (n base : Nat) (v : Value) : Prop :=
  (ao = none ∧ v = .slice none 0 0) ∨ (ao ≠ none ∧ ∃ g, base ≤ g ∧ v = .slice (some ⟨g, 0, none⟩) n n)

set_option maxHeartbeats 400000 in
/-- cloneNamesB1: a fresh row that holds the same strings; nil stays nil. -/
theorem clone_any (ao : Option Addr) (cap : Nat) (ss : List ByteArray) (w : World) (hss : SS w ao ss) (hl : ss.length ≤ 65536) (hnil : ao = none → ss = []) :
    Calls Try.prog 9 #[.slice ao ss.length cap] w fun e w' => ∃ v, e = .returned v ∧ w'.ownsRow w.heap.size 9 1 v ss.length (ss.map .string) ∧ Below w.heap.size w w' ∧ Cloned ao ss.length w.heap.size v := by
  have q22 : ∀ (w : World) (a : Option Addr) (n c n' c' : Nat), (binOp .eql 22 (.slice a n c) (.slice none n' c')).run Try.prog w = .ok (.bool a.isNone) w := fun w a n c n' c' => Lib.run_eql_slice_nil w 22 9 a n c n' c' Try.underlying22
  cases ao with
  | none =>
    have hn := hnil rfl
    subst hn
    go_enter Try.func9, Try.ntmps9
    go_wp2
    go_ret
    exact ⟨_, rfl, World.ownsRow_nil _ _ _ _, Below.refl _ _, .inl ⟨rfl, rfl⟩⟩
  | some ad =>
    obtain ⟨i0, hi, hz0, hz1, hz2⟩ := info_parts info9
    go_enter Try.func9, Try.ntmps9
    go_wp2_with (first
      | (at_make; refine wpList_make_full _ rfl _ _ 22 rfl w.heap.size 9 i0 (.string ByteArray.empty) 1 Try.underlying22 hi hz0 hz1 _ _ _ _ ss.length rfl rfl rfl rfl (by rw [hz2]; omega) (by unfold maxLen; omega) (Nat.le_refl _) ?_; intro w1 hown1 hg1)
      | (have _t := hown1; refine wpList_copy_splice rfl (.tmp 9) (.tmp 10) 22 22 rfl 9 Try.underlying22 size9 _ _ _ _ _ _ rfl rfl w.heap.size 0 _ 9 (full_block hown1) (ss.map .string) (by simp) (src_cells hss hg1) (by simp [size_madeCells]) (strs_oneCell ss) w.heap.size w ((Below.refl _ _).grown hg1 (Nat.le_refl _) (by simp)) (Nat.le_refl _) ?_; intro w2 hb2 hbel))
    go_ret
    refine ⟨_, rfl, ?_, hbel, .inr ⟨by simp, _, Nat.le_refl _, rfl⟩⟩
    refine block_full ?_ (Nat.le_refl _) (by simp) (by unfold maxLen; omega)
    have h := hb2.out
    rw [show splice (madeCells (Value.string ByteArray.empty).cells (ss.length * 1)).toList 0 (ss.map Value.string) = ss.map Value.string by simp [splice, size_madeCells]] at h
    exact h
end Go.Proofs.Qxb6605580a
