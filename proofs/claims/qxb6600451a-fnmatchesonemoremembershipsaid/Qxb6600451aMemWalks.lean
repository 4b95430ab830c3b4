/-
  The walks of the small functions over a slice of memberships.
-/
import Derived.Test.Qxb6600451aLevelWalks
import Derived.Deep.QuietTactic
import Derived.BigQuiet
namespace Go.Proofs.Qxb6600451a
open Go.RowKit

/-- A membership. -/
structure Mem where
  g : ByteArray
  k : Int
  s : ByteArray

/-- What can be read of one. -/
def OkM (m : Mem) : Prop := m.g.size ≤ maxLen ∧ (Lit.int .i64 m.k).wf = true ∧ m.s.size ≤ maxLen

/-- The slice at 'ao' holds the memberships ms, in the world w. -/
def MS (w : World) (ao : Option Addr) (ms : List Mem) : Prop :=
  0 < ms.length → ∃ b off, ao = some ⟨b, off, none⟩ ∧ ∀ j m, ms[j]? = some m →
    w.cell? ⟨b, off + j * 3, none⟩ = some (.string m.g) ∧ w.cell? ⟨b, off + j * 3 + 1, none⟩ = some (.int .i64 m.k) ∧ w.cell? ⟨b, off + j * 3 + 2, none⟩ = some (.string m.s)

theorem lt_of_cell {w : World} {a : Addr} {v : Value} (h : w.cell? a = some v) : a.block < w.heap.size := by
  by_cases hl : a.block < w.heap.size
  · exact hl
  · have e : w.heap[a.block]? = none := by simp; omega
    simp [World.cell?, e] at h

def AnyInt (e : Ending) : Prop := ∃ z, e = .returned (.int .i64 z)
theorem anyInt_mk (z : Int) : AnyInt (.returned (.int .i64 z)) := ⟨z, rfl⟩
theorem ret_bool {a b : Bool} (h : a = b) : Ending.returned (.bool a) = .returned (.bool b) := by rw [h]

/-- wr is w with draws made. -/
def DrewFrom (w wr : World) : Prop := ∃ m, wr = w.drewN m
theorem DrewFrom.refl (w : World) : DrewFrom w w := ⟨0, rfl⟩
theorem DrewFrom.drewN {w wr : World} (h : DrewFrom w wr) (n : Nat) : DrewFrom w (wr.drewN n) := by obtain ⟨m, rfl⟩ := h; exact ⟨_, World.drewN_drewN _ _ _⟩
theorem DrewFrom.cell {w wr : World} (h : DrewFrom w wr) (a : Addr) : wr.cell? a = w.cell? a := by obtain ⟨m, rfl⟩ := h; rfl
theorem DrewFrom.below {w wr : World} (h : DrewFrom w wr) (B : Nat) : Below B w wr := by obtain ⟨m, rfl⟩ := h; exact ⟨rfl, rfl, rfl, Nat.le_refl _, fun _ _ => rfl⟩

set_option maxHeartbeats 2000000 in
/-- zzBytes_FnMatchesAgreesWithMembershipList: some bool; it only reads. -/
theorem zz6_any (ao : Option Addr) (cap : Nat) (ms : List Mem) (n p r : ByteArray) (k : Int) (w : World) (hms : MS w ao ms) (hl : ms.length ≤ maxLen) (hz : ∀ m ∈ ms, OkM m) (hn : n.size ≤ maxLen) (hp : p.size ≤ maxLen) (hr : r.size ≤ maxLen) :
    Calls Try.prog 6 #[.slice ao ms.length cap, .string n, .string p, .int .i64 k, .string r] w fun e w' => AnyBool e ∧ w = w' := by
  unfold maxLen at hl hn hp hr
  by_cases hbig : (1048576 : Int) < (ms.length : Int)
  · go_enter Try.func6, Try.ntmps6
    go_wp2
    go_ret
    exact ⟨anyBool_mk _, rfl⟩
  by_cases h0 : ms.length = 0
  · go_enter Try.func6, Try.ntmps6
    go_wp2
    go_loop [11, 12] (fun t i => t = .int .i64 0 ∧ i = .int .i64 0) (fun _ _ => 0)
    case atStart => exact ⟨rfl, rfl⟩
    case round =>
      obtain ⟨rfl, rfl⟩ := hrel
      go_wp2
      all_goals
        go_ret
        exact ⟨anyBool_mk _, rfl⟩
  obtain ⟨b, off, rfl, hc⟩ := hms (by omega)
  go_enter Try.func6, Try.ntmps6
  go_wp2
  go_loop [11, 12] (fun t i => ∃ (z : Int) (j : Nat), j ≤ ms.length ∧ 0 ≤ z ∧ z ≤ 1048576 ∧ i = .int .i64 j ∧ t = .int .i64 z) (fun _ i => ms.length - (intOf i).toNat)
  case atStart => exact ⟨_, 0, by omega, by omega, by omega, rfl, rfl⟩
  case round =>
    obtain ⟨z, j, hj, hz0, hz1, rfl, rfl⟩ := hrel
    by_cases hlt : j < ms.length
    · obtain ⟨m, hm⟩ : ∃ m, ms[j]? = some m := ⟨ms[j], by simp [hlt]⟩
      obtain ⟨c0, c1, c2⟩ := hc j m hm
      obtain ⟨o1, o2, o3⟩ := hz m (List.mem_of_getElem? hm)
      unfold maxLen at o1 o3
      clear hm hc hz
      go_wp2
      case roundEnd =>
        go_round
        case rel => exact ⟨_, j + 1, by omega, by omega, by omega, by go_num, rfl⟩
        case measure => simp [intOf]; omega
      all_goals
        go_ret
        exact ⟨anyBool_mk _, rfl⟩
    · go_wp2
      all_goals
        go_ret
        exact ⟨anyBool_mk _, rfl⟩

set_option maxHeartbeats 2000000 in
/-- zzBytes_FnMatchesOneMoreMembership: some bool; it only reads. -/
theorem zz12_any (ao : Option Addr) (cap : Nat) (ms : List Mem) (x : Mem) (n p r : ByteArray) (k : Int) (w : World) (hms : MS w ao ms) (hl : ms.length ≤ maxLen) (hz : ∀ m ∈ ms, OkM m) (hx : OkM x) (hn : n.size ≤ maxLen) (hp : p.size ≤ maxLen) (hr : r.size ≤ maxLen) :
    Calls Try.prog 12 #[.slice ao ms.length cap, .agg #[.string x.g, .int .i64 x.k, .string x.s], .string n, .string p, .int .i64 k, .string r] w fun e w' => AnyBool e ∧ Below w.heap.size w w' := by
  unfold maxLen at hl hn hp hr
  obtain ⟨x1, x2, x3⟩ := hx
  unfold maxLen at x1 x3
  by_cases hbig : (1048576 : Int) < (ms.length : Int)
  · go_enter Try.func12, Try.ntmps12
    go_wp2
    go_ret
    exact ⟨anyBool_mk _, (Below.refl _ _).alloc (Nat.le_refl _) _⟩
  by_cases h0 : ms.length = 0
  · go_enter Try.func12, Try.ntmps12
    go_wp2
    go_loop [13, 14] (fun t i => t = .int .i64 0 ∧ i = .int .i64 0) (fun _ _ => 0)
    case atStart => exact ⟨rfl, rfl⟩
    case round =>
      obtain ⟨rfl, rfl⟩ := hrel
      go_wp2
      all_goals
        go_ret
        exact ⟨anyBool_mk _, (Below.refl _ _).alloc (Nat.le_refl _) _⟩
  obtain ⟨b, off, rfl, hc⟩ := hms (by omega)
  go_enter Try.func12, Try.ntmps12
  go_wp2
  go_loop [13, 14] (fun t i => ∃ (z : Int) (j : Nat), j ≤ ms.length ∧ 0 ≤ z ∧ z ≤ 1048576 ∧ i = .int .i64 j ∧ t = .int .i64 z) (fun _ i => ms.length - (intOf i).toNat)
  case atStart => exact ⟨_, 0, by omega, by omega, by omega, rfl, rfl⟩
  case round =>
    obtain ⟨z, j, hj, hz0, hz1, rfl, rfl⟩ := hrel
    by_cases hlt : j < ms.length
    · obtain ⟨m, hm⟩ : ∃ m, ms[j]? = some m := ⟨ms[j], by simp [hlt]⟩
      obtain ⟨c0, c1, c2⟩ := hc j m hm
      obtain ⟨o1, o2, o3⟩ := hz m (List.mem_of_getElem? hm)
      unfold maxLen at o1 o3
      have hbw : b < w.heap.size := lt_of_cell c0
      clear hm hc hz
      go_wp2
      case roundEnd =>
        go_round
        case rel => exact ⟨_, j + 1, by omega, by omega, by omega, by go_num, rfl⟩
        case measure => simp [intOf]; omega
      all_goals
        go_ret
        exact ⟨anyBool_mk _, (Below.refl _ _).alloc (Nat.le_refl _) _⟩
    · go_wp2
      all_goals
        go_ret
        exact ⟨anyBool_mk _, (Below.refl _ _).alloc (Nat.le_refl _) _⟩

set_option maxHeartbeats 1000000 in
/-- zzBytesUudexB1: some int; it only reads. -/
theorem bytes_any (ao : Option Addr) (cap : Nat) (ms : List Mem) (a b c : ByteArray) (w : World) (hms : MS w ao ms) (hl : ms.length ≤ 65536) :
    Calls Try.prog 7 #[.slice ao ms.length cap, .string a, .string b, .string c] w fun e w' => AnyInt e ∧ DrewFrom w w' := by
  by_cases h0 : ms.length = 0
  · go_enter Try.func7, Try.ntmps7
    go_wp2
    go_loop [9, 10] (fun t i => (∃ z, t = .int .i64 z) ∧ i = .int .i64 0) (fun _ _ => 0)
    case atStart => exact ⟨⟨_, rfl⟩, rfl⟩
    case round =>
      obtain ⟨⟨z, rfl⟩, rfl⟩ := hrel
      go_wp2
      all_goals
        go_ret
        exact ⟨anyInt_mk _, DrewFrom.refl _⟩
  obtain ⟨b, off, rfl, hc⟩ := hms (by omega)
  go_enter Try.func7, Try.ntmps7
  go_wp2
  go_loopw [9, 10] (fun t i wr => ∃ (z : Int) (j : Nat), j ≤ ms.length ∧ i = .int .i64 j ∧ t = .int .i64 z ∧ DrewFrom w wr) (fun _ i _ => ms.length - (intOf i).toNat)
  case atStart => exact ⟨_, 0, by omega, rfl, rfl, DrewFrom.refl _⟩
  case round =>
    obtain ⟨z, j, hj, rfl, rfl, hd⟩ := hrel
    by_cases hlt : j < ms.length
    · obtain ⟨m, hm⟩ : ∃ m, ms[j]? = some m := ⟨ms[j], by simp [hlt]⟩
      obtain ⟨c0, c1, c2⟩ := hc j m hm
      have d0 := (hd.cell _).trans c0
      have d2 := (hd.cell _).trans c2
      clear hm hc c0 c1 c2
      by_cases hbig : (1048576 : Int) < z
      · go_wp2
        go_ret
        exact ⟨anyInt_mk _, hd⟩
      · go_wp2
        go_quiet (fail)
        go_wp2
        go_roundw
        case rel => exact ⟨_, j + 1, by omega, by go_num, rfl, hd.drewN _⟩
        case measure => simp [intOf]; omega
    · go_wp2
      all_goals
        go_ret
        exact ⟨anyInt_mk _, hd⟩

/-- Does the membership m make the group r hold the endpoint n or its participant p? -/
def hit (n p r : ByteArray) (m : Mem) : Bool := m.g.toList == r.toList && ((m.k == 0 && m.s.toList == n.toList) || (m.k == 1 && m.s.toList == p.toList))

/-- The documented meaning of a reference. -/
def modelB (ms : List Mem) (n p : ByteArray) (k : Int) (r : ByteArray) : Bool :=
  if k = 0 then n.toList == r.toList else if k = 1 then p.toList == r.toList else ms.any (hit n p r)

theorem hit_no {n p r : ByteArray} {m : Mem} (h : (!m.g.toList == r.toList) = true) : hit n p r m = false := by
  have : (m.g.toList == r.toList) = false := by simpa using h
  simp [hit, this]

theorem hit_f0 {n p r : ByteArray} {m : Mem} (h : m.k = 0) (h2 : (m.s.toList == n.toList) = false) : hit n p r m = false := by simp [hit, h, h2]
theorem hit_f1 {n p r : ByteArray} {m : Mem} (h : m.k = 1) (h2 : (m.s.toList == p.toList) = false) : hit n p r m = false := by simp [hit, h, h2]
theorem hit_f2 {n p r : ByteArray} {m : Mem} (h : ¬ m.k = 0) (h2 : ¬ m.k = 1) : hit n p r m = false := by simp [hit, h, h2]
theorem hit_t0 {n p r : ByteArray} {m : Mem} (h0 : (!m.g.toList == r.toList) = false) (h : m.k = 0) (h2 : (m.s.toList == n.toList) = true) : hit n p r m = true := by
  have : (m.g.toList == r.toList) = true := by simpa using h0
  simp [hit, h, h2, this]
theorem hit_t1 {n p r : ByteArray} {m : Mem} (h0 : (!m.g.toList == r.toList) = false) (h : m.k = 1) (h2 : (m.s.toList == p.toList) = true) : hit n p r m = true := by
  have : (m.g.toList == r.toList) = true := by simpa using h0
  simp [hit, h, h2, this]

theorem any_take_succ {ms : List Mem} {j : Nat} {m : Mem} (h : ms[j]? = some m) (f : Mem → Bool) : (ms.take (j + 1)).any f = ((ms.take j).any f || f m) := by
  rw [List.take_add_one, h, List.any_append]; simp

theorem any_hit {ms : List Mem} {j : Nat} {m : Mem} (h : ms[j]? = some m) {f : Mem → Bool} (hf : f m = true) : ms.any f = true := List.any_eq_true.2 ⟨m, List.mem_of_getElem? h, hf⟩

set_option maxHeartbeats 1000000 in
/-- zzModelMatchesUudexB1. -/
theorem model_any (ao : Option Addr) (cap : Nat) (ms : List Mem) (n p r : ByteArray) (k : Int) (w : World) (hms : MS w ao ms) (hl : ms.length ≤ 65536) :
    Calls Try.prog 11 #[.slice ao ms.length cap, .string n, .string p, .int .i64 k, .string r] w fun e w' => e = .returned (.bool (modelB ms n p k r)) ∧ w = w' := by
  by_cases hk0 : k = 0
  · subst hk0
    go_enter Try.func11, Try.ntmps11
    go_wp2
    go_ret
    exact ⟨rfl, rfl⟩
  by_cases hk1 : k = 1
  · subst hk1
    go_enter Try.func11, Try.ntmps11
    go_wp2
    go_ret
    exact ⟨rfl, rfl⟩
  have k0 : (k == 0) = false := by simpa using hk0
  have k1 : (k == 1) = false := by simpa using hk1
  have HM : Hid (modelB ms n p k r = ms.any (hit n p r)) := by show _ = _; simp [modelB, hk0, hk1]
  clear hk0 hk1
  by_cases h0 : ms.length = 0
  · have e : ms = [] := List.eq_nil_of_length_eq_zero h0
    subst e
    go_enter Try.func11, Try.ntmps11
    go_wp2
    go_loop [11] (fun i => i = .int .i64 0) (fun _ => 0)
    case atStart => rfl
    case round =>
      subst hrel
      go_wp2
      go_ret
      exact ⟨ret_bool (by rw [HM.out]; rfl), rfl⟩
  obtain ⟨b, off, rfl, hc⟩ := hms (by omega)
  go_enter Try.func11, Try.ntmps11
  go_wp2
  go_loop [11] (fun i => ∃ j : Nat, j ≤ ms.length ∧ (ms.take j).any (hit n p r) = false ∧ i = .int .i64 j) (fun i => ms.length - (intOf i).toNat)
  case atStart => exact ⟨0, by omega, rfl, rfl⟩
  case round =>
    obtain ⟨j, hj, hno, rfl⟩ := hrel
    have HN : Hid ((ms.take j).any (hit n p r) = false) := hno
    clear hno
    by_cases hlt : j < ms.length
    · obtain ⟨m, hm⟩ : ∃ m, ms[j]? = some m := ⟨ms[j], by simp [hlt]⟩
      obtain ⟨c0, c1, c2⟩ := hc j m hm
      have HMm : Hid (ms[j]? = some m) := hm
      clear hm hc
      go_wp2
      all_goals first
        | (have hf : hit n p r m = false := by first | exact hit_no (by assumption) | exact hit_f0 (by assumption) (by assumption) | exact hit_f1 (by assumption) (by assumption) | exact hit_f2 (by assumption) (by assumption)
           go_round
           case rel => exact ⟨j + 1, by omega, by rw [any_take_succ HMm.out, HN.out, hf]; rfl, by go_num⟩
           case measure => simp [intOf]; omega)
        | (have hf : hit n p r m = true := by first | exact hit_t0 (by assumption) (by assumption) (by assumption) | exact hit_t1 (by assumption) (by assumption) (by assumption)
           go_ret
           exact ⟨ret_bool (by rw [HM.out, any_hit HMm.out hf]), rfl⟩)
    · go_wp2
      go_ret
      exact ⟨ret_bool (by rw [HM.out]; have h := HN.out; rw [List.take_of_length_le (by omega)] at h; rw [h]), rfl⟩
end Go.Proofs.Qxb6600451a
