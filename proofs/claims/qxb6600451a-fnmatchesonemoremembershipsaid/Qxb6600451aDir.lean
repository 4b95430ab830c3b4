/-
  The directory's two maps as plain data, and what each operation does to them.
-/
import Derived.Test.Qxb6600451aKeys
namespace Go.Proofs.Qxb6600451a
open Go.RowKit Go.Maps

/-- A group's map, read as its block's number. -/
def refMap : Value → Option (DataW Unit × List MemPlace)
  | .map (some b) => some (.lit (.int .i64 b), [])
  | .map none => some (.nil, [])
  | _ => none
/-- A bool. -/
def boolR : Value → Option (DataW Unit × List MemPlace)
  | .bool b => some (.lit (.bool b), [])
  | _ => none

theorem refMap_nil {v : Value} {ps : List MemPlace} (h : refMap v = some (.nil, ps)) : v = .map none := by
  unfold refMap at h
  split at h <;> simp_all
theorem refMap_some {v : Value} {ps : List MemPlace} {b : Nat} (h : refMap v = some (.lit (.int .i64 b), ps)) : v = .map (some b) := by
  unfold refMap at h
  split at h
  · rename_i c
    simp at h
    have : c = b := by omega
    rw [this]
  · simp at h
  · simp at h
theorem boolR_inv {v : Value} {ps : List MemPlace} {b : Bool} (h : boolR v = some (.lit (.bool b), ps)) : v = .bool b := by
  unfold boolR at h
  split at h <;> simp_all

/-- Is m the membership of group gl that lists (k, s)? -/
def seen (gl : List UInt8) (k : Int) (s : ByteArray) (m : Mem) : Bool := m.g.toList == gl && (m.k == k && m.s.toList == s.toList)

def rdOf : Option Nat → DataW Unit
  | some b => .lit (.int .i64 b)
  | none => .nil

/-- The directory in block Dd holds the memberships acc: map M leads from a group gl to the map in block 'f gl'. -/
structure DirAt (w : World) (Dd M : Nat) (D : DataW Unit) (f : List UInt8 → Option Nat) (acc : List Mem) (N : Nat) : Prop where
  cell : w.cell? ⟨Dd, 2, none⟩ = some (.map (some M))
  own : w.ownsMap Try.prog 9 refMap M N D
  look : ∀ gl, D.atKey (.string gl) .nil = rdOf (f gl)
  above : ∀ gl b, f gl = some b → Dd < b
  inner : ∀ gl b, f gl = some b → ∃ Db : DataW Unit, w.ownsMap Try.prog 45 boolR b N Db ∧
    ∀ k s kl, keyOf Try.prog 45 (.agg #[.int .i64 k, .string s]) = some kl → Db.atKey kl (.lit (.bool false)) = .lit (.bool (acc.any (seen gl k s)))
  bare : ∀ gl, f gl = none → ∀ m ∈ acc, (m.g.toList == gl) = false
  inj : ∀ gl gl' b, f gl = some b → f gl' = some b → gl = gl'
  ahead : M < Dd

theorem DirAt.lt {w : World} {Dd M : Nat} {D : DataW Unit} {f : List UInt8 → Option Nat} {acc : List Mem} {N : Nat} (h : DirAt w Dd M D f acc N) : Dd < w.heap.size := lt_of_cell h.cell

/-- What is kept of it where nothing old turns. -/
theorem DirAt.grown {w w' : World} {Dd M : Nat} {D : DataW Unit} {f : List UInt8 → Option Nat} {acc : List Mem} {N : Nat} (h : DirAt w Dd M D f acc N) (hg : w.grownBy w' none) : DirAt w' Dd M D f acc N :=
  ⟨hg.cell h.cell (by simp), h.own.kept hg (by simp), h.look, h.above, fun gl b hb => by
    obtain ⟨Db, h1, h2⟩ := h.inner gl b hb
    exact ⟨Db, h1.kept hg (by simp), h2⟩, h.bare, h.inj, h.ahead⟩

theorem DirAt.drewN {w : World} {Dd M : Nat} {D : DataW Unit} {f : List UInt8 → Option Nat} {acc : List Mem} {N : Nat} (h : DirAt w Dd M D f acc N) (n : Nat) : DirAt (w.drewN n) Dd M D f acc N :=
  h.grown ⟨rfl, rfl, rfl, Nat.le_refl _, fun _ _ _ => rfl⟩

theorem u38 : Try.prog.underlying 38 = some (.map 9 42) := Try.underlying38
theorem u42 : Try.prog.underlying 42 = some (.map 45 4) := Try.underlying42

def mapOf : Option Nat → Value
  | some b => .map (some b)
  | none => .map none

/-- 'd.groups[g]'. -/
theorem DirAt.group {w : World} {Dd M : Nat} {D : DataW Unit} {f : List UInt8 → Option Nat} {acc : List Mem} {N : Nat} (h : DirAt w Dd M D f acc N) {g : ByteArray} (hg : g.size ≤ maxLen) :
    (Instr.lookup 38 (.map (some M)) (.string g) false).run Try.prog w = .ok (mapOf (f g.data.toList)) w := by
  obtain ⟨v, ps, hrun, hv⟩ := h.own.lookup law9 u38 (zero42 w) (zd := .nil) (zp := []) rfl (key9 hg)
  rw [h.look] at hv
  rw [hrun]
  cases hf : f g.data.toList with
  | none => rw [hf] at hv; rw [refMap_nil hv]; rfl
  | some b => rw [hf] at hv; rw [refMap_some hv]; rfl

/-- 'd.groups[g][ref{k, s}]'. -/
theorem DirAt.member {w : World} {Dd M : Nat} {D : DataW Unit} {f : List UInt8 → Option Nat} {acc : List Mem} {N : Nat} (h : DirAt w Dd M D f acc N) (gl : List UInt8) {k : Int} {s : ByteArray} (hk : (Lit.int .i64 k).wf = true) (hs : s.size ≤ maxLen) :
    (Instr.lookup 42 (mapOf (f gl)) (.agg #[.int .i64 k, .string s]) false).run Try.prog w = .ok (.bool (acc.any (seen gl k s))) w := by
  obtain ⟨kl, hkl⟩ := key45 k s hk hs
  cases hf : f gl with
  | none =>
    rw [show mapOf none = .map none from rfl, Maps.look_nil false law45 u42 (zero4 w) hkl]
    have : acc.any (seen gl k s) = false := by
      rw [List.any_eq_false]
      intro m hm
      simp [seen, h.bare gl hf m hm]
    rw [this]
    rfl
  | some b =>
    obtain ⟨Db, hown, hat⟩ := h.inner gl b hf
    obtain ⟨v, ps, hrun, hv⟩ := hown.lookup law45 u42 (zero4 w) (zd := .lit (.bool false)) (zp := []) rfl hkl
    rw [hat k s kl hkl] at hv
    rw [show mapOf (some b) = .map (some b) from rfl, hrun, boolR_inv hv]

theorem seen_other {gl : List UInt8} {k : Int} {s : ByteArray} {m : Mem} (h : m.g.toList ≠ gl) : seen gl k s m = false := by
  simp [seen, h]

/-- 'm[ref{k, s}] = true' in a group's own map. -/
theorem DirAt.add {w : World} {Dd M : Nat} {D : DataW Unit} {f : List UInt8 → Option Nat} {acc : List Mem} {N : Nat} (h : DirAt w Dd M D f acc N) (hN : N < maxLen) {m : Mem} (hm : OkM m) {b : Nat} (hf : f m.g.data.toList = some b) :
    ∃ w1, (Instr.mapUpdate 42 (.map (some b)) (.agg #[.int .i64 m.k, .string m.s]) (.bool true)).run Try.prog w = .ok () w1 ∧ DirAt w1 Dd M D f (acc ++ [m]) (N + 1) ∧ w.grownBy w1 (some b) := by
  obtain ⟨_, hk, hs⟩ := hm
  obtain ⟨kl, hkl⟩ := key45 m.k m.s hk hs
  obtain ⟨Db, hown, hat⟩ := h.inner _ b hf
  obtain ⟨w1, hrun, hown1, hg⟩ := hown.update law45 u42 hN hkl (val := .bool true) (d := .lit (.bool true)) (ps := []) rfl
  have hab := h.above _ b hf
  have hah := h.ahead
  refine ⟨w1, hrun, ⟨hg.cell h.cell (fun e => by injection e; simp at *; omega), (h.own.kept hg (fun e => by injection e; omega)).mono (by omega), h.look, h.above, fun gl b' hb' => ?_, fun gl hn m' hm' => ?_, h.inj, h.ahead⟩, hg⟩
  · by_cases e : gl = m.g.data.toList
    · subst e
      rw [hf] at hb'
      cases hb'
      refine ⟨_, hown1, fun k s kl' hkl' => ?_⟩
      rw [List.any_append]
      by_cases ek : kl' = kl
      · subst ek
        have hv := law45.inj hkl hkl'
        simp at hv
        obtain ⟨rfl, rfl⟩ := hv
        rw [Maps.atKey_put_same hown.isMap (law45.key hkl)]
        simp [seen, Lib.toList_data]
      · rw [Maps.atKey_put_other ek, hat k s kl' hkl']
        have : seen m.g.data.toList k s m = false := by
          cases hse : seen m.g.data.toList k s m with
          | false => rfl
          | true =>
            simp only [seen, Bool.and_eq_true, beq_iff_eq] at hse
            obtain ⟨_, e1, e2⟩ := hse
            have e3 : m.s = s := by
              rw [Lib.toList_data, Lib.toList_data] at e2
              cases hms : m.s; cases hss : s
              rw [hms, hss] at e2
              simp at e2
              rw [e2]
            rw [e1, e3] at hkl
            rw [hkl] at hkl'
            exact absurd (Option.some.inj hkl').symm ek
        simp [this]
    · obtain ⟨Db', h1, h2⟩ := h.inner gl b' hb'
      have hne : b' ≠ b := fun e' => e (h.inj gl _ b' hb' (by rw [e']; exact hf))
      refine ⟨Db', (h1.kept hg (fun e' => by injection e' with e'; exact hne e')).mono (by omega), fun k s kl' hkl' => ?_⟩
      rw [h2 k s kl' hkl', List.any_append]
      have : seen gl k s m = false := seen_other (by rw [Lib.toList_data]; exact fun h => e h.symm)
      simp [this]
  · rcases List.mem_append.1 hm' with hm' | hm'
    · exact h.bare gl hn m' hm'
    · have : m' = m := by simpa using hm'
      subst this
      have : m'.g.data.toList ≠ gl := fun e => by rw [e, hn] at hf; cases hf
      rw [Lib.toList_data]
      simpa using this

/-- 'm = map[ref]bool{}; d.groups[g] = m', a group that is new. -/
theorem DirAt.open {w : World} {Dd M : Nat} {D : DataW Unit} {f : List UInt8 → Option Nat} {acc : List Mem} {N : Nat} (h : DirAt w Dd M D f acc N) (hN : N < maxLen) {g : ByteArray} (hg : g.size ≤ maxLen) (hf : f g.data.toList = none) {wa : World}
    (ha : wa.heap = (w.alloc (.map #[] 0)).heap) (hgw : w.grownBy wa none) :
    ∃ w1 D1, (Instr.mapUpdate 38 (.map (some M)) (.string g) (.map (some w.heap.size))).run Try.prog wa = .ok () w1 ∧
      DirAt w1 Dd M D1 (fun gl => if gl = g.data.toList then some w.heap.size else f gl) acc (N + 1) ∧ wa.grownBy w1 (some M) := by
  have hA := h.grown hgw
  obtain ⟨w1, hrun, hown1, hg1⟩ := hA.own.update law9 u38 hN (key9 hg) (val := .map (some w.heap.size)) (d := .lit (.int .i64 w.heap.size)) (ps := []) rfl
  have hDl := h.lt
  have hah := h.ahead
  have hMl : M < w.heap.size := by omega
  have hnew : wa.ownsMap Try.prog 45 boolR w.heap.size 0 (.map []) := by
    have := World.ownsMap_made w Try.prog 45 boolR
    obtain ⟨es, clock, hb, r⟩ := this
    exact ⟨es, clock, by rw [ha]; exact hb, r⟩
  refine ⟨w1, _, hrun, ⟨hg1.cell hA.cell (fun e => by injection e; simp at *; omega), hown1, fun gl => ?_, fun gl b hb => ?_, fun gl b hb => ?_, fun gl hn => ?_, fun gl gl' b h1 h2 => ?_, h.ahead⟩, hg1⟩
  · by_cases e : gl = g.data.toList
    · subst e
      rw [if_pos rfl, Maps.atKey_put_same (k := .string g.data.toList) hA.own.isMap trivial]
      rfl
    · rw [if_neg e, Maps.atKey_put_other (fun h => e (by injection h)), h.look]
  · split at hb
    · cases hb; exact hDl
    · exact h.above gl b hb
  · split at hb
    · rename_i e
      subst e
      cases hb
      refine ⟨.map [], (hnew.kept hg1 (fun e => by injection e; omega)).mono (by omega), fun k s kl hkl => ?_⟩
      have : acc.any (seen g.data.toList k s) = false := by
        rw [List.any_eq_false]
        intro m hm
        simp [seen, h.bare _ hf m hm]
      rw [this]
      rfl
    · obtain ⟨Db, h1, h2⟩ := hA.inner gl b hb
      have hab := h.above gl b hb
      exact ⟨Db, (h1.kept hg1 (fun e => by injection e; omega)).mono (by omega), h2⟩
  · split at hn
    · cases hn
    · exact h.bare gl hn
  · have hfl : ∀ gl b, f gl = some b → b < w.heap.size := fun gl b hb => by
      obtain ⟨Db, h1, _⟩ := h.inner gl b hb
      exact h1.lt
    split at h1
    · rename_i e1
      cases h1
      split at h2
      · rename_i e2; rw [e1, e2]
      · have := hfl gl' _ h2; omega
    · split at h2
      · cases h2
        have := hfl gl _ h1; omega
      · exact h.inj gl gl' b h1 h2
end Go.Proofs.Qxb6600451a
