/-
  The plain law of skipSpace: the end of the run of JSON white space at an offset. No Go in sight.
-/
namespace Go.Proofs.Qxb6605580a

/-- RFC 8259's white space. -/
def wsB (n : Int) : Bool := decide (n = 32 ∨ n = 9 ∨ n = 10 ∨ n = 13)

def lead : List UInt8 → Nat
  | [] => 0
  | c :: r => if wsB (c.toNat : Int) then lead r + 1 else 0

/-- Where skipSpace lands from k. -/
def land (s : ByteArray) (k : Nat) : Nat := k + lead (s.data.toList.drop k)

theorem lead_le (l : List UInt8) : lead l ≤ l.length := by
  induction l with
  | nil => exact Nat.le_refl _
  | cons c r ih => simp only [lead, List.length_cons]; split <;> omega

theorem drop_at (s : ByteArray) (k : Nat) (h : k < s.size) : s.data.toList.drop k = s[k] :: s.data.toList.drop (k + 1) := by
  rw [List.drop_eq_getElem_cons (by simpa using h)]; rfl

theorem land_ge (s : ByteArray) (k : Nat) : k ≤ land s k := Nat.le_add_right _ _

theorem land_le (s : ByteArray) (k : Nat) (h : k ≤ s.size) : land s k ≤ s.size := by
  have := lead_le (s.data.toList.drop k)
  have e : (s.data.toList.drop k).length = s.size - k := by simp
  unfold land; omega

theorem land_step (s : ByteArray) (k : Nat) (h : k < s.size) (hw : wsB (s[k].toNat : Int) = true) : land s (k + 1) = land s k := by
  unfold land; rw [drop_at s k h]; simp only [lead, hw, if_true]; omega

theorem land_here (s : ByteArray) (k : Nat) (h : k < s.size) (hw : wsB (s[k].toNat : Int) = false) : land s k = k := by
  unfold land; rw [drop_at s k h]; simp [lead, hw]

theorem land_end (s : ByteArray) (k : Nat) (h : s.size ≤ k) : land s k = k := by
  unfold land; rw [List.drop_of_length_le (by simpa using h)]; simp [lead]

/-- From within the run it lands alike. -/
theorem land_mid (s : ByteArray) (k m : Nat) (h1 : k ≤ m) (h2 : m ≤ land s k) : land s m = land s k := by
  obtain ⟨d, rfl⟩ := Nat.le.dest h1
  clear h1
  induction d with
  | zero => rfl
  | succ d ih =>
    have e := ih (by omega)
    by_cases hs : k + d < s.size
    · cases hw : wsB (s[k + d].toNat : Int) with
      | true => rw [← e, ← land_step s (k + d) hs hw]; rfl
      | false => have := land_here s (k + d) hs hw; omega
    · have := land_end s (k + d) (by omega); omega

theorem land_ws (s : ByteArray) (k j : Nat) (h1 : k ≤ j) (h2 : j < land s k) (hj : j < s.size) : wsB (s[j].toNat : Int) = true := by
  have e := land_mid s k j h1 (by omega)
  cases hw : wsB (s[j].toNat : Int) with
  | true => rfl
  | false => have := land_here s j hj hw; omega

theorem land_stop (s : ByteArray) (k : Nat) (h : land s k < s.size) : wsB (s[land s k].toNat : Int) = false := by
  have e := land_mid s k (land s k) (land_ge s k) (Nat.le_refl _)
  cases hw : wsB (s[land s k].toNat : Int) with
  | false => rfl
  | true =>
    have := land_step s (land s k) h hw
    have := land_ge s (land s k + 1)
    omega

theorem wsB_yes {n : Int} (h : n = 32 ∨ n = 9 ∨ n = 10 ∨ n = 13) : wsB n = true := decide_eq_true h
theorem wsB_no {n : Int} (h1 : ¬ n = 32) (h2 : ¬ n = 9) (h3 : ¬ n = 10) (h4 : ¬ n = 13) : wsB n = false := decide_eq_false (by omega)
theorem wsB_of {n : Int} (h : wsB n = true) : n = 32 ∨ n = 9 ∨ n = 10 ∨ n = 13 := of_decide_eq_true h
theorem wsB_not {n : Int} (h : wsB n = false) : ¬ n = 32 ∧ ¬ n = 9 ∧ ¬ n = 10 ∧ ¬ n = 13 := by have := of_decide_eq_false h; omega

/-! The tests in the walk's own form. -/
theorem ws_y1 {n : Int} (h : (n == 32) = true) : wsB n = true := wsB_yes (by simp at h; omega)
theorem ws_y2 {n : Int} (h : (n == 9) = true) : wsB n = true := wsB_yes (by simp at h; omega)
theorem ws_y3 {n : Int} (h : (n == 10) = true) : wsB n = true := wsB_yes (by simp at h; omega)
theorem ws_y4 {n : Int} (h : (n == 13) = true) : wsB n = true := wsB_yes (by simp at h; omega)
theorem ws_n {n : Int} (h1 : (n == 32) = false) (h2 : (n == 9) = false) (h3 : (n == 10) = false) (h4 : (n == 13) = false) : wsB n = false :=
  wsB_no (by simpa using h1) (by simpa using h2) (by simpa using h3) (by simpa using h4)

end Go.Proofs.Qxb6605580a
