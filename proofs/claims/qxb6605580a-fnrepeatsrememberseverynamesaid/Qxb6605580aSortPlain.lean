/-
  The plain laws of the insertion sort and of the count of distinct names.
-/
import Derived.Test.Qxb6605580aRepeats
namespace Go.Proofs.Qxb6605580a

/-! ### How many different names a list holds -/
def cntD : List ByteArray → Nat
  | [] => 0
  | x :: l => cntD l + if memB x l then 0 else 1

theorem memB_cons (x y : ByteArray) (l : List ByteArray) : memB x (y :: l) = (x.toList == y.toList || memB x l) := rfl
theorem memB_perm {l m : List ByteArray} (h : l.Perm m) (x : ByteArray) : memB x l = memB x m := h.any_eq

theorem cntD_perm {l m : List ByteArray} (h : l.Perm m) : cntD l = cntD m := by
  induction h with
  | nil => rfl
  | cons x h ih => simp only [cntD, ih, memB_perm h]
  | swap x y l =>
    simp only [cntD, memB_cons]
    by_cases e : x.toList = y.toList
    · have e1 : memB x l = memB y l := by simp [memB, e]
      simp [e, e1]
    · have e' : ¬ y.toList = x.toList := fun h => e h.symm
      simp [e, e']
      omega
  | trans _ _ ih1 ih2 => exact ih1.trans ih2

/-- How many of the names are not among those ahead of them. -/
def fr (l : List ByteArray) : Nat := cntD l.reverse

theorem fr_nil : fr [] = 0 := rfl
theorem fr_snoc (l : List ByteArray) (x : ByteArray) : fr (l ++ [x]) = fr l + if memB x l then 0 else 1 := by
  simp only [fr, List.reverse_append, List.reverse_cons, List.reverse_nil, List.nil_append, List.singleton_append, cntD]
  rw [memB_perm (List.reverse_perm l)]
theorem fr_perm {l m : List ByteArray} (h : l.Perm m) : fr l = fr m :=
  cntD_perm ((List.reverse_perm l).trans (h.trans (List.reverse_perm m).symm))
theorem cntD_le (l : List ByteArray) : cntD l ≤ l.length := by
  induction l with
  | nil => exact Nat.le_refl _
  | cons x l ih => simp only [cntD, List.length_cons]; split <;> omega
theorem fr_le (l : List ByteArray) : fr l ≤ l.length := by have := cntD_le l.reverse; simpa [fr] using this

theorem fr_take {l : List ByteArray} {k : Nat} {s : ByteArray} (h : l[k]? = some s) : fr (l.take (k + 1)) = fr (l.take k) + if memB s (l.take k) then 0 else 1 := by
  rw [take_snoc h, fr_snoc]

/-! ### In a list in order a name was there before just if it stands right ahead -/
theorem srt_take {l : List ByteArray} (h : Srt l) (k : Nat) : Srt (l.take k) := List.Pairwise.sublist (List.take_sublist k l) h

theorem srt_mem {l : List ByteArray} (h : Srt l) {k : Nat} {s t : ByteArray} (hk : 0 < k) (hs : l[k]? = some s) (ht : l[k - 1]? = some t) : memB s (l.take k) = (s.toList == t.toList) := by
  have h1 : Srt (l.take k ++ [s]) := by rw [← take_snoc hs]; exact srt_take h _
  have hlast : (l.take k).getLast? = some t := by
    have hkl : k < l.length := (List.getElem?_eq_some_iff.1 hs).1
    rw [List.getLast?_eq_getElem?, List.length_take, Nat.min_eq_left (by omega), List.getElem?_take_of_lt (by omega)]
    exact ht
  have hle : ∀ a ∈ l.take k, Op.bytesLess s.toList a.toList = false := fun a ha => (List.pairwise_append.1 h1).2.2 a ha s (by simp)
  have htm : t ∈ l.take k := List.mem_of_getLast? hlast
  cases e : (s.toList == t.toList) with
  | true => exact List.any_eq_true.2 ⟨t, htm, e⟩
  | false =>
    cases hm : memB s (l.take k) with
    | false => rfl
    | true =>
      obtain ⟨a, ha, ea⟩ := List.any_eq_true.1 hm
      have ea : s.toList = a.toList := by simpa using ea
      have h2 : Op.bytesLess t.toList s.toList = false := by
        rcases srt_last (srt_take h k) hlast a ha with h | rfl
        · rw [ea]; exact h
        · rw [ea]; exact bl_irrefl _
      exact absurd (bl_trich _ _ (hle t htm) h2) (by simpa using e)

/-! ### The insertion -/
theorem bl_asymm : ∀ (x y : List UInt8), Op.bytesLess x y = true → Op.bytesLess y x = false
  | [], [], h => by simp [Op.bytesLess] at h
  | _ :: _, [], h => by simp [Op.bytesLess] at h
  | [], _ :: _, _ => by simp [Op.bytesLess]
  | a :: x, b :: y, h => by
    simp only [Op.bytesLess, Bool.or_eq_true, Bool.and_eq_true, decide_eq_true_eq, beq_iff_eq, Bool.or_eq_false_iff, decide_eq_false_iff_not, Bool.and_eq_false_iff, beq_eq_false_iff_ne, UInt8.lt_iff_toNat_lt, ne_eq, ← UInt8.toNat_inj] at h ⊢
    rcases h with h | ⟨h1, h2⟩
    · exact ⟨by omega, .inl (by omega)⟩
    · exact ⟨by omega, .inr (bl_asymm x y h2)⟩

/-- The state of the inner loop: l without its j-th element is in order up to i, and what stands behind the j-th up to i is not below it. -/
def Inv (l : List ByteArray) (i j : Nat) : Prop :=
  ∃ A x B C, l = A ++ x :: (B ++ C) ∧ A.length = j ∧ j + B.length = i ∧ Srt (A ++ B) ∧ ∀ b ∈ B, Op.bytesLess b.toList x.toList = false

theorem inv_start {l : List ByteArray} {i : Nat} (hi : i < l.length) (h : Srt (l.take i)) : Inv l i i := by
  refine ⟨l.take i, l[i], [], l.drop (i + 1), ?_, by simp; omega, by simp, by simpa using h, by simp⟩
  rw [List.nil_append, ← List.drop_eq_getElem_cons hi, List.take_append_drop]

theorem srt_insert {A B : List ByteArray} {x : ByteArray} (h : Srt (A ++ B)) (h1 : ∀ a ∈ A, Op.bytesLess x.toList a.toList = false) (h2 : ∀ b ∈ B, Op.bytesLess b.toList x.toList = false) : Srt (A ++ x :: B) := by
  obtain ⟨hA, hB, hAB⟩ := List.pairwise_append.1 h
  refine List.pairwise_append.2 ⟨hA, List.Pairwise.cons h2 hB, fun a ha b hb => ?_⟩
  rcases List.mem_cons.1 hb with rfl | hb
  · exact h1 a ha
  · exact hAB a ha b hb

theorem inv_end {l : List ByteArray} {i j : Nat} (h : Inv l i j) (hend : j = 0 ∨ ∃ s t, l[j]? = some s ∧ l[j - 1]? = some t ∧ 0 < j ∧ Op.bytesLess s.toList t.toList = false) : Srt (l.take (i + 1)) := by
  obtain ⟨A, x, B, C, rfl, hj, hi, hs, hB⟩ := h
  have ht : (A ++ x :: (B ++ C)).take (i + 1) = A ++ x :: B := by
    rw [show A ++ x :: (B ++ C) = (A ++ x :: B) ++ C by simp, List.take_left' (by simp; omega)]
  rw [ht]
  refine srt_insert hs ?_ hB
  rcases hend with rfl | ⟨s, t, h1, h2, hp, hb⟩
  · have : A = [] := List.eq_nil_of_length_eq_zero hj
    subst this
    simp
  · rw [List.getElem?_append_right (by omega), hj, Nat.sub_self] at h1
    simp at h1
    subst h1
    rw [List.getElem?_append_left (by omega)] at h2
    have hA : Srt A := (List.pairwise_append.1 hs).1
    have hlast : A.getLast? = some t := by rw [List.getLast?_eq_getElem?, hj]; exact h2
    intro a ha
    rcases srt_last hA hlast a ha with h | rfl
    · exact bl_trans _ _ _ h hb
    · exact hb

theorem inv_step {l : List ByteArray} {i j : Nat} (h : Inv l i j) (hp : 0 < j) {s t : ByteArray} (hs : l[j]? = some s) (ht : l[j - 1]? = some t) (hb : Op.bytesLess s.toList t.toList = true) :
    Inv ((l.set j t).set (j - 1) s) i (j - 1) ∧ ((l.set j t).set (j - 1) s).Perm l := by
  obtain ⟨A, x, B, C, rfl, hj, hi, hsr, hB⟩ := h
  rw [List.getElem?_append_right (by omega), hj, Nat.sub_self] at hs
  simp at hs
  subst hs
  rw [List.getElem?_append_left (by omega)] at ht
  obtain ⟨A', rfl⟩ : ∃ A', A = A' ++ [t] := by
    have hlast : A.getLast? = some t := by rw [List.getLast?_eq_getElem?, hj]; exact ht
    exact List.getLast?_eq_some_iff.1 hlast
  have hj' : A'.length = j - 1 := by simp at hj; omega
  have e : ((A' ++ [t] ++ x :: (B ++ C)).set j t).set (j - 1) x = A' ++ x :: (t :: B ++ C) := by
    rw [List.set_append_right _ _ (by simp; omega), show j - (A' ++ [t]).length = 0 by omega, List.set_cons_zero,
      List.append_assoc, List.set_append_right _ _ (by omega), hj', Nat.sub_self]
    simp
  rw [e]
  refine ⟨⟨A', x, t :: B, C, rfl, hj', by simp; omega, by simpa using hsr, fun b hb' => ?_⟩, ?_⟩
  · rcases List.mem_cons.1 hb' with rfl | hb'
    · exact bl_asymm _ _ hb
    · exact hB b hb'
  · simp only [List.append_assoc, List.cons_append]
    exact List.Perm.append_left _ (List.Perm.swap _ _ _)
end Go.Proofs.Qxb6605580a
