/-
  The edit distance of two lists, plainly: no Go in sight.
-/
namespace Go.Proofs.Qxb6600553a

/-- One row of the recursion: the distances of 'x :: a' and the tails, f being those of a. -/
def levGo (x : Int) (f : List Int → Nat) : List Int → Nat
  | [] => f [] + 1
  | y :: b => min (min (f b + if x = y then 0 else 1) (f (y :: b) + 1)) (levGo x f b + 1)

/-- The fewest insertions, deletions and replacements that turn the one list into the other. -/
def lev : List Int → List Int → Nat
  | [], b => b.length
  | x :: a, b => levGo x (lev a) b

theorem lev_cons (x : Int) (a : List Int) (y : Int) (b : List Int) : lev (x :: a) (y :: b) = min (min (lev a b + if x = y then 0 else 1) (lev a (y :: b) + 1)) (lev (x :: a) b + 1) := rfl
theorem lev_cons_nil (x : Int) (a : List Int) : lev (x :: a) [] = lev a [] + 1 := rfl
theorem lev_nil_left (b : List Int) : lev [] b = b.length := rfl
theorem lev_nil_right : ∀ a : List Int, lev a [] = a.length
  | [] => rfl
  | x :: a => by rw [lev_cons_nil, lev_nil_right a]; rfl

theorem lev_del (x : Int) (a b : List Int) : lev (x :: a) b ≤ lev a b + 1 := by
  cases b with
  | nil => rw [lev_cons_nil]; omega
  | cons y b => rw [lev_cons]; omega
theorem lev_ins (a : List Int) (y : Int) (b : List Int) : lev a (y :: b) ≤ lev a b + 1 := by
  cases a with
  | nil => simp [lev_nil_left]
  | cons x a => rw [lev_cons]; omega
theorem lev_undel (x : Int) (a : List Int) : ∀ b : List Int, lev a b ≤ lev (x :: a) b + 1
  | [] => by rw [lev_cons_nil]; omega
  | y :: b => by
    have h1 := lev_ins a y b
    have h2 := lev_undel x a b
    rw [lev_cons]
    split <;> omega
theorem lev_unins (y : Int) (b : List Int) : ∀ a : List Int, lev a b ≤ lev a (y :: b) + 1
  | [] => by simp [lev_nil_left]; omega
  | x :: a => by
    have h1 := lev_del x a b
    have h2 := lev_unins y b a
    rw [lev_cons]
    split <;> omega

/-- Equal heads cost nothing. -/
theorem lev_same (x : Int) (a b : List Int) : lev (x :: a) (x :: b) = lev a b := by
  have h1 := lev_unins x b a
  have h2 := lev_undel x a b
  rw [lev_cons, if_pos rfl]
  omega
theorem lev_diff {x y : Int} (h : ¬ x = y) (a b : List Int) : lev (x :: a) (y :: b) = min (min (lev a (y :: b)) (lev (x :: a) b)) (lev a b) + 1 := by
  rw [lev_cons, if_neg h]
  omega

theorem lev_len_left : ∀ (a b : List Int), a.length ≤ lev a b + b.length
  | [], b => by simp
  | x :: a, [] => by rw [lev_nil_right]; simp
  | x :: a, y :: b => by
    have h1 := lev_len_left a b
    have h2 := lev_len_left a (y :: b)
    have h3 := lev_len_left (x :: a) b
    rw [lev_cons]
    simp only [List.length_cons] at *
    split <;> omega
theorem lev_len_right : ∀ (a b : List Int), b.length ≤ lev a b + a.length
  | [], b => by simp [lev_nil_left]
  | x :: a, [] => by simp
  | x :: a, y :: b => by
    have h1 := lev_len_right a b
    have h2 := lev_len_right a (y :: b)
    have h3 := lev_len_right (x :: a) b
    rw [lev_cons]
    simp only [List.length_cons] at *
    split <;> omega

/-! ### Alignments: the distance is the same from either end -/
def left (al : List (Option Int × Option Int)) : List Int := al.filterMap (·.1)
def right (al : List (Option Int × Option Int)) : List Int := al.filterMap (·.2)
def cost : List (Option Int × Option Int) → Nat
  | [] => 0
  | p :: r => (if p.1 = p.2 then 0 else 1) + cost r

theorem cost_append (a b : List (Option Int × Option Int)) : cost (a ++ b) = cost a + cost b := by
  induction a with
  | nil => simp [cost]
  | cons p r ih => simp only [List.cons_append, cost, ih]; omega
theorem cost_reverse (a : List (Option Int × Option Int)) : cost a.reverse = cost a := by
  induction a with
  | nil => rfl
  | cons p r ih => rw [List.reverse_cons, cost_append, ih]; simp only [cost]; omega

theorem lev_le_cost : ∀ al, lev (left al) (right al) ≤ cost al
  | [] => Nat.le_refl _
  | (none, none) :: r => by
    have ih := lev_le_cost r
    simp only [left, right, List.filterMap_cons, cost] at *
    simpa using ih
  | (some x, none) :: r => by
    have ih := lev_le_cost r
    have h := lev_del x (left r) (right r)
    simp only [left, right, List.filterMap_cons, cost] at *
    simp
    omega
  | (none, some y) :: r => by
    have ih := lev_le_cost r
    have h := lev_ins (left r) y (right r)
    simp only [left, right, List.filterMap_cons, cost] at *
    simp
    omega
  | (some x, some y) :: r => by
    have ih := lev_le_cost r
    have h : lev (x :: left r) (y :: right r) ≤ lev (left r) (right r) + if x = y then 0 else 1 := by rw [lev_cons]; omega
    simp only [left, right, List.filterMap_cons, cost, Option.some.injEq] at *
    omega

theorem align_nil : ∀ b : List Int, ∃ al, left al = [] ∧ right al = b ∧ cost al ≤ b.length
  | [] => ⟨[], rfl, rfl, Nat.le_refl _⟩
  | y :: b => by
    obtain ⟨al, h1, h2, h3⟩ := align_nil b
    refine ⟨(none, some y) :: al, ?_, ?_, ?_⟩
    · simpa [left] using h1
    · simp only [right, List.filterMap_cons]; rw [← h2]; rfl
    · simp only [cost, List.length_cons]; simp; omega

theorem align : ∀ (a b : List Int), ∃ al, left al = a ∧ right al = b ∧ cost al ≤ lev a b
  | [], b => align_nil b
  | x :: a, [] => by
    obtain ⟨al, h1, h2, h3⟩ := align a []
    refine ⟨(some x, none) :: al, ?_, ?_, ?_⟩
    · simp only [left, List.filterMap_cons]; rw [← h1]; rfl
    · simpa [right] using h2
    · rw [lev_cons_nil]; simp only [cost]; simp; omega
  | x :: a, y :: b => by
    have hc := lev_cons x a y b
    by_cases e1 : lev (x :: a) (y :: b) = lev a b + if x = y then 0 else 1
    · obtain ⟨al, h1, h2, h3⟩ := align a b
      refine ⟨(some x, some y) :: al, ?_, ?_, ?_⟩
      · simp only [left, List.filterMap_cons]; rw [← h1]; rfl
      · simp only [right, List.filterMap_cons]; rw [← h2]; rfl
      · rw [e1]; simp only [cost, Option.some.injEq]; omega
    · by_cases e2 : lev (x :: a) (y :: b) = lev a (y :: b) + 1
      · obtain ⟨al, h1, h2, h3⟩ := align a (y :: b)
        refine ⟨(some x, none) :: al, ?_, ?_, ?_⟩
        · simp only [left, List.filterMap_cons]; rw [← h1]; rfl
        · simpa [right] using h2
        · rw [e2]; simp only [cost]; simp; omega
      · have e3 : lev (x :: a) (y :: b) = lev (x :: a) b + 1 := by omega
        obtain ⟨al, h1, h2, h3⟩ := align (x :: a) b
        refine ⟨(none, some y) :: al, ?_, ?_, ?_⟩
        · simpa [left] using h1
        · simp only [right, List.filterMap_cons]; rw [← h2]; rfl
        · rw [e3]; simp only [cost]; simp; omega

theorem lev_reverse_le (a b : List Int) : lev a.reverse b.reverse ≤ lev a b := by
  obtain ⟨al, h1, h2, h3⟩ := align a b
  have h := lev_le_cost al.reverse
  rw [cost_reverse] at h
  have e1 : left al.reverse = a.reverse := by unfold left at *; rw [List.filterMap_reverse, h1]
  have e2 : right al.reverse = b.reverse := by unfold right at *; rw [List.filterMap_reverse, h2]
  rw [e1, e2] at h
  omega
theorem lev_reverse (a b : List Int) : lev a.reverse b.reverse = lev a b := by
  have h1 := lev_reverse_le a b
  have h2 := lev_reverse_le a.reverse b.reverse
  rw [List.reverse_reverse, List.reverse_reverse] at h2
  omega

/-! ### The table of prefixes -/
def pre (a b : List Int) (i j : Nat) : Nat := lev (a.take i).reverse (b.take j).reverse

theorem take_rev {a : List Int} {i : Nat} {x : Int} (h : a[i]? = some x) : (a.take (i + 1)).reverse = x :: (a.take i).reverse := by
  rw [List.take_add_one, h]; simp
theorem pre_step {a b : List Int} {i j : Nat} {x y : Int} (hx : a[i]? = some x) (hy : b[j]? = some y) :
    pre a b (i + 1) (j + 1) = min (min (pre a b i j + if x = y then 0 else 1) (pre a b i (j + 1) + 1)) (pre a b (i + 1) j + 1) := by
  unfold pre
  rw [take_rev hx, take_rev hy, lev_cons]
theorem pre_zero_left (a b : List Int) (j : Nat) (hj : j ≤ b.length) : pre a b 0 j = j := by
  simp [pre, lev_nil_left]; omega
theorem pre_zero_right (a b : List Int) (i : Nat) (hi : i ≤ a.length) : pre a b i 0 = i := by
  simp [pre, lev_nil_right]; omega
theorem pre_ge_left (a b : List Int) {i j : Nat} (hi : i ≤ a.length) (hj : j ≤ b.length) : i ≤ pre a b i j + j := by
  have h := lev_len_left (a.take i).reverse (b.take j).reverse
  simp at h
  unfold pre
  omega
theorem pre_ge_right (a b : List Int) {i j : Nat} (hi : i ≤ a.length) (hj : j ≤ b.length) : j ≤ pre a b i j + i := by
  have h := lev_len_right (a.take i).reverse (b.take j).reverse
  simp at h
  unfold pre
  omega
theorem pre_whole (a b : List Int) : pre a b a.length b.length = lev a b := by
  unfold pre
  rw [List.take_of_length_le (Nat.le_refl _), List.take_of_length_le (Nat.le_refl _), lev_reverse]

/-- A row that lies beyond L all along keeps all later rows beyond L. -/
theorem pre_beyond {a b : List Int} {L i : Nat} (h : ∀ j, j ≤ b.length → L < pre a b i j) : ∀ d, i + d ≤ a.length → ∀ j, j ≤ b.length → L < pre a b (i + d) j
  | 0, _, j, hj => h j hj
  | d + 1, hd, j, hj => by
    have ih := pre_beyond h d (by omega)
    induction j with
    | zero =>
      have h0 := ih 0 (by omega)
      rw [pre_zero_right a b _ (by omega)] at h0
      rw [pre_zero_right a b _ hd]
      omega
    | succ j ihj =>
      have h1 := ihj (by omega)
      have h2 := ih j (by omega)
      have h3 := ih (j + 1) hj
      have hx : a[i + d]? = some a[i + d] := by simp
      have hy : b[j]? = some b[j] := by simp
      rw [show i + (d + 1) = i + d + 1 by omega] at h1 ⊢
      rw [pre_step hx hy]
      split <;> omega

/-! ### The band -/
/-- What the band's cell c of row i holds: the distance of the first i and the first i + c - L, capped at L + 1. -/
def band (a b : List Int) (L i c : Nat) : Nat := if L ≤ i + c ∧ i + c ≤ L + b.length then min (pre a b i (i + c - L)) (L + 1) else L + 1

theorem band_le (a b : List Int) (L i c : Nat) : band a b L i c ≤ L + 1 := by unfold band; split <;> omega

/-- Row 0. -/
theorem band_zero_low {a b : List Int} {L c : Nat} (h : c < L) : band a b L 0 c = L + 1 := by unfold band; rw [if_neg (by omega)]
theorem band_zero_high {a b : List Int} {L c : Nat} (h1 : L ≤ c) (h2 : c ≤ 2 * L) : band a b L 0 c = if c ≤ L + b.length then c - L else L + 1 := by
  unfold band
  by_cases h : c ≤ L + b.length
  · rw [if_pos (by omega), if_pos h, pre_zero_left _ _ _ (by omega)]; omega
  · rw [if_neg (by omega), if_neg h]

/-- Outside the text b. -/
theorem band_out {a b : List Int} {L i c : Nat} (h : i + c < L ∨ L + b.length < i + c) : band a b L i c = L + 1 := by unfold band; rw [if_neg (by omega)]
/-- At its head. -/
theorem band_head {a b : List Int} {L i c : Nat} (hi : i ≤ a.length) (h : i + c = L) : band a b L i c = min i (L + 1) := by
  unfold band
  rw [if_pos (by omega), show i + c - L = 0 by omega, pre_zero_right _ _ _ hi]
theorem cap_add (p d M : Nat) : min (min p M + d) M = min (p + d) M := by omega
theorem cap3 (A B C M : Nat) : min (min (min A B) C) M = min (min (min A M) (min B M)) (min C M) := by omega

/-- Within. -/
theorem band_in {a b : List Int} {L i c : Nat} {x y : Int} (hx : a[i]? = some x) (hc : c ≤ 2 * L) (h1 : L ≤ i + c) (hy : b[i + c - L]? = some y) :
    band a b L (i + 1) c = min (min (min (band a b L i c + if x = y then 0 else 1) (if c < 2 * L then band a b L i (c + 1) + 1 else L + 2)) (if 0 < c then band a b L (i + 1) (c - 1) + 1 else L + 2)) (L + 1) := by
  have hxi : i < a.length := (List.getElem?_eq_some_iff.1 hx).1
  have hyi : i + c - L < b.length := (List.getElem?_eq_some_iff.1 hy).1
  have hs := pre_step hx hy
  have g1 := pre_ge_left a b (i := i) (j := i + c - L + 1) (by omega) (by omega)
  have g2 := pre_ge_right a b (i := i) (j := i + c - L + 1) (by omega) (by omega)
  have g3 := pre_ge_left a b (i := i + 1) (j := i + c - L) (by omega) (by omega)
  have g4 := pre_ge_right a b (i := i + 1) (j := i + c - L) (by omega) (by omega)
  have e0 : band a b L (i + 1) c = min (pre a b (i + 1) (i + c - L + 1)) (L + 1) := by
    unfold band; rw [if_pos (by omega), show i + 1 + c - L = i + c - L + 1 by omega]
  have e1 : band a b L i c = min (pre a b i (i + c - L)) (L + 1) := by unfold band; rw [if_pos (by omega)]
  have e2 : band a b L i (c + 1) = min (pre a b i (i + c - L + 1)) (L + 1) := by
    unfold band; rw [if_pos (by omega), show i + (c + 1) - L = i + c - L + 1 by omega]
  have e3 : 0 < c → band a b L (i + 1) (c - 1) = min (pre a b (i + 1) (i + c - L)) (L + 1) := fun hp => by
    unfold band; rw [if_pos (by omega), show i + 1 + (c - 1) - L = i + c - L by omega]
  have t2 : min (if c < 2 * L then band a b L i (c + 1) + 1 else L + 2) (L + 1) = min (pre a b i (i + c - L + 1) + 1) (L + 1) := by
    by_cases hq : c < 2 * L
    · rw [if_pos hq, e2, cap_add]
    · rw [if_neg hq]; omega
  have t3 : min (if 0 < c then band a b L (i + 1) (c - 1) + 1 else L + 2) (L + 1) = min (pre a b (i + 1) (i + c - L) + 1) (L + 1) := by
    by_cases hp : 0 < c
    · rw [if_pos hp, e3 hp, cap_add]
    · rw [if_neg hp]; omega
  rw [e0, hs]
  refine (cap3 _ _ _ _).trans (Eq.trans ?_ (cap3 _ _ _ _).symm)
  rw [t2, t3, e1, cap_add]

/-- If the whole band of a row lies beyond L, so does the distance. -/
theorem band_beyond {a b : List Int} {L i : Nat} (hi : i ≤ a.length) (h : ∀ c, c ≤ 2 * L → band a b L i c = L + 1) : L < lev a b := by
  have hrow : ∀ j, j ≤ b.length → L < pre a b i j := by
    intro j hj
    have g1 := pre_ge_left a b hi hj
    have g2 := pre_ge_right a b hi hj
    by_cases h1 : i ≤ j + L ∧ j ≤ i + L
    · have hb := h (j + L - i) (by omega)
      unfold band at hb
      rw [if_pos (by omega), show i + (j + L - i) - L = j by omega] at hb
      omega
    · omega
  have := pre_beyond hrow (a.length - i) (by omega) b.length (Nat.le_refl _)
  rw [show i + (a.length - i) = a.length by omega, pre_whole] at this
  exact this
/-- The last row's answer. -/
theorem band_last {a b : List Int} {L : Nat} (h1 : a.length ≤ b.length + L) : band a b L a.length (L + b.length - a.length) = min (lev a b) (L + 1) := by
  unfold band
  rw [if_pos (by omega), show a.length + (L + b.length - a.length) - L = b.length by omega, pre_whole]
theorem lev_far {a b : List Int} {L : Nat} (h : b.length + L < a.length ∨ a.length + L < b.length) : L < lev a b := by
  have h1 := lev_len_left a b
  have h2 := lev_len_right a b
  omega
end Go.Proofs.Qxb6600553a
