/-
  (*objectNames).repeats: one contract for every state of the object.
-/
import Derived.Test.Qxb6605580aRestWalks
namespace Go.Proofs.Qxb6605580a
open Go.RowKit Go.Maps

/-! ### The order of byte strings -/
theorem bl_trich : ∀ (x y : List UInt8), Op.bytesLess x y = false → Op.bytesLess y x = false → x = y
  | [], [], _, _ => rfl
  | _ :: _, [], _, h => by simp [Op.bytesLess] at h
  | [], _ :: _, h, _ => by simp [Op.bytesLess] at h
  | a :: x, b :: y, h1, h2 => by
    simp only [Op.bytesLess, Bool.or_eq_false_iff, decide_eq_false_iff_not, Bool.and_eq_false_iff, beq_eq_false_iff_ne] at h1 h2
    have e : a = b := by
      rw [← UInt8.toNat_inj]
      have := h1.1; have := h2.1
      simp only [UInt8.lt_iff_toNat_lt] at *
      omega
    subst e
    rw [bl_trich x y (by simpa using h1.2) (by simpa using h2.2)]

theorem bl_trans : ∀ (a b c : List UInt8), Op.bytesLess b a = false → Op.bytesLess c b = false → Op.bytesLess c a = false
  | [], [], c, _, h => h
  | [], _ :: _, [], h, h' => by simp [Op.bytesLess] at h'
  | [], _ :: _, _ :: _, _, _ => by simp [Op.bytesLess]
  | _ :: _, [], _, h, _ => by simp [Op.bytesLess] at h
  | _ :: _, _ :: _, [], _, h => by simp [Op.bytesLess] at h
  | a :: x, b :: y, c :: z, h1, h2 => by
    simp only [Op.bytesLess, Bool.or_eq_false_iff, decide_eq_false_iff_not, Bool.and_eq_false_iff, beq_eq_false_iff_ne, UInt8.lt_iff_toNat_lt, ne_eq, ← UInt8.toNat_inj] at h1 h2 ⊢
    refine ⟨by omega, ?_⟩
    by_cases e : c.toNat = a.toNat
    · right
      refine bl_trans x y z ?_ ?_
      · rcases h1.2 with h | h
        · omega
        · exact h
      · rcases h2.2 with h | h
        · omega
        · exact h
    · exact .inl e

/-- In order, each not below those ahead of it. -/
def Srt (l : List ByteArray) : Prop := l.Pairwise fun a b => Op.bytesLess b.toList a.toList = false

theorem srt_of_asc : ∀ (l : List ByteArray), Asc l → Srt l
  | [], _ => List.Pairwise.nil
  | [_], _ => List.pairwise_singleton _ _
  | a :: b :: r, h => by
    have ih := srt_of_asc (b :: r) (fun j s t h1 h2 => h (j + 1) s t h1 h2)
    have hab := h 0 a b rfl rfl
    refine List.Pairwise.cons (fun c hc => ?_) ih
    rcases List.mem_cons.1 hc with rfl | hc
    · exact hab
    · exact bl_trans _ _ _ hab ((List.pairwise_cons.1 ih).1 c hc)

theorem srt_last {l : List ByteArray} (h : Srt l) {t : ByteArray} (ht : l.getLast? = some t) : ∀ a ∈ l, Op.bytesLess t.toList a.toList = false ∨ a = t := by
  intro a ha
  obtain ⟨r, rfl⟩ := List.getLast?_eq_some_iff.1 ht
  rcases List.mem_append.1 ha with ha | ha
  · exact .inl ((List.pairwise_append.1 h).2.2 a ha t (by simp))
  · exact .inr (by simpa using ha)

theorem gt_spec {x l : ByteArray} (h : gtB x l = true) : Op.bytesLess x.toList l.toList = false ∧ x.toList ≠ l.toList := by
  simpa [gtB] using h

theorem bl_irrefl : ∀ (x : List UInt8), Op.bytesLess x x = false
  | [] => by simp [Op.bytesLess]
  | a :: x => by simp [Op.bytesLess, bl_irrefl x]

/-- What comes behind the last of a list in order is new, and the list stays in order. -/
theorem srt_new {l : List ByteArray} (h : Srt l) {t x : ByteArray} (ht : l.getLast? = some t) (hg : gtB x t = true) : memB x l = false ∧ Srt (l ++ [x]) := by
  obtain ⟨g1, g2⟩ := gt_spec hg
  have hle : ∀ a ∈ l, Op.bytesLess t.toList a.toList = false := fun a ha => by
    rcases srt_last h ht a ha with h | rfl
    · exact h
    · exact bl_irrefl _
  constructor
  · cases hm : memB x l with
    | false => rfl
    | true =>
      obtain ⟨a, ha, e⟩ := List.any_eq_true.1 hm
      have e : x.toList = a.toList := by simpa using e
      exact absurd (bl_trich _ _ g1 (by rw [e]; exact hle a ha)) g2
  · refine List.pairwise_append.2 ⟨h, List.pairwise_singleton _ _, fun a ha b hb => ?_⟩
    have : b = x := by simpa using hb
    subst this
    exact bl_trans _ _ _ (hle a ha) g1

theorem inOrd_new {few rest : List ByteArray} {x : ByteArray} (hl : few.length = 8) (hs : rest ≠ [] → Srt (few ++ rest)) (h : InOrd few rest x) : memB x (few ++ rest) = false ∧ Srt (few ++ (rest ++ [x])) := by
  rw [← List.append_assoc]
  rcases h with ⟨l, hl1, hg⟩ | ⟨rfl, ha, l, hl1, hg⟩
  · have hne : rest ≠ [] := by rintro rfl; simp at hl1
    refine srt_new (hs hne) ?_ hg
    rw [List.getLast?_append, hl1]; rfl
  · rw [List.append_nil]
    refine srt_new (srt_of_asc _ ha) ?_ hg
    rw [List.getLast?_eq_getElem?, hl]; exact hl1

/-! ### The object as a list of names -/
def Rep (w : World) (O : Nat) (acc : List ByteArray) : Prop :=
  ∃ few n rv mv, ObjAt w O few n rv mv ∧ (∀ s ∈ acc, s.size ≤ maxLen) ∧
    ((n < 8 ∧ rv = .slice none 0 0 ∧ mv = .map none ∧ acc = few.take n) ∨
     (n = 8 ∧ mv = .map none ∧ ∃ rest, w.ownsRow (O + 1) 9 1 rv rest.length (rest.map .string) ∧ acc = few ++ rest ∧ (rest ≠ [] → Srt acc)) ∨
     (n = 8 ∧ ∃ M cnt, mv = .map (some M) ∧ O < M ∧ SetIs w M cnt acc ∧ cnt ≤ acc.length))

/-- The names given are now one more. -/
def Told (w' : World) (O : Nat) (acc : List ByteArray) (x : ByteArray) : Prop :=
  ∃ acc', Rep w' O acc' ∧ (∀ y, memB y acc' = (memB y acc || y.toList == x.toList)) ∧ acc'.length ≤ acc.length + 1

theorem memB_congr {x y : ByteArray} (h : (y.toList == x.toList) = true) (l : List ByteArray) : memB y l = memB x l := by
  have e : y.toList = x.toList := by simpa using h
  simp [memB, e]

theorem told_hit {w' : World} {O : Nat} {acc : List ByteArray} {x : ByteArray} (h : Rep w' O acc) (hm : memB x acc = true) : Told w' O acc x :=
  ⟨acc, h, fun y => by
    cases e : (y.toList == x.toList) with
    | false => simp
    | true => rw [memB_congr e, hm]; rfl, by omega⟩

theorem told_new {w' : World} {O : Nat} {acc : List ByteArray} {x : ByteArray} (h : Rep w' O (acc ++ [x])) : Told w' O acc x :=
  ⟨acc ++ [x], h, fun y => by rw [memB_append, memB_one], by simp⟩

theorem sizes_snoc {acc : List ByteArray} {x : ByteArray} (h : ∀ s ∈ acc, s.size ≤ maxLen) (hx : x.size ≤ maxLen) : ∀ s ∈ acc ++ [x], s.size ≤ maxLen := by
  intro s hs
  rcases List.mem_append.1 hs with hs | hs
  · exact h s hs
  · have : s = x := by simpa using hs
    rw [this]; exact hx

theorem repeats_any (O : Nat) (acc : List ByteArray) (x : ByteArray) (w : World) (hR : Rep w O acc) (hl : acc.length ≤ 60000) (hx : x.size ≤ maxLen) :
    Calls Try.prog 25 #[.pointer (some ⟨O, 0, none⟩), .string x] w fun e w' => e = .returned (.bool (memB x acc)) ∧ Told w' O acc x ∧ Below O w w' := by
  obtain ⟨few, n, rv, mv, hO, hz, ⟨hn, rfl, rfl, rfl⟩ | ⟨rfl, rfl, rest, hr, rfl, hs⟩ | ⟨rfl, M, cnt, rfl, hOM, ⟨D, hown, hhas⟩, hc⟩⟩ := hR
  · refine (rep_few O few n _ _ x w hO hn).mono ?_
    rintro e w' ⟨rfl, m, rfl⟩
    refine ⟨rfl, ?_⟩
    cases hm : memB x (few.take n) with
    | true =>
      simp only [if_true]
      exact ⟨told_hit ⟨few, n, _, _, hO.same (w' := w.drewN m) rfl, hz, .inl ⟨hn, rfl, rfl, rfl⟩⟩ hm, ⟨rfl, rfl, rfl, Nat.le_refl _, fun _ _ => rfl⟩⟩
    | false =>
      simp only [Bool.false_eq_true, if_false]
      have hO' := ObjAt.setFew (hO.same (w' := w.drewN m) rfl) hn x
      have ht : (few.set n x).take (n + 1) = few.take n ++ [x] := by
        have hlen := hO.len
        rw [take_snoc (s := x) (by rw [List.getElem?_set_self (by omega)]), List.take_set_of_le (Nat.le_refl _)]
      refine ⟨told_new ⟨few.set n x, n + 1, _, _, hO', sizes_snoc hz hx, ?_⟩, ?_⟩
      · by_cases h8 : n + 1 < 8
        · exact .inl ⟨h8, rfl, rfl, ht.symm⟩
        · refine .inr (.inl ⟨by omega, rfl, [], World.ownsRow_nil _ _ _ _, ?_, by simp⟩)
          rw [List.append_nil, ← ht, List.take_of_length_le (by have := hO'.len; omega)]
      · exact ((below_drewN (Below.refl O w) m).setCell (by simp) _).setCell (by simp) _
  · refine (rep_rest O few rest rv x w hO hr (by simp at hl; omega) hx hz).mono ?_
    rintro e w' (⟨rfl, hi, ⟨rv', hO', hr'⟩, hb⟩ | ⟨rfl, ⟨M, hOM, hO', hset⟩, hb⟩)
    · obtain ⟨h1, h2⟩ := inOrd_new hO.len hs hi
      refine ⟨by rw [h1], told_new ⟨few, 8, rv', _, hO', sizes_snoc hz hx, .inr (.inl ⟨rfl, rfl, rest ++ [x], hr', by simp, fun _ => by simpa using h2⟩)⟩, hb⟩
    · refine ⟨rfl, told_new ⟨few, 8, _, _, hO', sizes_snoc hz hx, .inr (.inr ⟨rfl, M, _, rfl, hOM, hset, ?_⟩)⟩, hb⟩
      have := hO.len
      simp; omega
  · refine (rep_set O M cnt few rv x w D hO hx hown (by omega)).mono ?_
    rintro e w' ⟨rfl, hown', hg⟩
    refine ⟨by rw [hhas x hx], told_new ⟨few, 8, rv, _, hO.grown hg (fun e => by injection e; omega), sizes_snoc hz hx, .inr (.inr ⟨rfl, M, _, rfl, hOM, SetIs.put hown hhas hown', ?_⟩)⟩, ?_⟩
    · simp; omega
    · exact (Below.refl O w).grown hg (by have := hO.lt; omega) (fun k hk => by injection hk; omega)

/-- The shim. -/
theorem zzRepeats_any (O : Nat) (acc : List ByteArray) (x : ByteArray) (w : World) (hR : Rep w O acc) (hl : acc.length ≤ 60000) (hx : x.size ≤ maxLen) :
    Calls Try.prog 10 #[.pointer (some ⟨O, 0, none⟩), .string x] w fun e w' => e = .returned (.bool (memB x acc)) ∧ Told w' O acc x ∧ Below O w w' := by
  have h := repeats_any O acc x w hR hl hx
  go_enter Try.func10, Try.ntmps10
  go_wp2_with (go_at_call 25; refine h.mono ?_; rintro e w' ⟨rfl, ht, hb⟩)
  go_ret
  exact ⟨rfl, ht, hb⟩
end Go.Proofs.Qxb6605580a
