/-
  The walk of editsReach, by induction on k.
-/
import Derived.Test.Qxb6600553aCloneWalk
namespace Go.Proofs.Qxb6600553a
open Go.RowKit

/-- The bytes with capitals lowered, from place i on. -/
def tail (zs : List Int) (i : Nat) : List Int := (zs.map fold).drop i

theorem tail_at {zs : List Int} {i : Nat} {z : Int} (h : zs[i]? = some z) : tail zs i = fold z :: tail zs (i + 1) := by
  unfold tail
  have hl : i < (zs.map fold).length := by simpa using (List.getElem?_eq_some_iff.1 h).1
  rw [List.drop_eq_getElem_cons hl]
  congr 1
  have : (zs.map fold)[i]? = some (fold z) := by rw [List.getElem?_map, h]; rfl
  exact (List.getElem?_eq_some_iff.1 this).2
theorem tail_end {zs : List Int} {i : Nat} (h : zs.length ≤ i) : tail zs i = [] := by
  unfold tail; exact List.drop_of_length_le (by simpa using h)
theorem tail_length (zs : List Int) (i : Nat) : (tail zs i).length = zs.length - i := by simp [tail]

/-- The answer at (p, q, k): are the tails at most k edits apart? -/
def reachB (za zb : List Int) (p q k : Nat) : Bool := decide (lev (tail za p) (tail zb q) ≤ k)

theorem reach_same {za zb : List Int} {p q k : Nat} {x y : Int} (hx : za[p]? = some x) (hy : zb[q]? = some y) (h : (fold x == fold y) = true) : reachB za zb (p + 1) (q + 1) k = reachB za zb p q k := by
  have e : fold x = fold y := by simpa using h
  unfold reachB
  rw [tail_at hx, tail_at hy, e, lev_same]
theorem reach_left {za zb : List Int} {p q k : Nat} (h : za.length ≤ p) : reachB za zb p q k = decide (zb.length - q ≤ k) := by
  unfold reachB
  rw [tail_end h, lev_nil_left, tail_length]
theorem reach_right {za zb : List Int} {p q k : Nat} (h : zb.length ≤ q) : reachB za zb p q k = decide (za.length - p ≤ k) := by
  unfold reachB
  rw [tail_end h, lev_nil_right, tail_length]
theorem reach_zero {za zb : List Int} {p q : Nat} {x y : Int} (hx : za[p]? = some x) (hy : zb[q]? = some y) (h : (fold x == fold y) = false) : reachB za zb p q 0 = false := by
  have e : ¬ fold x = fold y := by simpa using h
  unfold reachB
  rw [tail_at hx, tail_at hy, lev_diff e]
  simp
theorem reach_succ {za zb : List Int} {p q k : Nat} {x y : Int} (hx : za[p]? = some x) (hy : zb[q]? = some y) (h : (fold x == fold y) = false) :
    reachB za zb p q (k + 1) = (reachB za zb (p + 1) q k || (reachB za zb p (q + 1) k || reachB za zb (p + 1) (q + 1) k)) := by
  have e : ¬ fold x = fold y := by simpa using h
  have e1 : lev (tail za p) (tail zb q) = min (min (lev (tail za (p + 1)) (tail zb q)) (lev (tail za p) (tail zb (q + 1)))) (lev (tail za (p + 1)) (tail zb (q + 1))) + 1 := by
    rw [tail_at hx, tail_at hy, lev_diff e]
  unfold reachB
  rw [e1, Bool.eq_iff_iff]
  simp only [Bool.or_eq_true, decide_eq_true_eq]
  omega

set_option maxHeartbeats 2000000 in
theorem reach_any (ao bo : Option Addr) (ca cb : Nat) (za zb : List Int) (hla : za.length ≤ 1048576) (hlb : zb.length ≤ 1048576) (hba : Bytes za) (hbb : Bytes zb) :
    ∀ (k : Nat) (K : Int), K = k → k ≤ 2 → ∀ (i j : Int) (w : World), BS w ao za → BS w bo zb → 0 ≤ i → i ≤ za.length → 0 ≤ j → j ≤ zb.length →
      Calls Try.prog 8 #[.slice ao za.length ca, .slice bo zb.length cb, .int .i64 i, .int .i64 j, .int .i64 K] w fun e w' => e = .returned (.bool (reachB za zb i.toNat j.toNat k)) ∧ DrewFrom w w' := by
  intro k
  induction k with
  | zero =>
    intro K hK hk2 i j w ha hb hi0 hi1 hj0 hj1
    obtain ⟨i, rfl⟩ := Int.eq_ofNat_of_zero_le hi0
    obtain ⟨j, rfl⟩ := Int.eq_ofNat_of_zero_le hj0
    simp only [Int.toNat_natCast]
    have hK0 : K = 0 := by omega
    have hK2 : K ≤ 2 := by omega
    have HK : Hid (K = ((0 : Nat) : Int)) := hK
    clear hK hi0 hj0
    subst hK0
    go_enter Try.func8, Try.ntmps8
    go_wp2
    go_loopw [2, 3] (fun s t wr => ∃ p q : Nat, p ≤ za.length ∧ q ≤ zb.length ∧ s = .int .i64 p ∧ t = .int .i64 q ∧ reachB za zb p q 0 = reachB za zb i j 0 ∧ DrewFrom w wr) (fun s _ _ => za.length - (intOf s).toNat)
    case atStart => exact ⟨i, j, by omega, by omega, rfl, rfl, rfl, DrewFrom.refl _⟩
    case round =>
      obtain ⟨p, q, hp, hq, rfl, rfl, hre, hd⟩ := hrel
      have HR : Hid (reachB za zb p q 0 = reachB za zb i j 0) := hre
      clear hre
      by_cases hpl : p < za.length
      · by_cases hql : q < zb.length
        · obtain ⟨x, hx⟩ : ∃ x, za[p]? = some x := ⟨za[p], by simp⟩
          obtain ⟨y, hy⟩ : ∃ y, zb[q]? = some y := ⟨zb[q], by simp⟩
          obtain ⟨b1, o1, rfl, c1⟩ := ha.drew hd (by omega)
          obtain ⟨b2, o2, rfl, c2⟩ := hb.drew hd (by omega)
          have d1 := c1 p x hx
          have d2 := c2 q y hy
          have bx := hba x (List.mem_of_getElem? hx)
          have bY := hbb y (List.mem_of_getElem? hy)
          have HX : Hid (za[p]? = some x) := hx
          have HY : Hid (zb[q]? = some y) := hy
          have g1 : (p : Int) < (za.length : Int) := by omega
          have g2 : (q : Int) < (zb.length : Int) := by omega
          have n1 : ((za.length : Int) - (p : Int) == 0) = false := by simp; omega
          have n2 : ((zb.length : Int) - (q : Int) == 0) = false := by simp; omega
          clear hx hy c1 c2
          cases hxy : (fold x == fold y) with
          | true =>
            go_wp2
            go_quiet ((go_at_call 12; exact quiet_of_eq (fold_any _ _ (by omega) (by omega))))
            go_wp2
            go_roundw
            case rel => exact ⟨p + 1, q + 1, by omega, by omega, by go_num, by go_num, (reach_same HX.out HY.out hxy).trans HR.out, hd.drewN _⟩
            case measure => simp [intOf]; omega
          | false =>
            go_wp2
            go_quiet ((go_at_call 12; exact quiet_of_eq (fold_any _ _ (by omega) (by omega))))
            go_wp2
            go_ret
            exact ⟨ret_bool ((reach_zero HX.out HY.out hxy).symm.trans HR.out), hd.drewN _⟩
        · have g1 : (p : Int) < (za.length : Int) := by omega
          have g2 : decide ((q : Int) < (zb.length : Int)) = false := decide_eq_false (by omega)
          have g3 : decide (q < zb.length) = false := decide_eq_false (by omega)
          have n1 : ((za.length : Int) - (p : Int) == 0) = false := by simp; omega
          have n2 : ((zb.length : Int) - (q : Int) == 0) = true := by simp; omega
          go_wp2
          go_quiet (fail)
          go_wp2
          go_ret
          refine ⟨ret_bool ?_, hd.drewN _⟩
          rw [← HR.out, reach_right (by omega)]
          have := HK.out
          exact decide_eq_decide.2 (by omega)
      · have g1 : decide ((p : Int) < (za.length : Int)) = false := decide_eq_false (by omega)
        have g3 : decide (p < za.length) = false := decide_eq_false (by omega)
        have n1 : ((za.length : Int) - (p : Int) == 0) = true := by simp; omega
        go_wp2
        go_quiet (fail)
        go_wp2
        go_ret
        refine ⟨ret_bool ?_, hd.drewN _⟩
        rw [← HR.out, reach_left (by omega)]
        have := HK.out
        exact decide_eq_decide.2 (by omega)
  | succ k ih =>
    intro K hK hk2 i j w ha hb hi0 hi1 hj0 hj1
    obtain ⟨i, rfl⟩ := Int.eq_ofNat_of_zero_le hi0
    obtain ⟨j, rfl⟩ := Int.eq_ofNat_of_zero_le hj0
    simp only [Int.toNat_natCast]
    have hK0 : 0 < K := by omega
    have hK2 : K ≤ 2 := by omega
    have HK : Hid (K = (((k + 1) : Nat) : Int)) := hK
    clear hK hi0 hj0
    go_enter Try.func8, Try.ntmps8
    go_wp2
    go_loopw [2, 3] (fun s t wr => ∃ p q : Nat, p ≤ za.length ∧ q ≤ zb.length ∧ s = .int .i64 p ∧ t = .int .i64 q ∧ reachB za zb p q (k + 1) = reachB za zb i j (k + 1) ∧ DrewFrom w wr) (fun s _ _ => za.length - (intOf s).toNat)
    case atStart => exact ⟨i, j, by omega, by omega, rfl, rfl, rfl, DrewFrom.refl _⟩
    case round =>
      obtain ⟨p, q, hp, hq, rfl, rfl, hre, hd⟩ := hrel
      have HR : Hid (reachB za zb p q (k + 1) = reachB za zb i j (k + 1)) := hre
      clear hre
      by_cases hpl : p < za.length
      · by_cases hql : q < zb.length
        · obtain ⟨x, hx⟩ : ∃ x, za[p]? = some x := ⟨za[p], by simp⟩
          obtain ⟨y, hy⟩ : ∃ y, zb[q]? = some y := ⟨zb[q], by simp⟩
          obtain ⟨b1, o1, rfl, c1⟩ := ha.drew hd (by omega)
          obtain ⟨b2, o2, rfl, c2⟩ := hb.drew hd (by omega)
          have d1 := c1 p x hx
          have d2 := c2 q y hy
          have bx := hba x (List.mem_of_getElem? hx)
          have bY := hbb y (List.mem_of_getElem? hy)
          have HX : Hid (za[p]? = some x) := hx
          have HY : Hid (zb[q]? = some y) := hy
          have g1 : (p : Int) < (za.length : Int) := by omega
          have g2 : (q : Int) < (zb.length : Int) := by omega
          have n1 : ((za.length : Int) - (p : Int) == 0) = false := by simp; omega
          have n2 : ((zb.length : Int) - (q : Int) == 0) = false := by simp; omega
          clear hx hy c1 c2
          cases hxy : (fold x == fold y) with
          | true =>
            go_wp2
            go_quiet ((go_at_call 12; exact quiet_of_eq (fold_any _ _ (by omega) (by omega))))
            go_wp2
            go_roundw
            case rel => exact ⟨p + 1, q + 1, by omega, by omega, by go_num, by go_num, (reach_same HX.out HY.out hxy).trans HR.out, hd.drewN _⟩
            case measure => simp [intOf]; omega
          | false =>
            have HS := reach_succ (k := k) HX.out HY.out hxy
            have ih1 := fun (wx : World) (hdx : DrewFrom w wx) => ih (K - 1) (by have := HK.out; omega) (by omega) ((p : Int) + 1) (q : Int) wx (ha.drew hdx) (hb.drew hdx) (by omega) (by omega) (by omega) (by omega)
            have ih2 := fun (wx : World) (hdx : DrewFrom w wx) => ih (K - 1) (by have := HK.out; omega) (by omega) (p : Int) ((q : Int) + 1) wx (ha.drew hdx) (hb.drew hdx) (by omega) (by omega) (by omega) (by omega)
            have ih3 := fun (wx : World) (hdx : DrewFrom w wx) => ih (K - 1) (by have := HK.out; omega) (by omega) ((p : Int) + 1) ((q : Int) + 1) wx (ha.drew hdx) (hb.drew hdx) (by omega) (by omega) (by omega) (by omega)
            rw [show ((p : Int) + 1).toNat = p + 1 by omega, Int.toNat_natCast] at ih1
            rw [show ((q : Int) + 1).toNat = q + 1 by omega, Int.toNat_natCast] at ih2
            rw [show ((p : Int) + 1).toNat = p + 1 by omega, show ((q : Int) + 1).toNat = q + 1 by omega] at ih3
            have HSS : Hid (reachB za zb p q (k + 1) = (reachB za zb (p + 1) q k || (reachB za zb p (q + 1) k || reachB za zb (p + 1) (q + 1) k))) := HS
            clear HS ih
            generalize reachB za zb (p + 1) q k = r1 at ih1 HSS
            generalize reachB za zb p (q + 1) k = r2 at ih2 HSS
            generalize reachB za zb (p + 1) (q + 1) k = r3 at ih3 HSS
            have tok1 : True := trivial
            have tok2 : True := trivial
            have hk0 : (K == 0) = false := by simp; omega
            go_wp2
            go_quiet ((go_at_call 12; exact quiet_of_eq (fold_any _ _ (by omega) (by omega))))
            have hd1 := hd.drewN nq
            cases r1 with
            | true =>
              go_wp2_with (go_at_call 8; refine (ih1 _ hd1).mono ?_; rintro e w2 ⟨rfl, hd2⟩)
              go_ret
              exact ⟨ret_bool (HSS.out.symm.trans HR.out), hd1.trans hd2⟩
            | false =>
              cases r2 with
              | true =>
                go_wp2_with (first
                  | (go_at_call 8; have _t := tok1; refine (ih1 _ hd1).mono ?_; rintro e w2 ⟨rfl, hd2⟩; have hd3 := hd1.trans hd2; clear _t tok1)
                  | (go_at_call 8; refine (ih2 _ hd3).mono ?_; rintro e w3 ⟨rfl, hd4⟩))
                go_ret
                exact ⟨ret_bool (HSS.out.symm.trans HR.out), hd3.trans hd4⟩
              | false =>
                go_wp2_with (first
                  | (go_at_call 8; have _t := tok1; refine (ih1 _ hd1).mono ?_; rintro e w2 ⟨rfl, hd2⟩; have hd3 := hd1.trans hd2; clear _t tok1)
                  | (go_at_call 8; have _t := tok2; refine (ih2 _ hd3).mono ?_; rintro e w3 ⟨rfl, hd4⟩; have hd5 := hd3.trans hd4; clear _t tok2)
                  | (go_at_call 8; refine (ih3 _ hd5).mono ?_; rintro e w4 ⟨rfl, hd6⟩))
                go_ret
                exact ⟨ret_bool ((by simpa using HSS.out.symm : r3 = reachB za zb p q (k + 1)).trans HR.out), hd5.trans hd6⟩
        · have g1 : (p : Int) < (za.length : Int) := by omega
          have g2 : decide ((q : Int) < (zb.length : Int)) = false := decide_eq_false (by omega)
          have g3 : decide (q < zb.length) = false := decide_eq_false (by omega)
          have n1 : ((za.length : Int) - (p : Int) == 0) = false := by simp; omega
          have n2 : ((zb.length : Int) - (q : Int) == 0) = true := by simp; omega
          go_wp2
          go_quiet (fail)
          go_wp2
          go_ret
          refine ⟨ret_bool ?_, hd.drewN _⟩
          rw [← HR.out, reach_right (by omega)]
          have := HK.out
          exact decide_eq_decide.2 (by omega)
      · have g1 : decide ((p : Int) < (za.length : Int)) = false := decide_eq_false (by omega)
        have g3 : decide (p < za.length) = false := decide_eq_false (by omega)
        have n1 : ((za.length : Int) - (p : Int) == 0) = true := by simp; omega
        go_wp2
        go_quiet (fail)
        go_wp2
        go_ret
        refine ⟨ret_bool ?_, hd.drewN _⟩
        rw [← HR.out, reach_left (by omega)]
        have := HK.out
        exact decide_eq_decide.2 (by omega)
end Go.Proofs.Qxb6600553a
