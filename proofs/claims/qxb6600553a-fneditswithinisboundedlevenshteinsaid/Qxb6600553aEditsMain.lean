/-
  The walk of the law's own function.
-/
import Derived.Test.Qxb6600553aWithin
namespace Go.Proofs.Qxb6600553a
open Go.RowKit

theorem within_any (ao bo : Option Addr) (ca cb : Nat) (za zb : List Int) (L : Nat) (w : World) (hL : L ≤ 2) (hla : za.length ≤ 1048576) (hlb : zb.length ≤ 1048576) (hba : Bytes za) (hbb : Bytes zb) (ha : BS w ao za) (hb : BS w bo zb) :
    Calls Try.prog 13 #[.slice ao za.length ca, .slice bo zb.length cb, .int .i64 L] w fun e w' => e = .returned (.int .i64 (min (lev (za.map fold) (zb.map fold)) (L + 1) : Nat)) ∧ Below w.heap.size w w' := by
  by_cases hf : zb.length + L < za.length ∨ za.length + L < zb.length
  · refine (within_far ao bo ca cb za zb L w hL hla hlb hf).mono ?_
    rintro e w' ⟨rfl, hbel⟩
    refine ⟨ret_int ?_, hbel⟩
    have := lev_far (a := za.map fold) (b := zb.map fold) (L := L) (by simpa using hf)
    omega
  · exact within_near ao bo ca cb za zb L w hL hla hlb hba hbb ha hb (by omega) (by omega)

theorem export_any (ao bo : Option Addr) (ca cb : Nat) (za zb : List Int) (L : Nat) (w : World) (hL : L ≤ 2) (hla : za.length ≤ 1048576) (hlb : zb.length ≤ 1048576) (hba : Bytes za) (hbb : Bytes zb) (ha : BS w ao za) (hb : BS w bo zb) :
    Calls Try.prog 9 #[.slice ao za.length ca, .slice bo zb.length cb, .int .i64 L] w fun e w' => e = .returned (.int .i64 (min (lev (za.map fold) (zb.map fold)) (L + 1) : Nat)) ∧ Below w.heap.size w w' := by
  have h13 := within_any ao bo ca cb za zb L w hL hla hlb hba hbb ha hb
  go_enter Try.func9, Try.ntmps9
  go_wp2_with (go_at_call 13; refine h13.mono ?_; rintro e w' ⟨rfl, hbel⟩)
  go_ret
  exact ⟨rfl, by assumption⟩

/-- The least k from m up to L with lev ≤ k; else L + 1. -/
def wantAt (d L m : Nat) : Nat := if d ≤ L then max d m else L + 1

theorem BS.own {w w' : World} {zs : List Int} {ao : Option Addr} (h : 0 < zs.length → ∃ g, ao = some ⟨g, 0, none⟩ ∧ w.heap.size ≤ g ∧ g < w'.heap.size ∧ ∀ j z, zs[j]? = some z → w'.cell? ⟨g, 0 + j, none⟩ = some (.int .u8 z)) : BS w' ao zs := by
  intro hp
  obtain ⟨g, rfl, _, _, hc⟩ := h hp
  exact ⟨g, 0, rfl, hc⟩

theorem tail_zero (zs : List Int) : tail zs 0 = zs.map fold := by simp [tail]

theorem wantAt_top (d L : Nat) : wantAt d L (L + 1) = L + 1 := by unfold wantAt; split <;> omega
theorem wantAt_zero (d L : Nat) : wantAt d L 0 = min d (L + 1) := by unfold wantAt; split <;> omega
theorem wantAt_hit {za zb : List Int} {m L : Nat} (h : reachB za zb 0 0 m = true) (hm : m + 1 ≤ L + 1) : wantAt (lev (za.map fold) (zb.map fold)) L m = m := by
  unfold reachB at h
  rw [tail_zero, tail_zero, decide_eq_true_eq] at h
  unfold wantAt
  rw [if_pos (by omega)]
  omega
theorem wantAt_miss {za zb : List Int} {m L : Nat} (h : reachB za zb 0 0 m = false) : wantAt (lev (za.map fold) (zb.map fold)) L m = wantAt (lev (za.map fold) (zb.map fold)) L (m + 1) := by
  unfold reachB at h
  rw [tail_zero, tail_zero, decide_eq_false_iff_not] at h
  unfold wantAt
  split <;> omega

set_option maxHeartbeats 500000 in
set_option maxRecDepth 8000 in
theorem main_any (ao bo : Option Addr) (ca cb : Nat) (za zb : List Int) (k : Int) (w : World) (hla : za.length ≤ maxLen) (hlb : zb.length ≤ maxLen) (hba : Bytes za) (hbb : Bytes zb) (ha : BS w ao za) (hb : BS w bo zb) (hna : ao = none → za = []) (hnb : bo = none → zb = []) :
    Calls Try.prog 3 #[.slice ao za.length ca, .slice bo zb.length cb, .int .i64 k] w fun e w' => e = .returned (.bool true) ∧ Below w.heap.size w w' := by
  have h6 := zz6_any ao bo za.length zb.length ca cb k w hla hlb
  unfold maxLen at hla hlb
  by_cases g1 : (524288 : Int) < (za.length : Int)
  · have d1 : decide ((524288 : Int) < (za.length : Int)) = true := decide_eq_true g1
    go_enter Try.func3, Try.ntmps3
    go_wp2_with (go_at_call 6; refine h6.mono ?_; rintro e w' ⟨⟨b, rfl⟩, rfl⟩; cases b)
    all_goals (go_ret; exact ⟨rfl, Below.refl _ _⟩)
  have d1 : decide ((524288 : Int) < (za.length : Int)) = false := decide_eq_false g1
  by_cases g2 : (524288 : Int) < (zb.length : Int)
  · have d2 : decide ((524288 : Int) < (zb.length : Int)) = true := decide_eq_true g2
    go_enter Try.func3, Try.ntmps3
    go_wp2_with (go_at_call 6; refine h6.mono ?_; rintro e w' ⟨⟨b, rfl⟩, rfl⟩; cases b)
    all_goals (go_ret; exact ⟨rfl, Below.refl _ _⟩)
  have d2 : decide ((524288 : Int) < (zb.length : Int)) = false := decide_eq_false g2
  by_cases g3 : k < 0
  · have d3 : decide (k < 0) = true := decide_eq_true g3
    go_enter Try.func3, Try.ntmps3
    go_wp2_with (go_at_call 6; refine h6.mono ?_; rintro e w' ⟨⟨b, rfl⟩, rfl⟩; cases b)
    all_goals (go_ret; exact ⟨rfl, Below.refl _ _⟩)
  by_cases g4 : 2 < k
  · have d3 : decide (k < 0) = false := decide_eq_false g3
    have d4 : decide (2 < k) = true := decide_eq_true g4
    go_enter Try.func3, Try.ntmps3
    go_wp2_with (go_at_call 6; refine h6.mono ?_; rintro e w' ⟨⟨b, rfl⟩, rfl⟩; cases b)
    all_goals (go_ret; exact ⟨rfl, Below.refl _ _⟩)
  obtain ⟨L, rfl⟩ := Int.eq_ofNat_of_zero_le (show 0 ≤ k by omega)
  have d3 : decide ((L : Int) < 0) = false := decide_eq_false g3
  have d4 : decide (2 < (L : Int)) = false := decide_eq_false g4
  have hL : L ≤ 2 := by omega
  have tok1 : True := trivial
  have tok2 : True := trivial
  have h7 := clone_any ao ca za w ha (by omega) hna
  go_enter Try.func3, Try.ntmps3
  go_wp2_with (first
    | (go_at_call 6; refine h6.mono ?_; rintro e w' ⟨⟨b, rfl⟩, rfl⟩; cases b)
    | (go_at_call 7; have _t := tok1; refine h7.mono ?_; rintro e w1 ⟨v1, rfl, ⟨a1, c1, rfl, o1⟩, b1⟩; clear _t tok1; have h7' := clone_any bo cb zb w1 (hb.later b1) (by omega) hnb)
    | (go_at_call 7; have _t := tok2; refine h7'.mono ?_; rintro e w2 ⟨v2, rfl, ⟨a2, c2, rfl, o2⟩, b2⟩; clear _t tok2))
  · go_ret
    exact ⟨rfl, Below.refl _ _⟩
  · have hbw : Below w.heap.size w w2 := Below.trans b1 (b2.mono b1.size)
    have s1 : BS w2 a1 za := (BS.own o1).later b2
    have s2 : BS w2 a2 zb := BS.own o2
    clear o1 o2 b1 b2 h6 h7 h7' ha hb hna hnb hla hlb d1 d2 d3 d4 g3
    go_loopw [7, 8] (fun s t wr => ∃ (m : Nat) (kk : Int), m ≤ L + 1 ∧ kk = (m : Int) - 1 ∧ s = .int .i64 (wantAt (lev (za.map fold) (zb.map fold)) L m : Nat) ∧ t = .int .i64 kk ∧ DrewFrom w2 wr) (fun _ t _ => (intOf t + 1).toNat)
    case atStart => exact ⟨L + 1, L, by omega, by omega, by rw [wantAt_top]; rfl, rfl, DrewFrom.refl _⟩
    case round =>
      obtain ⟨m, kk, hm, hkk, rfl, rfl, hd⟩ := hrel
      by_cases hm0 : m = 0
      · obtain rfl : kk = -1 := by omega
        subst hm0
        have h9 := export_any a1 a2 c1 c2 za zb L wr hL (by omega) (by omega) hba hbb (s1.drew hd) (s2.drew hd)
        rw [← wantAt_zero] at h9
        generalize wantAt (lev (za.map fold) (zb.map fold)) L 0 = V at h9
        clear hkk
        go_wp2_with (go_at_call 9; refine h9.mono ?_; rintro e w' ⟨rfl, hbel⟩)
        go_ret
        refine ⟨by simp, ?_⟩
        have hw := hbw.trans (hd.below w.heap.size)
        exact hw.trans (hbel.mono hw.size)
      · obtain ⟨m, rfl⟩ : ∃ n, m = n + 1 := ⟨m - 1, by omega⟩
        obtain rfl : kk = (m : Int) := by omega
        clear hkk hm0
        have hr := reach_any a1 a2 c1 c2 za zb (by omega) (by omega) hba hbb m (m : Int) rfl (by omega) 0 0 wr (s1.drew hd) (s2.drew hd) (by omega) (by omega) (by omega) (by omega)
        rw [show (0 : Int).toNat = 0 from rfl] at hr
        cases hR : reachB za zb 0 0 m with
        | true =>
          rw [hR] at hr
          have Hw : Hid _ := wantAt_hit hR hm
          clear hR
          generalize wantAt (lev (za.map fold) (zb.map fold)) L (m + 1) = V
          go_wp2_with (go_at_call 8; refine hr.mono ?_; rintro e w' ⟨rfl, hd'⟩)
          go_roundw
          case rel => exact ⟨m, (m : Int) - 1, by omega, rfl, by rw [Hw.out], rfl, hd.trans hd'⟩
          case measure => simp [intOf]
        | false =>
          rw [hR] at hr
          have Hw : Hid _ := wantAt_miss (L := L) hR
          clear hR
          generalize wantAt (lev (za.map fold) (zb.map fold)) L (m + 1) = V at Hw
          go_wp2_with (go_at_call 8; refine hr.mono ?_; rintro e w' ⟨rfl, hd'⟩)
          go_roundw
          case rel => exact ⟨m, (m : Int) - 1, by omega, rfl, by rw [Hw.out], rfl, hd.trans hd'⟩
          case measure => simp [intOf]
/-- A row of bytes that came in. -/
theorem row_bytes {w : World} {x : Addr} {len cap : Nat} {zs : List Int} (hl : len ≤ cap) (hz : zs.length = cap) (hc : ∀ i, i < zs.length → w.cell? (x.add i) = some (.int .u8 (zs.getD i 0))) : BS w (some x) (zs.take len) := by
  intro hp
  have h0 : 0 < zs.length := by rw [List.length_take] at hp; omega
  have hs : x.spot = none := by simpa [Addr.add] using World.cell?_spot (hc 0 h0)
  obtain ⟨b, off, spot⟩ := x
  obtain rfl : spot = none := hs
  refine ⟨b, off, rfl, fun j z hj => ?_⟩
  have hjl : j < zs.length := by
    have := (List.getElem?_eq_some_iff.1 hj).1
    rw [List.length_take] at this
    omega
  have hjz : zs[j]? = some z := by
    rw [List.getElem?_take] at hj
    split at hj
    · exact hj
    · cases hj
  have h := hc j hjl
  rw [show zs.getD j 0 = z by simp [List.getD, hjz]] at h
  rw [← h]
  by_cases hj0 : j = 0
  · subst hj0; simp [Addr.add]
  · simp [Addr.add, hj0]
theorem wf_bytes {zs : List Int} (h : ∀ n ∈ zs, (Lit.int .u8 n).wf = true) (len : Nat) : Bytes (zs.take len) := by
  intro z hz
  have := h z (List.mem_of_mem_take hz)
  have e1 : IntKind.min .u8 = 0 := by decide
  have e2 : IntKind.max .u8 = 255 := by decide
  simp only [Lit.wf, e1, e2, Bool.and_eq_true, decide_eq_true_eq] at this
  exact this
end Go.Proofs.Qxb6600553a
