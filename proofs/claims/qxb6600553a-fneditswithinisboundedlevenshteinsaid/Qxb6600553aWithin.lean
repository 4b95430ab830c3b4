/-
  The walk of editsWithin.
-/
import Derived.Test.Qxb6600553aEditsReach
namespace Go.Proofs.Qxb6600553a
open Go.RowKit

/-- Block B is an array of five ints. -/
def RowR (w : World) (B : Nat) (r : List Int) : Prop := w.heap[B]? = some (.cells (r.map (Value.int .i64)).toArray 29 (0, 0)) ∧ r.length = 5
theorem RowR.cell {w : World} {g : Nat} {l : List Int} (h : RowR w g l) {j : Nat} {s : Int} (hj : l[j]? = some s) : w.cell? ⟨g, j, none⟩ = some (.int .i64 s) := by
  obtain ⟨h, _⟩ := h
  simp [World.cell?, h, hj]
theorem RowR.free {w : World} {g : Nat} {l : List Int} (h : RowR w g l) (j : Nat) : w.frozen? ⟨g, j, none⟩ = false := by
  obtain ⟨h, _⟩ := h
  simp [World.frozen?, h]
theorem RowR.set {w : World} {g : Nat} {l : List Int} (h : RowR w g l) (j : Nat) (s : Int) : RowR (w.setCell ⟨g, j, none⟩ (.int .i64 s)) g (l.set j s) := by
  obtain ⟨h, h2⟩ := h
  refine ⟨?_, by simpa using h2⟩
  simp only [World.setCell, Array.getElem?_modify, if_true, h, Option.map_some]
  simp [List.map_set]
theorem RowR.other {w : World} {g : Nat} {l : List Int} (h : RowR w g l) {a : Addr} (ha : g ≠ a.block) (v : Value) : RowR (w.setCell a v) g l :=
  ⟨by rw [Below.heap_setCell _ _ _ _ ha]; exact h.1, h.2⟩
theorem RowR.alloc {w : World} {g : Nat} {l : List Int} (h : RowR w g l) (o : Obj) : RowR (w.alloc o) g l :=
  ⟨by rw [Below.heap_alloc _ _ _ (Array.getElem?_eq_some_iff.1 h.1).1]; exact h.1, h.2⟩
theorem RowR.drewN {w : World} {g : Nat} {l : List Int} (h : RowR w g l) (m : Nat) : RowR (w.drewN m) g l := h
theorem RowR.lt {w : World} {g : Nat} {l : List Int} (h : RowR w g l) : g < w.heap.size := (Array.getElem?_eq_some_iff.1 h.1).1
theorem RowR.made (w : World) : RowR (w.alloc (.cells #[.int .i64 0, .int .i64 0, .int .i64 0, .int .i64 0, .int .i64 0] 29)) w.heap.size [0, 0, 0, 0, 0] :=
  ⟨by show (w.heap.push _)[w.heap.size]? = _; simp, rfl⟩

theorem ret_int {a b : Int} (h : a = b) : Ending.returned (.int .i64 a) = .returned (.int .i64 b) := by rw [h]

/-- The row in memory bears row i of the band. -/
def Bears (A B : List Int) (L i c : Nat) (r : List Int) : Prop := ∀ e, e < c → i + e ≤ L + B.length → r[e]? = some (band A B L i e : Int)

theorem Bears.set {A B : List Int} {L i c : Nat} {r : List Int} (h : Bears A B L i c r) (hc : c < r.length) {v : Int} (hv : i + c ≤ L + B.length → v = band A B L i c) : Bears A B L i (c + 1) (r.set c v) := by
  intro e he hr
  by_cases ee : e = c
  · subst ee
    rw [List.getElem?_set_self hc, hv hr]
  · rw [List.getElem?_set_ne (Ne.symm ee)]
    exact h e (by omega) hr
theorem Bears.other {A B : List Int} {L i c : Nat} {r : List Int} (h : Bears A B L i c r) (v : Int) : Bears A B L i c (r.set c v) := by
  intro e he hr
  rw [List.getElem?_set_ne (by omega)]
  exact h e he hr

theorem BS.later {w w' : World} {ao : Option Addr} {zs : List Int} (h : BS w ao zs) (hb : Below w.heap.size w w') : BS w' ao zs := by
  intro hp
  obtain ⟨b, off, rfl, hc⟩ := h hp
  exact ⟨b, off, rfl, fun j z hj => (hb.cell (p := ⟨b, off + j, none⟩) (lt_of_cell (hc j z hj))).trans (hc j z hj)⟩

theorem inner_step {A B : List Int} {L i c lst NB : Nat} {D V S : Int} {r rn : List Int} {w wx : World} (hcl : c ≤ 2 * L) (hD : D = (c : Int) - (L : Int)) (hl1 : lst ≤ L + 1) (hl2 : ∀ e, e < c → lst ≤ band A B L (i + 1) e)
    (hrow : RowR wx w.heap.size r) (hrn : RowR wx NB rn) (hbn : ∀ e, e < c → rn[e]? = some (band A B L (i + 1) e : Int)) (hbel : Below w.heap.size w wx) (hN : w.heap.size < NB) (h5 : L ≤ 2)
    (hv : V = (band A B L (i + 1) c : Nat)) (hS : S = if V < (lst : Int) then V else (lst : Int)) :
    ∃ (c' : Nat) (D' : Int) (lst' : Nat) (rn' : List Int), c' ≤ 2 * L + 1 ∧ D' = (c' : Int) - (L : Int) ∧ Value.int .i64 (D + 1) = Value.int .i64 D' ∧ Value.int .i64 S = Value.int .i64 lst' ∧ lst' ≤ L + 1 ∧ (∀ e, e < c' → lst' ≤ band A B L (i + 1) e) ∧
      RowR (wx.setCell ⟨NB, c, none⟩ (.int .i64 V)) w.heap.size r ∧ RowR (wx.setCell ⟨NB, c, none⟩ (.int .i64 V)) NB rn' ∧ (∀ e, e < c' → rn'[e]? = some (band A B L (i + 1) e : Int)) ∧ Below w.heap.size w (wx.setCell ⟨NB, c, none⟩ (.int .i64 V)) := by
  subst hv
  have hb := band_le A B L (i + 1) c
  have hS' : S = ((min (band A B L (i + 1) c) lst : Nat) : Int) := by rw [hS]; split <;> omega
  refine ⟨c + 1, D + 1, min (band A B L (i + 1) c) lst, rn.set c (band A B L (i + 1) c : Nat), by omega, by omega, rfl, by rw [hS'], by omega, ?_, hrow.other (by simp; omega) _, hrn.set c _, ?_, hbel.setCell (by show w.heap.size ≤ NB; omega) _⟩
  · intro e he
    by_cases ee : e = c
    · subst ee; omega
    · have := hl2 e (by omega); omega
  · intro e he
    by_cases ee : e = c
    · subst ee
      rw [List.getElem?_set_self (by have := hrn.2; omega)]
    · rw [List.getElem?_set_ne (Ne.symm ee)]
      exact hbn e (by omega)

set_option maxHeartbeats 1000000 in
theorem within_far (ao bo : Option Addr) (ca cb : Nat) (za zb : List Int) (L : Nat) (w : World) (hL : L ≤ 2) (hla : za.length ≤ 1048576) (hlb : zb.length ≤ 1048576) (hf : zb.length + L < za.length ∨ za.length + L < zb.length) :
    Calls Try.prog 13 #[.slice ao za.length ca, .slice bo zb.length cb, .int .i64 L] w fun e w' => e = .returned (.int .i64 ((L : Int) + 1)) ∧ Below w.heap.size w w' := by
  by_cases h1 : (L : Int) < (za.length : Int) - (zb.length : Int)
  · have d1 : decide ((L : Int) < (za.length : Int) - (zb.length : Int)) = true := decide_eq_true h1
    clear hf
    go_enter Try.func13, Try.ntmps13
    go_wp2
    go_ret
    exact ⟨rfl, Below.refl _ _⟩
  · have d1 : decide ((L : Int) < (za.length : Int) - (zb.length : Int)) = false := decide_eq_false h1
    have h2 : (L : Int) < (zb.length : Int) - (za.length : Int) := by omega
    have d2 : decide ((L : Int) < (zb.length : Int) - (za.length : Int)) = true := decide_eq_true h2
    clear hf
    go_enter Try.func13, Try.ntmps13
    go_wp2
    go_ret
    exact ⟨rfl, Below.refl _ _⟩

set_option maxHeartbeats 20000000 in
set_option maxRecDepth 8000 in
theorem within_near (ao bo : Option Addr) (ca cb : Nat) (za zb : List Int) (L : Nat) (w : World) (hL : L ≤ 2) (hla : za.length ≤ 1048576) (hlb : zb.length ≤ 1048576) (hba : Bytes za) (hbb : Bytes zb) (ha : BS w ao za) (hb : BS w bo zb)
    (hn1 : za.length ≤ zb.length + L) (hn2 : zb.length ≤ za.length + L) :
    Calls Try.prog 13 #[.slice ao za.length ca, .slice bo zb.length cb, .int .i64 L] w fun e w' => e = .returned (.int .i64 (min (lev (za.map fold) (zb.map fold)) (L + 1) : Nat)) ∧ Below w.heap.size w w' := by
  have d1 : decide ((L : Int) < (za.length : Int) - (zb.length : Int)) = false := decide_eq_false (by omega)
  have d2 : decide ((L : Int) < (zb.length : Int) - (za.length : Int)) = false := decide_eq_false (by omega)
  go_enter Try.func13, Try.ntmps13
  go_wp2
  go_loopw [8] (fun t wr => ∃ (c : Nat) (D : Int) (r : List Int), c ≤ 2 * L + 1 ∧ D = (c : Int) - (L : Int) ∧ t = .int .i64 D ∧ RowR wr w.heap.size r ∧ Bears (za.map fold) (zb.map fold) L 0 c r ∧ Below w.heap.size w wr) (fun t _ => ((L : Int) + 1 - intOf t).toNat)
  case atStart => exact ⟨0, -(L : Int), _, by omega, by omega, rfl, RowR.made w, fun e he => by omega, (Below.refl _ _).alloc (Nat.le_refl _) _⟩
  case round =>
    obtain ⟨c, D, r, hc, hD, rfl, hrow, hbear, hbel⟩ := hrel
    have HD : Hid (D = (c : Int) - (L : Int)) := hD
    by_cases hcl : c ≤ 2 * L
    · have hLD : (L : Int) + D = (c : Int) := by omega
      have hc5 : (c : Int) < 5 := by omega
      have hDL : D ≤ (L : Int) := by omega
      have hD2 : -2 ≤ D := by omega
      obtain ⟨y, hy⟩ : ∃ y, r[c]? = some y := ⟨r[c]'(by have := hrow.2; omega), by simp⟩
      have e1 := hrow.cell hy
      have f1 := hrow.free
      clear hD hy
      by_cases hneg : D < 0
      · have dn : decide (0 ≤ D) = false := decide_eq_false (by omega)
        go_wp2
        go_roundw
        case rel => exact ⟨c + 1, D + 1, _, by omega, by have := HD.out; omega, rfl, hrow.set c _, hbear.set (by have := hrow.2; omega) (fun _ => by rw [band_zero_low (by omega)]; omega), hbel.setCell (Nat.le_refl _) _⟩
        case measure => simp [intOf]; omega
      · have dn : decide (0 ≤ D) = true := decide_eq_true (by omega)
        go_wp2
        go_roundw
        case rel => exact ⟨c + 1, D + 1, _, by omega, by have := HD.out; omega, rfl, (hrow.set c _).set c _, (hbear.other _).set (by have := hrow.2; simp; omega) (fun hr => by rw [band_zero_high (by omega) hcl, if_pos (by omega)]; have := HD.out; omega), (hbel.setCell (Nat.le_refl _) _).setCell (Nat.le_refl _) _⟩
        case measure => simp [intOf]; omega
    · have hDL : ¬ D ≤ (L : Int) := by omega
      clear hD
      go_wp2
      rw [show c = 2 * L + 1 by omega] at hbear
      clear HD hDL hc hcl d1 d2
      go_loopw [9] (fun t wr => ∃ (i : Nat) (r : List Int), i ≤ za.length ∧ t = .int .i64 ((i : Int) + 1) ∧ RowR wr w.heap.size r ∧ Bears (za.map fold) (zb.map fold) L i (2 * L + 1) r ∧ Below w.heap.size w wr) (fun t _ => ((za.length : Int) + 1 - intOf t).toNat)
      case atStart => exact ⟨0, r, by omega, rfl, hrow, hbear, hbel⟩
      case round =>
        clear hrow hbear hbel
        obtain ⟨i, r, hi, rfl, hrow, hbear, hbel⟩ := hrel
        by_cases hil : i < za.length
        · have hRB := hrow.lt
          have dI : decide ((i : Int) + 1 ≤ (za.length : Int)) = true := decide_eq_true (by omega)
          have hI : (i : Int) + 1 ≤ (za.length : Int) := by omega
          go_wp2
          have hnew := RowR.made wr
          have hrowA := hrow.alloc (.cells #[.int .i64 0, .int .i64 0, .int .i64 0, .int .i64 0, .int .i64 0] 29)
          have hbelA : Below w.heap.size w (wr.alloc (.cells #[.int .i64 0, .int .i64 0, .int .i64 0, .int .i64 0, .int .i64 0] 29)) := hbel.alloc hbel.size _
          have hne : ¬ w.heap.size = wr.heap.size := by omega
          have hne' : ¬ wr.heap.size = w.heap.size := by omega
          go_loopw [11, 12] (fun s t wx => ∃ (c : Nat) (D : Int) (lst : Nat) (rn : List Int), c ≤ 2 * L + 1 ∧ D = (c : Int) - (L : Int) ∧ t = .int .i64 D ∧ s = .int .i64 lst ∧ lst ≤ L + 1 ∧ (∀ e, e < c → lst ≤ band (za.map fold) (zb.map fold) L (i + 1) e) ∧
              RowR wx w.heap.size r ∧ RowR wx wr.heap.size rn ∧ (∀ e, e < c → rn[e]? = some (band (za.map fold) (zb.map fold) L (i + 1) e : Int)) ∧ Below w.heap.size w wx) (fun _ t _ => ((L : Int) + 1 - intOf t).toNat)
          case atStart => exact ⟨0, -(L : Int), L + 1, _, by omega, by omega, rfl, rfl, by omega, fun e he => by omega, hrowA, hnew, fun e he => by omega, hbelA⟩
          case round =>
            clear hrow hnew hrowA hbelA hbel
            obtain ⟨c, D, lst, rn, hc, hD, rfl, rfl, hl1, hl2, hrow, hrn, hbn, hbel⟩ := hrel
            have HD : Hid (D = (c : Int) - (L : Int)) := hD
            by_cases hcl : c ≤ 2 * L
            · have hLD : (L : Int) + D = (c : Int) := by omega
              have hc5 : (c : Int) < 5 := by omega
              have hDL : D ≤ (L : Int) := by omega
              have hD2 : -2 ≤ D := by omega
              obtain ⟨y, hy⟩ : ∃ y, rn[c]? = some y := ⟨rn[c]'(by have := hrn.2; omega), by simp⟩
              have e1 := hrn.cell hy
              have f1 := hrn.free
              have Hbear : Hid _ := hbear
              have Hl1 : Hid _ := hl1
              have Hl2 : Hid _ := hl2
              have Hbn : Hid _ := hbn
              clear hbear hl1 hl2 hbn hy
              by_cases hlow : i + 1 + c < L
              · have hJ0 : (i : Int) + 1 + D < 0 := by omega
                have Hlow : Hid _ := hlow
                clear hD hlow
                go_wp2
                go_roundw
                case rel =>
                  exact inner_step hcl HD.out Hl1.out Hl2.out hrow hrn Hbn.out hbel hRB hL (by rw [band_out (Or.inl Hlow.out)]; omega) rfl
                case measure => simp [intOf]; omega
              · by_cases hhigh : L + zb.length < i + 1 + c
                · have hJ0 : ¬ (i : Int) + 1 + D < 0 := by omega
                  have hJ1 : (zb.length : Int) < (i : Int) + 1 + D := by omega
                  have Hhigh : Hid _ := hhigh
                  clear hD hlow hhigh
                  go_wp2
                  go_roundw
                  case rel =>
                    exact inner_step hcl HD.out Hl1.out Hl2.out hrow hrn Hbn.out hbel hRB hL (by rw [band_out (Or.inr (by have := Hhigh.out; simpa using this))]; omega) rfl
                  case measure => simp [intOf]; omega
                · by_cases hhead : i + 1 + c = L
                  · have hJ0 : ¬ (i : Int) + 1 + D < 0 := by omega
                    have hJ1 : ¬ (zb.length : Int) < (i : Int) + 1 + D := by omega
                    have hJ2 : (i : Int) + 1 + D = 0 := by omega
                    have Hhead : Hid _ := hhead
                    clear hD hlow hhigh hhead
                    go_wp2
                    go_roundw
                    case rel =>
                      exact inner_step hcl HD.out Hl1.out Hl2.out hrow hrn Hbn.out hbel hRB hL (by rw [band_head (by simp; omega) Hhead.out]; have := Hhead.out; omega) rfl
                    case measure => simp [intOf]; omega
                  · obtain ⟨jn, hjn⟩ : ∃ jn, i + c = L + jn := ⟨i + c - L, by omega⟩
                    have hjm : jn < zb.length := by omega
                    have hJ : (i : Int) + 1 + D = (jn : Int) + 1 := by omega
                    have hj1 : (jn : Int) < (zb.length : Int) := by omega
                    have hj2 : (i : Int) < (za.length : Int) := by omega
                    have hj3 : ¬ (jn : Int) + 1 < 0 := by omega
                    have hj4 : ¬ (zb.length : Int) < (jn : Int) + 1 := by omega
                    have hj5 : ((jn : Int) + 1 == 0) = false := by simp; omega
                    obtain ⟨x, hx⟩ : ∃ x, za[i]? = some x := ⟨za[i], by simp⟩
                    obtain ⟨z, hz⟩ : ∃ z, zb[jn]? = some z := ⟨zb[jn], by simp⟩
                    obtain ⟨b1, o1, rfl, c1⟩ := ha.later hbel (by omega)
                    obtain ⟨b2, o2, rfl, c2⟩ := hb.later hbel (by omega)
                    have k1 := c1 i x hx
                    have k2 := c2 jn z hz
                    have bx := hba x (List.mem_of_getElem? hx)
                    have bz := hbb z (List.mem_of_getElem? hz)
                    have e2 := hrow.cell (Hbear.out c (by omega) (by simp; omega))
                    have Hin := band_in (a := za.map fold) (b := zb.map fold) (L := L) (i := i) (c := c) (x := fold x) (y := fold z) (by rw [List.getElem?_map, hx]; rfl) hcl (by omega) (by rw [show i + c - L = jn by omega, List.getElem?_map, hz]; rfl)
                    replace Hin : Hid _ := Hin
                    have bl1 := band_le (za.map fold) (zb.map fold) L i c
                    have bl2 := band_le (za.map fold) (zb.map fold) L i (c + 1)
                    have bl3 := band_le (za.map fold) (zb.map fold) L (i + 1) (c - 1)
                    have Hhigh : Hid _ := hhigh
                    have Hjn : Hid _ := hjn
                    clear c1 c2 hx hz hhead hhigh hlow hjn
                    by_cases hr0 : c < 2 * L
                    · by_cases hl0 : 0 < c
                      · have hr1 : D < (L : Int) := by omega
                        have e3 := hrow.cell (Hbear.out (c + 1) (by omega) (by have := Hhigh.out; simp; omega))
                        generalize band (za.map fold) (zb.map fold) L i (c + 1) = B2 at bl2 e3 Hin
                        have hl1 : -(L : Int) < D := by omega
                        obtain ⟨C, hC⟩ : ∃ C : Nat, C = c - 1 := ⟨_, rfl⟩
                        have hC1 : (c : Int) - 1 = (C : Int) := by omega
                        have e4 := hrn.cell (Hbn.out C (by omega))
                        rw [← hC] at Hin bl3
                        replace hC : Hid _ := hC
                        generalize band (za.map fold) (zb.map fold) L (i + 1) C = B3 at bl3 e4 Hin
                        generalize hB1 : band (za.map fold) (zb.map fold) L i c = B1 at bl1 e2 Hin
                        clear hD hB1
                        cases hxz : (fold x == fold z) with
                        | true =>
                          by_cases q1 : (B2 : Int) + 1 < (B1 : Int)
                          · by_cases q2 : (B3 : Int) + 1 < (B2 : Int) + 1
                            · have q2' : (B3 : Int) < (B2 : Int) := by omega
                              by_cases q3 : (L : Int) + 1 < (B3 : Int) + 1
                              · have q3' : (L : Int) < (B3 : Int) := by omega
                                exfalso; omega
                              · have q3' : ¬ (L : Int) < (B3 : Int) := by omega
                                go_wp2
                                go_quiet ((go_at_call 14; exact quiet_of_eq (lower_any _ _ (by omega) (by omega))))
                                replace hrow : RowR (wr.drewN nq) _ _ := hrow
                                replace hrn : RowR (wr.drewN nq) _ _ := hrn
                                replace hbel : Below _ _ (wr.drewN nq) := ⟨hbel.1, hbel.2, hbel.3, hbel.4, hbel.5⟩
                                replace e1 : (wr.drewN nq).cell? _ = _ := e1
                                replace e2 : (wr.drewN nq).cell? _ = _ := e2
                                replace e3 : (wr.drewN nq).cell? _ = _ := e3
                                replace e4 : (wr.drewN nq).cell? _ = _ := e4
                                replace f1 : ∀ j : Nat, (wr.drewN nq).frozen? ⟨_, j, none⟩ = false := f1
                                clear k1 k2
                                generalize wr.drewN nq = wq at *
                                go_wp2
                                go_roundw
                                case rel =>
                                  exact inner_step hcl HD.out Hl1.out Hl2.out hrow hrn Hbn.out hbel hRB hL (by rw [Hin.out]; rw [if_pos (by simpa using hxz), if_pos (by omega), if_pos (by omega)]; omega) (by first | rfl | (split <;> split <;> omega))
                                case measure => simp [intOf]; omega
                            · have q2' : ¬ (B3 : Int) < (B2 : Int) := by omega
                              by_cases q3 : (L : Int) + 1 < (B2 : Int) + 1
                              · have q3' : (L : Int) < (B2 : Int) := by omega
                                exfalso; omega
                              · have q3' : ¬ (L : Int) < (B2 : Int) := by omega
                                go_wp2
                                go_quiet ((go_at_call 14; exact quiet_of_eq (lower_any _ _ (by omega) (by omega))))
                                replace hrow : RowR (wr.drewN nq) _ _ := hrow
                                replace hrn : RowR (wr.drewN nq) _ _ := hrn
                                replace hbel : Below _ _ (wr.drewN nq) := ⟨hbel.1, hbel.2, hbel.3, hbel.4, hbel.5⟩
                                replace e1 : (wr.drewN nq).cell? _ = _ := e1
                                replace e2 : (wr.drewN nq).cell? _ = _ := e2
                                replace e3 : (wr.drewN nq).cell? _ = _ := e3
                                replace e4 : (wr.drewN nq).cell? _ = _ := e4
                                replace f1 : ∀ j : Nat, (wr.drewN nq).frozen? ⟨_, j, none⟩ = false := f1
                                clear k1 k2
                                generalize wr.drewN nq = wq at *
                                go_wp2
                                go_roundw
                                case rel =>
                                  exact inner_step hcl HD.out Hl1.out Hl2.out hrow hrn Hbn.out hbel hRB hL (by rw [Hin.out]; rw [if_pos (by simpa using hxz), if_pos (by omega), if_pos (by omega)]; omega) (by first | rfl | (split <;> split <;> omega))
                                case measure => simp [intOf]; omega
                          · by_cases q2 : (B3 : Int) + 1 < (B1 : Int)
                            · by_cases q3 : (L : Int) + 1 < (B3 : Int) + 1
                              · have q3' : (L : Int) < (B3 : Int) := by omega
                                exfalso; omega
                              · have q3' : ¬ (L : Int) < (B3 : Int) := by omega
                                go_wp2
                                go_quiet ((go_at_call 14; exact quiet_of_eq (lower_any _ _ (by omega) (by omega))))
                                replace hrow : RowR (wr.drewN nq) _ _ := hrow
                                replace hrn : RowR (wr.drewN nq) _ _ := hrn
                                replace hbel : Below _ _ (wr.drewN nq) := ⟨hbel.1, hbel.2, hbel.3, hbel.4, hbel.5⟩
                                replace e1 : (wr.drewN nq).cell? _ = _ := e1
                                replace e2 : (wr.drewN nq).cell? _ = _ := e2
                                replace e3 : (wr.drewN nq).cell? _ = _ := e3
                                replace e4 : (wr.drewN nq).cell? _ = _ := e4
                                replace f1 : ∀ j : Nat, (wr.drewN nq).frozen? ⟨_, j, none⟩ = false := f1
                                clear k1 k2
                                generalize wr.drewN nq = wq at *
                                go_wp2
                                go_roundw
                                case rel =>
                                  exact inner_step hcl HD.out Hl1.out Hl2.out hrow hrn Hbn.out hbel hRB hL (by rw [Hin.out]; rw [if_pos (by simpa using hxz), if_pos (by omega), if_pos (by omega)]; omega) (by first | rfl | (split <;> split <;> omega))
                                case measure => simp [intOf]; omega
                            · by_cases q3 : (L : Int) + 1 < (B1 : Int)
                              · exfalso; omega
                              · go_wp2
                                go_quiet ((go_at_call 14; exact quiet_of_eq (lower_any _ _ (by omega) (by omega))))
                                replace hrow : RowR (wr.drewN nq) _ _ := hrow
                                replace hrn : RowR (wr.drewN nq) _ _ := hrn
                                replace hbel : Below _ _ (wr.drewN nq) := ⟨hbel.1, hbel.2, hbel.3, hbel.4, hbel.5⟩
                                replace e1 : (wr.drewN nq).cell? _ = _ := e1
                                replace e2 : (wr.drewN nq).cell? _ = _ := e2
                                replace e3 : (wr.drewN nq).cell? _ = _ := e3
                                replace e4 : (wr.drewN nq).cell? _ = _ := e4
                                replace f1 : ∀ j : Nat, (wr.drewN nq).frozen? ⟨_, j, none⟩ = false := f1
                                clear k1 k2
                                generalize wr.drewN nq = wq at *
                                go_wp2
                                go_roundw
                                case rel =>
                                  exact inner_step hcl HD.out Hl1.out Hl2.out hrow hrn Hbn.out hbel hRB hL (by rw [Hin.out]; rw [if_pos (by simpa using hxz), if_pos (by omega), if_pos (by omega)]; omega) (by first | rfl | (split <;> split <;> omega))
                                case measure => simp [intOf]; omega
                        | false =>
                          by_cases q1 : (B2 : Int) + 1 < (B1 : Int) + 1
                          · have q1' : (B2 : Int) < (B1 : Int) := by omega
                            by_cases q2 : (B3 : Int) + 1 < (B2 : Int) + 1
                            · have q2' : (B3 : Int) < (B2 : Int) := by omega
                              by_cases q3 : (L : Int) + 1 < (B3 : Int) + 1
                              · have q3' : (L : Int) < (B3 : Int) := by omega
                                exfalso; omega
                              · have q3' : ¬ (L : Int) < (B3 : Int) := by omega
                                go_wp2
                                go_quiet ((go_at_call 14; exact quiet_of_eq (lower_any _ _ (by omega) (by omega))))
                                replace hrow : RowR (wr.drewN nq) _ _ := hrow
                                replace hrn : RowR (wr.drewN nq) _ _ := hrn
                                replace hbel : Below _ _ (wr.drewN nq) := ⟨hbel.1, hbel.2, hbel.3, hbel.4, hbel.5⟩
                                replace e1 : (wr.drewN nq).cell? _ = _ := e1
                                replace e2 : (wr.drewN nq).cell? _ = _ := e2
                                replace e3 : (wr.drewN nq).cell? _ = _ := e3
                                replace e4 : (wr.drewN nq).cell? _ = _ := e4
                                replace f1 : ∀ j : Nat, (wr.drewN nq).frozen? ⟨_, j, none⟩ = false := f1
                                clear k1 k2
                                generalize wr.drewN nq = wq at *
                                go_wp2
                                go_roundw
                                case rel =>
                                  exact inner_step hcl HD.out Hl1.out Hl2.out hrow hrn Hbn.out hbel hRB hL (by rw [Hin.out]; rw [if_neg (by simpa using hxz), if_pos (by omega), if_pos (by omega)]; omega) (by first | rfl | (split <;> split <;> omega))
                                case measure => simp [intOf]; omega
                            · have q2' : ¬ (B3 : Int) < (B2 : Int) := by omega
                              by_cases q3 : (L : Int) + 1 < (B2 : Int) + 1
                              · have q3' : (L : Int) < (B2 : Int) := by omega
                                exfalso; omega
                              · have q3' : ¬ (L : Int) < (B2 : Int) := by omega
                                go_wp2
                                go_quiet ((go_at_call 14; exact quiet_of_eq (lower_any _ _ (by omega) (by omega))))
                                replace hrow : RowR (wr.drewN nq) _ _ := hrow
                                replace hrn : RowR (wr.drewN nq) _ _ := hrn
                                replace hbel : Below _ _ (wr.drewN nq) := ⟨hbel.1, hbel.2, hbel.3, hbel.4, hbel.5⟩
                                replace e1 : (wr.drewN nq).cell? _ = _ := e1
                                replace e2 : (wr.drewN nq).cell? _ = _ := e2
                                replace e3 : (wr.drewN nq).cell? _ = _ := e3
                                replace e4 : (wr.drewN nq).cell? _ = _ := e4
                                replace f1 : ∀ j : Nat, (wr.drewN nq).frozen? ⟨_, j, none⟩ = false := f1
                                clear k1 k2
                                generalize wr.drewN nq = wq at *
                                go_wp2
                                go_roundw
                                case rel =>
                                  exact inner_step hcl HD.out Hl1.out Hl2.out hrow hrn Hbn.out hbel hRB hL (by rw [Hin.out]; rw [if_neg (by simpa using hxz), if_pos (by omega), if_pos (by omega)]; omega) (by first | rfl | (split <;> split <;> omega))
                                case measure => simp [intOf]; omega
                          · have q1' : ¬ (B2 : Int) < (B1 : Int) := by omega
                            by_cases q2 : (B3 : Int) + 1 < (B1 : Int) + 1
                            · have q2' : (B3 : Int) < (B1 : Int) := by omega
                              by_cases q3 : (L : Int) + 1 < (B3 : Int) + 1
                              · have q3' : (L : Int) < (B3 : Int) := by omega
                                exfalso; omega
                              · have q3' : ¬ (L : Int) < (B3 : Int) := by omega
                                go_wp2
                                go_quiet ((go_at_call 14; exact quiet_of_eq (lower_any _ _ (by omega) (by omega))))
                                replace hrow : RowR (wr.drewN nq) _ _ := hrow
                                replace hrn : RowR (wr.drewN nq) _ _ := hrn
                                replace hbel : Below _ _ (wr.drewN nq) := ⟨hbel.1, hbel.2, hbel.3, hbel.4, hbel.5⟩
                                replace e1 : (wr.drewN nq).cell? _ = _ := e1
                                replace e2 : (wr.drewN nq).cell? _ = _ := e2
                                replace e3 : (wr.drewN nq).cell? _ = _ := e3
                                replace e4 : (wr.drewN nq).cell? _ = _ := e4
                                replace f1 : ∀ j : Nat, (wr.drewN nq).frozen? ⟨_, j, none⟩ = false := f1
                                clear k1 k2
                                generalize wr.drewN nq = wq at *
                                go_wp2
                                go_roundw
                                case rel =>
                                  exact inner_step hcl HD.out Hl1.out Hl2.out hrow hrn Hbn.out hbel hRB hL (by rw [Hin.out]; rw [if_neg (by simpa using hxz), if_pos (by omega), if_pos (by omega)]; omega) (by first | rfl | (split <;> split <;> omega))
                                case measure => simp [intOf]; omega
                            · have q2' : ¬ (B3 : Int) < (B1 : Int) := by omega
                              by_cases q3 : (L : Int) + 1 < (B1 : Int) + 1
                              · have q3' : (L : Int) < (B1 : Int) := by omega
                                go_wp2
                                go_quiet ((go_at_call 14; exact quiet_of_eq (lower_any _ _ (by omega) (by omega))))
                                replace hrow : RowR (wr.drewN nq) _ _ := hrow
                                replace hrn : RowR (wr.drewN nq) _ _ := hrn
                                replace hbel : Below _ _ (wr.drewN nq) := ⟨hbel.1, hbel.2, hbel.3, hbel.4, hbel.5⟩
                                replace e1 : (wr.drewN nq).cell? _ = _ := e1
                                replace e2 : (wr.drewN nq).cell? _ = _ := e2
                                replace e3 : (wr.drewN nq).cell? _ = _ := e3
                                replace e4 : (wr.drewN nq).cell? _ = _ := e4
                                replace f1 : ∀ j : Nat, (wr.drewN nq).frozen? ⟨_, j, none⟩ = false := f1
                                clear k1 k2
                                generalize wr.drewN nq = wq at *
                                go_wp2
                                go_roundw
                                case rel =>
                                  exact inner_step hcl HD.out Hl1.out Hl2.out hrow hrn Hbn.out hbel hRB hL (by rw [Hin.out]; rw [if_neg (by simpa using hxz), if_pos (by omega), if_pos (by omega)]; omega) (by first | rfl | (split <;> split <;> omega))
                                case measure => simp [intOf]; omega
                              · have q3' : ¬ (L : Int) < (B1 : Int) := by omega
                                go_wp2
                                go_quiet ((go_at_call 14; exact quiet_of_eq (lower_any _ _ (by omega) (by omega))))
                                replace hrow : RowR (wr.drewN nq) _ _ := hrow
                                replace hrn : RowR (wr.drewN nq) _ _ := hrn
                                replace hbel : Below _ _ (wr.drewN nq) := ⟨hbel.1, hbel.2, hbel.3, hbel.4, hbel.5⟩
                                replace e1 : (wr.drewN nq).cell? _ = _ := e1
                                replace e2 : (wr.drewN nq).cell? _ = _ := e2
                                replace e3 : (wr.drewN nq).cell? _ = _ := e3
                                replace e4 : (wr.drewN nq).cell? _ = _ := e4
                                replace f1 : ∀ j : Nat, (wr.drewN nq).frozen? ⟨_, j, none⟩ = false := f1
                                clear k1 k2
                                generalize wr.drewN nq = wq at *
                                go_wp2
                                go_roundw
                                case rel =>
                                  exact inner_step hcl HD.out Hl1.out Hl2.out hrow hrn Hbn.out hbel hRB hL (by rw [Hin.out]; rw [if_neg (by simpa using hxz), if_pos (by omega), if_pos (by omega)]; omega) (by first | rfl | (split <;> split <;> omega))
                                case measure => simp [intOf]; omega
                      · have hr1 : D < (L : Int) := by omega
                        have e3 := hrow.cell (Hbear.out (c + 1) (by omega) (by have := Hhigh.out; simp; omega))
                        generalize band (za.map fold) (zb.map fold) L i (c + 1) = B2 at bl2 e3 Hin
                        have hl1 : ¬ -(L : Int) < D := by omega
                        clear bl3
                        generalize hB1 : band (za.map fold) (zb.map fold) L i c = B1 at bl1 e2 Hin
                        clear hD hB1
                        cases hxz : (fold x == fold z) with
                        | true =>
                          by_cases q1 : (B2 : Int) + 1 < (B1 : Int)
                          · by_cases q2 : (L : Int) + 1 < (B2 : Int) + 1
                            · have q2' : (L : Int) < (B2 : Int) := by omega
                              exfalso; omega
                            · have q2' : ¬ (L : Int) < (B2 : Int) := by omega
                              go_wp2
                              go_quiet ((go_at_call 14; exact quiet_of_eq (lower_any _ _ (by omega) (by omega))))
                              replace hrow : RowR (wr.drewN nq) _ _ := hrow
                              replace hrn : RowR (wr.drewN nq) _ _ := hrn
                              replace hbel : Below _ _ (wr.drewN nq) := ⟨hbel.1, hbel.2, hbel.3, hbel.4, hbel.5⟩
                              replace e1 : (wr.drewN nq).cell? _ = _ := e1
                              replace e2 : (wr.drewN nq).cell? _ = _ := e2
                              replace e3 : (wr.drewN nq).cell? _ = _ := e3
                              replace f1 : ∀ j : Nat, (wr.drewN nq).frozen? ⟨_, j, none⟩ = false := f1
                              clear k1 k2
                              generalize wr.drewN nq = wq at *
                              go_wp2
                              go_roundw
                              case rel =>
                                exact inner_step hcl HD.out Hl1.out Hl2.out hrow hrn Hbn.out hbel hRB hL (by rw [Hin.out]; rw [if_pos (by simpa using hxz), if_pos (by omega), if_neg (by omega)]; omega) (by first | rfl | (split <;> split <;> omega))
                              case measure => simp [intOf]; omega
                          · by_cases q2 : (L : Int) + 1 < (B1 : Int)
                            · exfalso; omega
                            · go_wp2
                              go_quiet ((go_at_call 14; exact quiet_of_eq (lower_any _ _ (by omega) (by omega))))
                              replace hrow : RowR (wr.drewN nq) _ _ := hrow
                              replace hrn : RowR (wr.drewN nq) _ _ := hrn
                              replace hbel : Below _ _ (wr.drewN nq) := ⟨hbel.1, hbel.2, hbel.3, hbel.4, hbel.5⟩
                              replace e1 : (wr.drewN nq).cell? _ = _ := e1
                              replace e2 : (wr.drewN nq).cell? _ = _ := e2
                              replace e3 : (wr.drewN nq).cell? _ = _ := e3
                              replace f1 : ∀ j : Nat, (wr.drewN nq).frozen? ⟨_, j, none⟩ = false := f1
                              clear k1 k2
                              generalize wr.drewN nq = wq at *
                              go_wp2
                              go_roundw
                              case rel =>
                                exact inner_step hcl HD.out Hl1.out Hl2.out hrow hrn Hbn.out hbel hRB hL (by rw [Hin.out]; rw [if_pos (by simpa using hxz), if_pos (by omega), if_neg (by omega)]; omega) (by first | rfl | (split <;> split <;> omega))
                              case measure => simp [intOf]; omega
                        | false =>
                          by_cases q1 : (B2 : Int) + 1 < (B1 : Int) + 1
                          · have q1' : (B2 : Int) < (B1 : Int) := by omega
                            by_cases q2 : (L : Int) + 1 < (B2 : Int) + 1
                            · have q2' : (L : Int) < (B2 : Int) := by omega
                              exfalso; omega
                            · have q2' : ¬ (L : Int) < (B2 : Int) := by omega
                              go_wp2
                              go_quiet ((go_at_call 14; exact quiet_of_eq (lower_any _ _ (by omega) (by omega))))
                              replace hrow : RowR (wr.drewN nq) _ _ := hrow
                              replace hrn : RowR (wr.drewN nq) _ _ := hrn
                              replace hbel : Below _ _ (wr.drewN nq) := ⟨hbel.1, hbel.2, hbel.3, hbel.4, hbel.5⟩
                              replace e1 : (wr.drewN nq).cell? _ = _ := e1
                              replace e2 : (wr.drewN nq).cell? _ = _ := e2
                              replace e3 : (wr.drewN nq).cell? _ = _ := e3
                              replace f1 : ∀ j : Nat, (wr.drewN nq).frozen? ⟨_, j, none⟩ = false := f1
                              clear k1 k2
                              generalize wr.drewN nq = wq at *
                              go_wp2
                              go_roundw
                              case rel =>
                                exact inner_step hcl HD.out Hl1.out Hl2.out hrow hrn Hbn.out hbel hRB hL (by rw [Hin.out]; rw [if_neg (by simpa using hxz), if_pos (by omega), if_neg (by omega)]; omega) (by first | rfl | (split <;> split <;> omega))
                              case measure => simp [intOf]; omega
                          · have q1' : ¬ (B2 : Int) < (B1 : Int) := by omega
                            by_cases q2 : (L : Int) + 1 < (B1 : Int) + 1
                            · have q2' : (L : Int) < (B1 : Int) := by omega
                              go_wp2
                              go_quiet ((go_at_call 14; exact quiet_of_eq (lower_any _ _ (by omega) (by omega))))
                              replace hrow : RowR (wr.drewN nq) _ _ := hrow
                              replace hrn : RowR (wr.drewN nq) _ _ := hrn
                              replace hbel : Below _ _ (wr.drewN nq) := ⟨hbel.1, hbel.2, hbel.3, hbel.4, hbel.5⟩
                              replace e1 : (wr.drewN nq).cell? _ = _ := e1
                              replace e2 : (wr.drewN nq).cell? _ = _ := e2
                              replace e3 : (wr.drewN nq).cell? _ = _ := e3
                              replace f1 : ∀ j : Nat, (wr.drewN nq).frozen? ⟨_, j, none⟩ = false := f1
                              clear k1 k2
                              generalize wr.drewN nq = wq at *
                              go_wp2
                              go_roundw
                              case rel =>
                                exact inner_step hcl HD.out Hl1.out Hl2.out hrow hrn Hbn.out hbel hRB hL (by rw [Hin.out]; rw [if_neg (by simpa using hxz), if_pos (by omega), if_neg (by omega)]; omega) (by first | rfl | (split <;> split <;> omega))
                              case measure => simp [intOf]; omega
                            · have q2' : ¬ (L : Int) < (B1 : Int) := by omega
                              go_wp2
                              go_quiet ((go_at_call 14; exact quiet_of_eq (lower_any _ _ (by omega) (by omega))))
                              replace hrow : RowR (wr.drewN nq) _ _ := hrow
                              replace hrn : RowR (wr.drewN nq) _ _ := hrn
                              replace hbel : Below _ _ (wr.drewN nq) := ⟨hbel.1, hbel.2, hbel.3, hbel.4, hbel.5⟩
                              replace e1 : (wr.drewN nq).cell? _ = _ := e1
                              replace e2 : (wr.drewN nq).cell? _ = _ := e2
                              replace e3 : (wr.drewN nq).cell? _ = _ := e3
                              replace f1 : ∀ j : Nat, (wr.drewN nq).frozen? ⟨_, j, none⟩ = false := f1
                              clear k1 k2
                              generalize wr.drewN nq = wq at *
                              go_wp2
                              go_roundw
                              case rel =>
                                exact inner_step hcl HD.out Hl1.out Hl2.out hrow hrn Hbn.out hbel hRB hL (by rw [Hin.out]; rw [if_neg (by simpa using hxz), if_pos (by omega), if_neg (by omega)]; omega) (by first | rfl | (split <;> split <;> omega))
                              case measure => simp [intOf]; omega
                    · by_cases hl0 : 0 < c
                      · have hr1 : ¬ D < (L : Int) := by omega
                        clear bl2
                        have hl1 : -(L : Int) < D := by omega
                        obtain ⟨C, hC⟩ : ∃ C : Nat, C = c - 1 := ⟨_, rfl⟩
                        have hC1 : (c : Int) - 1 = (C : Int) := by omega
                        have e4 := hrn.cell (Hbn.out C (by omega))
                        rw [← hC] at Hin bl3
                        replace hC : Hid _ := hC
                        generalize band (za.map fold) (zb.map fold) L (i + 1) C = B3 at bl3 e4 Hin
                        generalize hB1 : band (za.map fold) (zb.map fold) L i c = B1 at bl1 e2 Hin
                        clear hD hB1
                        cases hxz : (fold x == fold z) with
                        | true =>
                          by_cases q1 : (B3 : Int) + 1 < (B1 : Int)
                          · by_cases q2 : (L : Int) + 1 < (B3 : Int) + 1
                            · have q2' : (L : Int) < (B3 : Int) := by omega
                              exfalso; omega
                            · have q2' : ¬ (L : Int) < (B3 : Int) := by omega
                              go_wp2
                              go_quiet ((go_at_call 14; exact quiet_of_eq (lower_any _ _ (by omega) (by omega))))
                              replace hrow : RowR (wr.drewN nq) _ _ := hrow
                              replace hrn : RowR (wr.drewN nq) _ _ := hrn
                              replace hbel : Below _ _ (wr.drewN nq) := ⟨hbel.1, hbel.2, hbel.3, hbel.4, hbel.5⟩
                              replace e1 : (wr.drewN nq).cell? _ = _ := e1
                              replace e2 : (wr.drewN nq).cell? _ = _ := e2
                              replace e4 : (wr.drewN nq).cell? _ = _ := e4
                              replace f1 : ∀ j : Nat, (wr.drewN nq).frozen? ⟨_, j, none⟩ = false := f1
                              clear k1 k2
                              generalize wr.drewN nq = wq at *
                              go_wp2
                              go_roundw
                              case rel =>
                                exact inner_step hcl HD.out Hl1.out Hl2.out hrow hrn Hbn.out hbel hRB hL (by rw [Hin.out]; rw [if_pos (by simpa using hxz), if_neg (by omega), if_pos (by omega)]; omega) (by first | rfl | (split <;> split <;> omega))
                              case measure => simp [intOf]; omega
                          · by_cases q2 : (L : Int) + 1 < (B1 : Int)
                            · exfalso; omega
                            · go_wp2
                              go_quiet ((go_at_call 14; exact quiet_of_eq (lower_any _ _ (by omega) (by omega))))
                              replace hrow : RowR (wr.drewN nq) _ _ := hrow
                              replace hrn : RowR (wr.drewN nq) _ _ := hrn
                              replace hbel : Below _ _ (wr.drewN nq) := ⟨hbel.1, hbel.2, hbel.3, hbel.4, hbel.5⟩
                              replace e1 : (wr.drewN nq).cell? _ = _ := e1
                              replace e2 : (wr.drewN nq).cell? _ = _ := e2
                              replace e4 : (wr.drewN nq).cell? _ = _ := e4
                              replace f1 : ∀ j : Nat, (wr.drewN nq).frozen? ⟨_, j, none⟩ = false := f1
                              clear k1 k2
                              generalize wr.drewN nq = wq at *
                              go_wp2
                              go_roundw
                              case rel =>
                                exact inner_step hcl HD.out Hl1.out Hl2.out hrow hrn Hbn.out hbel hRB hL (by rw [Hin.out]; rw [if_pos (by simpa using hxz), if_neg (by omega), if_pos (by omega)]; omega) (by first | rfl | (split <;> split <;> omega))
                              case measure => simp [intOf]; omega
                        | false =>
                          by_cases q1 : (B3 : Int) + 1 < (B1 : Int) + 1
                          · have q1' : (B3 : Int) < (B1 : Int) := by omega
                            by_cases q2 : (L : Int) + 1 < (B3 : Int) + 1
                            · have q2' : (L : Int) < (B3 : Int) := by omega
                              exfalso; omega
                            · have q2' : ¬ (L : Int) < (B3 : Int) := by omega
                              go_wp2
                              go_quiet ((go_at_call 14; exact quiet_of_eq (lower_any _ _ (by omega) (by omega))))
                              replace hrow : RowR (wr.drewN nq) _ _ := hrow
                              replace hrn : RowR (wr.drewN nq) _ _ := hrn
                              replace hbel : Below _ _ (wr.drewN nq) := ⟨hbel.1, hbel.2, hbel.3, hbel.4, hbel.5⟩
                              replace e1 : (wr.drewN nq).cell? _ = _ := e1
                              replace e2 : (wr.drewN nq).cell? _ = _ := e2
                              replace e4 : (wr.drewN nq).cell? _ = _ := e4
                              replace f1 : ∀ j : Nat, (wr.drewN nq).frozen? ⟨_, j, none⟩ = false := f1
                              clear k1 k2
                              generalize wr.drewN nq = wq at *
                              go_wp2
                              go_roundw
                              case rel =>
                                exact inner_step hcl HD.out Hl1.out Hl2.out hrow hrn Hbn.out hbel hRB hL (by rw [Hin.out]; rw [if_neg (by simpa using hxz), if_neg (by omega), if_pos (by omega)]; omega) (by first | rfl | (split <;> split <;> omega))
                              case measure => simp [intOf]; omega
                          · have q1' : ¬ (B3 : Int) < (B1 : Int) := by omega
                            by_cases q2 : (L : Int) + 1 < (B1 : Int) + 1
                            · have q2' : (L : Int) < (B1 : Int) := by omega
                              go_wp2
                              go_quiet ((go_at_call 14; exact quiet_of_eq (lower_any _ _ (by omega) (by omega))))
                              replace hrow : RowR (wr.drewN nq) _ _ := hrow
                              replace hrn : RowR (wr.drewN nq) _ _ := hrn
                              replace hbel : Below _ _ (wr.drewN nq) := ⟨hbel.1, hbel.2, hbel.3, hbel.4, hbel.5⟩
                              replace e1 : (wr.drewN nq).cell? _ = _ := e1
                              replace e2 : (wr.drewN nq).cell? _ = _ := e2
                              replace e4 : (wr.drewN nq).cell? _ = _ := e4
                              replace f1 : ∀ j : Nat, (wr.drewN nq).frozen? ⟨_, j, none⟩ = false := f1
                              clear k1 k2
                              generalize wr.drewN nq = wq at *
                              go_wp2
                              go_roundw
                              case rel =>
                                exact inner_step hcl HD.out Hl1.out Hl2.out hrow hrn Hbn.out hbel hRB hL (by rw [Hin.out]; rw [if_neg (by simpa using hxz), if_neg (by omega), if_pos (by omega)]; omega) (by first | rfl | (split <;> split <;> omega))
                              case measure => simp [intOf]; omega
                            · have q2' : ¬ (L : Int) < (B1 : Int) := by omega
                              go_wp2
                              go_quiet ((go_at_call 14; exact quiet_of_eq (lower_any _ _ (by omega) (by omega))))
                              replace hrow : RowR (wr.drewN nq) _ _ := hrow
                              replace hrn : RowR (wr.drewN nq) _ _ := hrn
                              replace hbel : Below _ _ (wr.drewN nq) := ⟨hbel.1, hbel.2, hbel.3, hbel.4, hbel.5⟩
                              replace e1 : (wr.drewN nq).cell? _ = _ := e1
                              replace e2 : (wr.drewN nq).cell? _ = _ := e2
                              replace e4 : (wr.drewN nq).cell? _ = _ := e4
                              replace f1 : ∀ j : Nat, (wr.drewN nq).frozen? ⟨_, j, none⟩ = false := f1
                              clear k1 k2
                              generalize wr.drewN nq = wq at *
                              go_wp2
                              go_roundw
                              case rel =>
                                exact inner_step hcl HD.out Hl1.out Hl2.out hrow hrn Hbn.out hbel hRB hL (by rw [Hin.out]; rw [if_neg (by simpa using hxz), if_neg (by omega), if_pos (by omega)]; omega) (by first | rfl | (split <;> split <;> omega))
                              case measure => simp [intOf]; omega
                      · have hr1 : ¬ D < (L : Int) := by omega
                        clear bl2
                        have hl1 : ¬ -(L : Int) < D := by omega
                        clear bl3
                        generalize hB1 : band (za.map fold) (zb.map fold) L i c = B1 at bl1 e2 Hin
                        clear hD hB1
                        cases hxz : (fold x == fold z) with
                        | true =>
                          by_cases q1 : (L : Int) + 1 < (B1 : Int)
                          · exfalso; omega
                          · go_wp2
                            go_quiet ((go_at_call 14; exact quiet_of_eq (lower_any _ _ (by omega) (by omega))))
                            replace hrow : RowR (wr.drewN nq) _ _ := hrow
                            replace hrn : RowR (wr.drewN nq) _ _ := hrn
                            replace hbel : Below _ _ (wr.drewN nq) := ⟨hbel.1, hbel.2, hbel.3, hbel.4, hbel.5⟩
                            replace e1 : (wr.drewN nq).cell? _ = _ := e1
                            replace e2 : (wr.drewN nq).cell? _ = _ := e2
                            replace f1 : ∀ j : Nat, (wr.drewN nq).frozen? ⟨_, j, none⟩ = false := f1
                            clear k1 k2
                            generalize wr.drewN nq = wq at *
                            go_wp2
                            go_roundw
                            case rel =>
                              exact inner_step hcl HD.out Hl1.out Hl2.out hrow hrn Hbn.out hbel hRB hL (by rw [Hin.out]; rw [if_pos (by simpa using hxz), if_neg (by omega), if_neg (by omega)]; omega) (by first | rfl | (split <;> split <;> omega))
                            case measure => simp [intOf]; omega
                        | false =>
                          by_cases q1 : (L : Int) + 1 < (B1 : Int) + 1
                          · have q1' : (L : Int) < (B1 : Int) := by omega
                            go_wp2
                            go_quiet ((go_at_call 14; exact quiet_of_eq (lower_any _ _ (by omega) (by omega))))
                            replace hrow : RowR (wr.drewN nq) _ _ := hrow
                            replace hrn : RowR (wr.drewN nq) _ _ := hrn
                            replace hbel : Below _ _ (wr.drewN nq) := ⟨hbel.1, hbel.2, hbel.3, hbel.4, hbel.5⟩
                            replace e1 : (wr.drewN nq).cell? _ = _ := e1
                            replace e2 : (wr.drewN nq).cell? _ = _ := e2
                            replace f1 : ∀ j : Nat, (wr.drewN nq).frozen? ⟨_, j, none⟩ = false := f1
                            clear k1 k2
                            generalize wr.drewN nq = wq at *
                            go_wp2
                            go_roundw
                            case rel =>
                              exact inner_step hcl HD.out Hl1.out Hl2.out hrow hrn Hbn.out hbel hRB hL (by rw [Hin.out]; rw [if_neg (by simpa using hxz), if_neg (by omega), if_neg (by omega)]; omega) (by first | rfl | (split <;> split <;> omega))
                            case measure => simp [intOf]; omega
                          · have q1' : ¬ (L : Int) < (B1 : Int) := by omega
                            go_wp2
                            go_quiet ((go_at_call 14; exact quiet_of_eq (lower_any _ _ (by omega) (by omega))))
                            replace hrow : RowR (wr.drewN nq) _ _ := hrow
                            replace hrn : RowR (wr.drewN nq) _ _ := hrn
                            replace hbel : Below _ _ (wr.drewN nq) := ⟨hbel.1, hbel.2, hbel.3, hbel.4, hbel.5⟩
                            replace e1 : (wr.drewN nq).cell? _ = _ := e1
                            replace e2 : (wr.drewN nq).cell? _ = _ := e2
                            replace f1 : ∀ j : Nat, (wr.drewN nq).frozen? ⟨_, j, none⟩ = false := f1
                            clear k1 k2
                            generalize wr.drewN nq = wq at *
                            go_wp2
                            go_roundw
                            case rel =>
                              exact inner_step hcl HD.out Hl1.out Hl2.out hrow hrn Hbn.out hbel hRB hL (by rw [Hin.out]; rw [if_neg (by simpa using hxz), if_neg (by omega), if_neg (by omega)]; omega) (by first | rfl | (split <;> split <;> omega))
                            case measure => simp [intOf]; omega
            · have hDL : ¬ D ≤ (L : Int) := by omega
              rw [show c = 2 * L + 1 by omega] at hl2 hbn
              have Hbear : Hid _ := hbear
              have Hl1 : Hid _ := hl1
              have Hl2 : Hid _ := hl2
              have Hbn : Hid _ := hbn
              obtain ⟨hrn1, hrn5⟩ := id hrn
              obtain ⟨v0, v1, v2, v3, v4, rfl⟩ : ∃ v0 v1 v2 v3 v4, rn = [v0, v1, v2, v3, v4] := by
                match rn, hrn5 with
                | [v0, v1, v2, v3, v4], _ => exact ⟨v0, v1, v2, v3, v4, rfl⟩
              clear hbear hl1 hl2 hbn hD hrn1 hrn5
              by_cases hlst : (L : Int) < (lst : Int)
              · go_wp2
                go_ret
                refine ⟨ret_int ?_, hbel⟩
                have hbey := band_beyond (a := za.map fold) (b := zb.map fold) (L := L) (i := i + 1) (by simp; omega) (fun e he => by
                  have h1 := Hl2.out e (by omega)
                  have h2 := band_le (za.map fold) (zb.map fold) L (i + 1) e
                  omega)
                omega
              · obtain ⟨r0, r1, r2, r3, r4, rfl⟩ : ∃ v0 v1 v2 v3 v4, r = [v0, v1, v2, v3, v4] := by
                  match r, hrow.2 with
                  | [v0, v1, v2, v3, v4], _ => exact ⟨v0, v1, v2, v3, v4, rfl⟩
                have n0 := hrn.cell (j := 0) (s := v0) rfl
                have n1 := hrn.cell (j := 1) (s := v1) rfl
                have n2 := hrn.cell (j := 2) (s := v2) rfl
                have n3 := hrn.cell (j := 3) (s := v3) rfl
                have n4 := hrn.cell (j := 4) (s := v4) rfl
                have m0 := hrow.cell (j := 0) (s := r0) rfl
                have m1 := hrow.cell (j := 1) (s := r1) rfl
                have m2 := hrow.cell (j := 2) (s := r2) rfl
                have m3 := hrow.cell (j := 3) (s := r3) rfl
                have m4 := hrow.cell (j := 4) (s := r4) rfl
                have f1 := hrow.free
                go_wp2
                go_roundw
                case rel =>
                  exact ⟨i + 1, [v0, v1, v2, v3, v4], by omega, by go_num, (((((hrow.set 0 v0).set 1 v1).set 2 v2).set 3 v3).set 4 v4), fun e he _ => Hbn.out e he, ((((hbel.setCell (Nat.le_refl _) _).setCell (Nat.le_refl _) _).setCell (Nat.le_refl _) _).setCell (Nat.le_refl _) _).setCell (Nat.le_refl _) _⟩
                case measure => simp [intOf]; omega
        · have dI : decide ((i : Int) + 1 ≤ (za.length : Int)) = false := decide_eq_false (by omega)
          have hI : ¬ (i : Int) + 1 ≤ (za.length : Int) := by omega
          have hie : i = za.length := by omega
          have hix : (L : Int) + (zb.length : Int) - (za.length : Int) = ((L + zb.length - za.length : Nat) : Int) := by omega
          have hc := hrow.cell (hbear (L + zb.length - za.length) (by omega) (by simp; omega))
          have Hlast := band_last (a := za.map fold) (b := zb.map fold) (L := L) (by simpa using hn1)
          simp only [List.length_map] at Hlast
          rw [hie, Hlast] at hc
          go_wp2
          go_ret
          exact ⟨rfl, hbel⟩
end Go.Proofs.Qxb6600553a
