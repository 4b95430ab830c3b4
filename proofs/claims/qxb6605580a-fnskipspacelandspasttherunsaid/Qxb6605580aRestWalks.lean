/-
  The walk of (*objectNames).repeats where the few are full and there is no set yet.
-/
import Derived.Test.Qxb6605580aSetWalks
namespace Go.Proofs.Qxb6605580a
open Go.RowKit Go.Maps

theorem run_makeMap27 (n : Int) (w : World) : (Instr.makeMap 27 (some (.int .i64 n))).run Try.prog w = .ok (.map (some w.heap.size)) (w.alloc (.map #[] 0)) := by
  simp [Instr.makeMap, run_underlying Try.underlying27, asInt, asIntOf, Result.andThen]

theorem idx8 (s0 s1 s2 s3 s4 s5 s6 s7 : ByteArray) (k : Nat) (s : ByteArray) (h : [s0, s1, s2, s3, s4, s5, s6, s7][k]? = some s) (w : World) :
    (Instr.index 26 (.agg #[.string s0, .string s1, .string s2, .string s3, .string s4, .string s5, .string s6, .string s7]) (.int .i64 (k : Int))).run Try.prog w = .ok (.string s) w := by
  have h8 : k < 8 := by have := (List.getElem?_eq_some_iff.1 h).1; simpa using this
  have hk : k = 0 ∨ k = 1 ∨ k = 2 ∨ k = 3 ∨ k = 4 ∨ k = 5 ∨ k = 6 ∨ k = 7 := by omega
  rcases hk with rfl | rfl | rfl | rfl | rfl | rfl | rfl | rfl <;> (cases h; exact Eq.refl _)

theorem eight (l : List ByteArray) (h : l.length = 8) : ∃ s0 s1 s2 s3 s4 s5 s6 s7, l = [s0, s1, s2, s3, s4, s5, s6, s7] := by
  match l, h with
  | [s0, s1, s2, s3, s4, s5, s6, s7], _ => exact ⟨s0, s1, s2, s3, s4, s5, s6, s7, rfl⟩

/-- Of the blocks below M none but O has turned. -/
structure Beside (O M : Nat) (w w' : World) : Prop where
  os : w'.os = w.os
  tape : w'.tape = w.tape
  output : w'.output = w.output
  size : w.heap.size ≤ w'.heap.size
  block : ∀ k, k < M → k ≠ O → w'.heap[k]? = w.heap[k]?

theorem Beside.below {O M : Nat} {w w' : World} (h : Beside O M w w') (hOM : O ≤ M) : Below O w w' :=
  ⟨h.os, h.tape, h.output, h.size, fun k hk => h.block k (by omega) (by omega)⟩
theorem Beside.ofBelow {O M : Nat} {w w' : World} (h : Below M w w') : Beside O M w w' := ⟨h.os, h.tape, h.output, h.size, fun k hk _ => h.block k hk⟩
theorem Beside.trans {O M : Nat} {a b c : World} (h : Beside O M a b) (k : Beside O M b c) : Beside O M a c :=
  ⟨k.os.trans h.os, k.tape.trans h.tape, k.output.trans h.output, Nat.le_trans h.size k.size, fun i hi ho => (k.block i hi ho).trans (h.block i hi ho)⟩
theorem Beside.grown {O M : Nat} {a w w' : World} (h : Beside O M a w) (hg : w.grownBy w' (some M)) (hM : M ≤ w.heap.size) : Beside O M a w' :=
  h.trans ⟨hg.os, hg.tape, hg.output, hg.size, fun k hk _ => hg.block k (by omega) (fun e => by injection e; omega)⟩
theorem Beside.setCell {O M : Nat} {a w : World} (h : Beside O M a w) (j : Nat) (v : Value) : Beside O M a (w.setCell ⟨O, j, none⟩ v) :=
  h.trans ⟨rfl, rfl, rfl, by simp [World.setCell], fun k _ ho => Below.heap_setCell _ _ _ _ ho⟩
theorem Beside.alloc {O M : Nat} {a w : World} (h : Beside O M a w) (hM : M ≤ w.heap.size) (o : Obj) : Beside O M a (w.alloc o) :=
  h.trans ⟨rfl, rfl, rfl, by simp, fun k hk _ => Below.heap_alloc _ _ _ (by omega)⟩

/-- What a row of strings is as a slice, and where it lies. -/
theorem own_shape' {w : World} {base : Nat} {v : Value} {ss : List ByteArray} (h : w.ownsRow base 9 1 v ss.length (ss.map .string)) :
    ∃ ao cap, v = .slice ao ss.length cap ∧ (0 < ss.length → ∃ g, ao = some ⟨g, 0, none⟩ ∧ base ≤ g ∧ g < w.heap.size ∧ ∀ j s, ss[j]? = some s → w.cell? ⟨g, 0 + j, none⟩ = some (.string s)) := by
  have hlt := h.lt
  obtain ⟨ao, cap, rfl, hs⟩ := own_shape h
  refine ⟨ao, cap, rfl, fun hp => ?_⟩
  obtain ⟨b, off, rfl, hc⟩ := hs hp
  obtain ⟨_, ⟨e, _⟩ | ⟨g, cp, cur, hv, _⟩⟩ := h
  · simp at e
  · simp at hv
    obtain ⟨⟨rfl, rfl⟩, rfl⟩ := hv
    exact ⟨_, rfl, (hlt _ rfl).1, (hlt _ rfl).2, hc⟩

theorem slice_of_own {w : World} {base : Nat} {e : TypeId} {v : Value} {n : Nat} {xs : List Value} (h : w.ownsRow base e 1 v n xs) : ∃ ao cap, v = .slice ao n cap := by
  obtain ⟨_, ⟨rfl, rfl⟩ | ⟨g, cap, cur, rfl, _⟩⟩ := h
  · exact ⟨_, _, rfl⟩
  · exact ⟨_, _, rfl⟩

theorem grown_obj {w w' : World} {O n : Nat} {few : List ByteArray} {rv mv v : Value} {m : Nat} {xs : List Value} {o : Obj} (h : ObjAt w O few n rv mv) (hr : w.ownsRow (O + 1) 9 1 v m xs) (hg : (w.alloc o).grownBy w' v.ownBlock) : ObjAt w' O few n rv mv :=
  (h.same (Below.heap_alloc _ _ _ h.lt)).grown hg (fun e => by have := (hr.lt O e.symm).1; omega)

theorem take_snoc {α : Type} {l : List α} {k : Nat} {s : α} (h : l[k]? = some s) : l.take (k + 1) = l.take k ++ [s] := by rw [List.take_add_one, h]; rfl

/-- What comes of 'repeats' where the few are full and there is no set. -/
def RestEnd (O : Nat) (few rest : List ByteArray) (x : ByteArray) (w : World) (e : Ending) (w' : World) : Prop :=
  (e = .returned (.bool false) ∧ InOrd few rest x ∧ (∃ rv, ObjAt w' O few 8 rv (.map none) ∧ w'.ownsRow (O + 1) 9 1 rv (rest ++ [x]).length ((rest ++ [x]).map .string)) ∧ Below O w w') ∨
  (e = .returned (.bool (memB x (few ++ rest))) ∧ (∃ M, O < M ∧ ObjAt w' O few 8 (.slice none 0 0) (.map (some M)) ∧ SetIs w' M (rest.length + 9) (few ++ rest ++ [x])) ∧ Below O w w')

set_option maxHeartbeats 1000000 in
theorem rep_rest (O : Nat) (few rest : List ByteArray) (rv : Value) (x : ByteArray) (w : World) (hO : ObjAt w O few 8 rv (.map none)) (hr : w.ownsRow (O + 1) 9 1 rv rest.length (rest.map .string))
    (hl : rest.length ≤ 65536) (hx : x.size ≤ maxLen) (hz : ∀ s ∈ few ++ rest, s.size ≤ maxLen) :
    Calls Try.prog 25 #[.pointer (some ⟨O, 0, none⟩), .string x] w fun e w' => RestEnd O few rest x w e w' := by
  have q27 : ∀ (w : World) (r : Option Nat), (binOp .eql 27 (.map r) (.map none)).run Try.prog w = .ok (.bool r.isNone) w := fun w r => run_eql_map_nil w _ _ _ r Try.underlying27
  have hmm := run_makeMap27
  have hord := inOrder_any O few rest rv (.map none) x w hO hr hl
  obtain ⟨ao, cap, rfl, hss⟩ := own_shape' hr
  have cn := hO.cn
  have cm := hO.cm
  have hOw := hO.lt
  obtain ⟨i0, hi, hz0, hz1, hz2⟩ := info_parts info9
  go_enter Try.func25, Try.ntmps25
  go_wp2_with fail
  refine hord.mono ?_
  rintro e w1 ⟨⟨b, rfl, hb⟩, hd⟩
  have hO1 : ObjAt w1 O few 8 (.slice ao rest.length cap) (.map none) := hO.same (by obtain ⟨m, rfl⟩ := hd; rfl)
  have hr1 : w1.ownsRow (O + 1) 9 1 (.slice ao rest.length cap) rest.length (rest.map .string) := by obtain ⟨m, rfl⟩ := hd; exact hr
  have hsz : w.heap.size = w1.heap.size := by obtain ⟨m, rfl⟩ := hd; rfl
  have cr1 := hO1.cr
  have cm1 := hO1.cm
  have f1 := hO1.fz
  have hOw1 := hO1.lt
  clear cn cm hord hO hr
  cases b
  · obtain ⟨s0, s1, s2, s3, s4, s5, s6, s7, hfe⟩ := eight few hO1.len
    have c0 := hO1.few 0 s0 (by rw [hfe]; rfl)
    have c1 := hO1.few 1 s1 (by rw [hfe]; rfl)
    have c2 := hO1.few 2 s2 (by rw [hfe]; rfl)
    have c3 := hO1.few 3 s3 (by rw [hfe]; rfl)
    have c4 := hO1.few 4 s4 (by rw [hfe]; rfl)
    have c5 := hO1.few 5 s5 (by rw [hfe]; rfl)
    have c6 := hO1.few 6 s6 (by rw [hfe]; rfl)
    have c7 := hO1.few 7 s7 (by rw [hfe]; rfl)
    have HF : Hid (few = [s0, s1, s2, s3, s4, s5, s6, s7]) := hfe
    have hlen := hO1.len
    clear hfe hb
    go_wp2
    clear c0 c1 c2 c3 c4 c5 c6 c7
    go_loopw [82] (fun i wr => ∃ k : Nat, k ≤ 8 ∧ i = .int .i64 k ∧ ObjAt wr O few 8 (.slice ao rest.length cap) (.map (some w1.heap.size)) ∧ SetIs wr w1.heap.size k (few.take k) ∧ Beside O w1.heap.size w1 wr ∧ w1.heap.size < wr.heap.size) (fun i _ => 8 - (intOf i).toNat)
    case atStart =>
      refine ⟨0, by omega, rfl, (hO1.setMap _).same (Below.heap_alloc _ _ _ (by simpa [World.setCell] using hOw1)), ?_, ((Beside.ofBelow (Below.refl _ _)).setCell _ _).alloc (by simp [World.setCell]) _, by simp [World.setCell]⟩
      have h := SetIs.made (w1.setCell ⟨O, 10, none⟩ (.map (some w1.heap.size)))
      simpa [World.setCell] using h
    case round =>
      obtain ⟨k, hk, rfl, hOr, ⟨D, hown, hhas⟩, hbe, hms⟩ := hrel
      have cm := hOr.cm
      have cr := hOr.cr
      clear cr1 cm1 f1
      by_cases hlt : k < 8
      · obtain ⟨s, hs⟩ : ∃ s, few[k]? = some s := ⟨few[k], by simp⟩
        have hidx := idx8 s0 s1 s2 s3 s4 s5 s6 s7 k s (by rw [← HF.out]; exact hs)
        have hkey := key9 (hz s (List.mem_append_left _ (List.mem_of_getElem? hs)))
        have HS : Hid (few[k]? = some s) := hs
        clear hs hss hz hd hO1 hr1
        go_wp2_with (at_mapUpdate; refine wpList_mapUpdate_own _ rfl _ _ _ 27 rfl 9 48 law9 Try.underlying27 unitElem w1.heap.size k D rfl hown (by unfold maxLen; omega) _ _ _ rfl rfl hkey _ [] unitElem_mk ?_; intro w2 hown2 hg2)
        go_roundw
        case rel => exact ⟨k + 1, by omega, by go_num, hOr.grown hg2 (fun e => by injection e; omega), by rw [take_snoc HS.out]; exact SetIs.put hown hhas hown2, hbe.grown hg2 (by omega), by have := hg2.size; omega⟩
        case measure => simp [intOf]; omega
      · go_wp2
        go_loopw [97] (fun i wr2 => ∃ j : Nat, j ≤ rest.length ∧ i = .int .i64 j ∧ ObjAt wr2 O few 8 (.slice ao rest.length cap) (.map (some w1.heap.size)) ∧ SetIs wr2 w1.heap.size (8 + j) (few ++ rest.take j) ∧ Beside O w1.heap.size w1 wr2 ∧ w1.heap.size < wr2.heap.size) (fun i _ => rest.length - (intOf i).toNat)
        case atStart => exact ⟨0, by omega, rfl, hOr, ⟨D, hown.mono (by omega), by rw [List.take_of_length_le (by omega)] at hhas; simpa using hhas⟩, hbe, hms⟩
        case round =>
          clear hOr hown hhas hbe cm cr hms
          obtain ⟨j, hj, rfl, hOr, ⟨D, hown, hhas⟩, hbe, hms⟩ := hrel
          have cm := hOr.cm
          have cr := hOr.cr
          by_cases hlt2 : j < rest.length
          · obtain ⟨g, rfl, hgO, hgw, hgc⟩ := hss (by omega)
            obtain ⟨s, hs⟩ : ∃ s, rest[j]? = some s := ⟨rest[j], by simp⟩
            have hcs : wr.cell? ⟨g, j, none⟩ = some (.string s) := by
              have h1 := hgc j s hs
              rw [Nat.zero_add] at h1
              rw [World.cell?_of_block (w := w1) (hbe.block g (by omega) (by omega)), hd.cell]
              exact h1
            have hkey := key9 (hz s (List.mem_append_right _ (List.mem_of_getElem? hs)))
            have HS : Hid (rest[j]? = some s) := hs
            clear hs hss hz hd hO1 hr1 hgc
            go_wp2_with (at_mapUpdate; refine wpList_mapUpdate_own _ rfl _ _ _ 27 rfl 9 48 law9 Try.underlying27 unitElem w1.heap.size (8 + j) D rfl hown (by unfold maxLen; omega) _ _ _ rfl rfl hkey _ [] unitElem_mk ?_; intro w2 hown2 hg2)
            go_roundw
            case rel => exact ⟨j + 1, by omega, by go_num, hOr.grown hg2 (fun e => by injection e; omega), by rw [take_snoc HS.out, ← List.append_assoc]; exact SetIs.put hown hhas hown2, hbe.grown hg2 (by omega), by have := hg2.size; omega⟩
            case measure => simp [intOf]; omega
          · have hjl : j = rest.length := by omega
            subst hjl
            rw [List.take_of_length_le (Nat.le_refl _)] at hhas
            have hkey := key9 hx
            have f1 := hOr.fz
            have hOlt := hOr.lt
            go_wp2_with (first
              | (at_lookup; refine wpList_lookup_own_unit _ rfl _ _ 27 rfl 9 48 law9 Try.underlying27 (zero48 _) w1.heap.size (8 + rest.length) D rfl (hown.setCell (by simp; omega) _) _ _ rfl hkey ?_)
              | (at_mapUpdate; refine wpList_mapUpdate_own _ rfl _ _ _ 27 rfl 9 48 law9 Try.underlying27 unitElem w1.heap.size (8 + rest.length) D rfl ((hown.setCell (by simp; omega) _).alloc _) (by unfold maxLen; omega) _ _ _ rfl rfl hkey _ [] unitElem_mk ?_; intro w2 hown2 hg2))
            go_ret
            refine .inr ⟨ret_bool rfl, ⟨w1.heap.size, hOw1, ?_, ?_⟩, ?_⟩
            · exact ((hOr.setRest _).same (Below.heap_alloc _ _ _ (by simpa [World.setCell] using hOlt))).grown hg2 (fun e => by injection e; omega)
            · exact ⟨_, hown2.mono (by omega), has_step hown.isMap hhas x _⟩
            · have hb2 := ((hbe.setCell 9 (.slice none 0 0)).alloc (by simp [World.setCell]; omega) (.cells #[] 48)).grown hg2 (by simp [World.setCell]; omega)
              exact (hd.below O).trans (hb2.below (by omega))
  · go_wp2_with (at_builtin; go_must (refine wpList_append_own _ rfl _ _ 22 rfl (O + 1) 9 i0 (.string ByteArray.empty) 1 16 Try.underlying22 hi hz0 hz1 hz2 rfl (by decide) (.slice ao rest.length cap) rest.length (rest.map .string) rfl (hr1.alloc _) ⟨w1.heap.size, 0, none⟩ 1 1 [.string x] rfl rfl (cell_one_new _ _ _) (strs_oneCell [x]) (by unfold maxLen; omega) (by omega) (by simp; omega) ?_); intro v2 w2 hown2 hg2 _; obtain ⟨ao2, cap2, hv2⟩ := slice_of_own hown2; subst hv2; have hO2 := grown_obj hO1 hr1 hg2; have cr2 := hO2.cr; have f2 := hO2.fz)
    go_ret
    refine .inl ⟨rfl, hb trivial, ⟨_, hO2.setRest _, ?_⟩, ?_⟩
    · have h := ownsRow_setCell_below hown2 (a := ⟨O, 9, none⟩) (by simp) (.slice ao2 (rest.length + 1) cap2)
      simpa using h
    · have h1 := (hd.below O).trans (((Below.refl O w1).alloc (by omega) (.cells #[.string x] 9)).trans ((Below.refl _ _).grown hg2 (by simp; omega) (fun k hk => by have := (hr1.lt k hk).1; omega)))
      exact h1.setCell (by simp) _
end Go.Proofs.Qxb6605580a
