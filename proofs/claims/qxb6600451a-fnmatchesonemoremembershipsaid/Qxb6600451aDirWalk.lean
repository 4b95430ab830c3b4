/-
  The walk of ZZDirectoryB1.
-/
import Derived.Test.Qxb6600451aDir
import Derived.RegionTactic
namespace Go.Proofs.Qxb6600451a
open Go.RowKit Go.Maps

theorem take_snoc {α : Type} {l : List α} {k : Nat} {s : α} (h : l[k]? = some s) : l.take (k + 1) = l.take k ++ [s] := by rw [List.take_add_one, h]; rfl

theorem DirAt.mono {w : World} {Dd M : Nat} {D : DataW Unit} {f : List UInt8 → Option Nat} {acc : List Mem} {N N' : Nat} (h : DirAt w Dd M D f acc N) (hN : N ≤ N') : DirAt w Dd M D f acc N' :=
  ⟨h.cell, h.own.mono hN, h.look, h.above, fun gl b hb => by
    obtain ⟨Db, h1, h2⟩ := h.inner gl b hb
    exact ⟨Db, h1.mono hN, h2⟩, h.bare, h.inj, h.ahead⟩

/-- What the call hands back: a directory that holds the memberships L. -/
def DirEnd (w : World) (L : List Mem) (e : Ending) (w' : World) : Prop :=
  ∃ Dd M D f N, e = .returned (.pointer (some ⟨Dd, 0, none⟩)) ∧ DirAt w' Dd M D f L N ∧ Below w.heap.size w w'

set_option maxHeartbeats 2000000 in
theorem dir_any (g1 g2 g3 : Nat) (L : List Mem) (w : World) (hrows : Rows3 w g1 g2 g3 L) (l1 : g1 < w.heap.size) (l2 : g2 < w.heap.size) (l3 : g3 < w.heap.size) (hL : L.length ≤ 65537) (hok : ∀ m ∈ L, OkM m) :
    Calls Try.prog 9 #[.slice (some ⟨g1, 0, none⟩) L.length L.length, .slice (some ⟨g2, 0, none⟩) L.length L.length, .slice (some ⟨g3, 0, none⟩) L.length L.length] w fun e w' => DirEnd w L e w' := by
  have hmm := @run_makeMap Try.prog
  have q42 : ∀ (w : World) (r : Option Nat), (binOp .eql 42 (.map r) (.map none)).run Try.prog w = .ok (.bool r.isNone) w := fun w r => run_eql_map_nil w _ _ _ r u42
  go_enter Try.func9, Try.ntmps9
  go_wp2
  go_loopw [8] (fun i wr => ∃ (j : Nat) (D : DataW Unit) (f : List UInt8 → Option Nat), j ≤ L.length ∧ i = .int .i64 j ∧ DirAt wr (w.heap.size + 1) w.heap.size D f (L.take j) (2 * j) ∧ Below w.heap.size w wr) (fun i _ => L.length - (intOf i).toNat)
  case atStart =>
    refine ⟨0, .map [], fun _ => none, by omega, rfl, ⟨?_, ?_, fun _ => rfl, fun _ _ h => (by cases h), fun _ _ h => (by cases h), fun _ _ _ h => (by simp at h), fun _ _ _ h => (by cases h), by omega⟩, ?_⟩
    · simp
    · exact ((World.ownsMap_made w Try.prog 9 refMap).alloc _).mono (by omega)
    · exact ((Below.refl _ _).alloc (Nat.le_refl _) _).alloc (by simp) _
  case round =>
    obtain ⟨j, D, f, hj, rfl, hdir, hbel⟩ := hrel
    by_cases hlt : j < L.length
    · obtain ⟨m, hm⟩ : ∃ m, L[j]? = some m := ⟨L[j], by simp [hlt]⟩
      obtain ⟨c1, c2, c3⟩ := hrows j m hm
      have hom := hok m (List.mem_of_getElem? hm)
      have d1 := (hbel.cell (p := ⟨g1, j, none⟩) l1).trans c1
      have d2 := (hbel.cell (p := ⟨g2, j, none⟩) l2).trans c2
      have d3 := (hbel.cell (p := ⟨g3, j, none⟩) l3).trans c3
      have cM := hdir.cell
      have hlook := fun n => (hdir.drewN n).group hom.1
      have HM : Hid (L[j]? = some m) := hm
      clear hm c1 c2 c3 hrows hok
      cases hf : f m.g.data.toList with
      | some b =>
        simp only [hf, mapOf] at hlook
        go_wp2
        go_quiet (fail)
        go_wp2
        obtain ⟨w1, hrun, hdir1, hg1⟩ := (hdir.drewN (nq + 1)).add (by unfold maxLen; omega) hom hf
        have hji : (j : Int) < (L.length : Int) := by omega
        have hbb := hdir.above _ _ hf
        clear hlook hf hdir
        go_region
        go_wp2
        go_roundw
        case rel =>
          refine ⟨j + 1, D, f, by omega, by go_num, by rw [take_snoc HM.out]; exact hdir1.mono (by omega), ?_⟩
          exact (below_drewN hbel (nq + 1)).grown hg1 (by exact hbel.size) (fun k hk => by injection hk; omega)
        case measure => simp [intOf]; omega
      | none =>
        simp only [hf, mapOf] at hlook
        go_wp2
        go_quiet (fail)
        go_wp2
        obtain ⟨w1, D1, hrun, hdir1, hg1⟩ := (hdir.drewN nq).open (wa := ((wr.drewN nq).alloc (.map #[] 0)).drew) (by unfold maxLen; omega) hom.1 hf rfl ⟨rfl, rfl, rfl, by simp, fun k hk _ => Below.heap_alloc _ _ _ hk⟩
        simp only [World.heap_drewN] at hrun hdir1
        have hji : (j : Int) < (L.length : Int) := by omega
        have z1 : g1 < wr.heap.size := lt_of_cell d1
        have z2 : g2 < wr.heap.size := lt_of_cell d2
        have z3 : g3 < wr.heap.size := lt_of_cell d3
        have z4 : w.heap.size + 1 < wr.heap.size := lt_of_cell cM
        have y1 : ((wr.drewN nq).alloc (.map #[] 0)).cell? ⟨g1, j, none⟩ = some (.string m.g) := by rw [World.cell?_alloc_lt _ _ _ (by exact z1)]; exact d1
        have y4 : ((wr.drewN nq).alloc (.map #[] 0)).cell? ⟨w.heap.size + 1, 2, none⟩ = some (.map (some w.heap.size)) := by rw [World.cell?_alloc_lt _ _ _ (by exact z4)]; exact cM
        clear hlook hf
        go_region
        go_wp2
        have nM2 : ¬ g2 = w.heap.size := by omega
        have nM3 : ¬ g3 = w.heap.size := by omega
        have x2 : w1.cell? ⟨g2, j, none⟩ = some (.int .i64 m.k) := hg1.cell (by show ((wr.drewN nq).alloc (.map #[] 0)).cell? _ = _; rw [World.cell?_alloc_lt _ _ _ (by exact z2)]; exact d2) (fun e => nM2 (by injection e))
        have x3 : w1.cell? ⟨g3, j, none⟩ = some (.string m.s) := hg1.cell (by show ((wr.drewN nq).alloc (.map #[] 0)).cell? _ = _; rw [World.cell?_alloc_lt _ _ _ (by exact z3)]; exact d3) (fun e => nM3 (by injection e))
        obtain ⟨w2, hrun2, hdir2, hg2⟩ := (show DirAt w1.drew _ _ _ _ _ _ from hdir1.drewN 1).add (by unfold maxLen; omega) hom (b := wr.heap.size) (if_pos rfl)
        clear hrun y1 y4 d1 d2 d3 cM hdir
        go_region
        go_wp2
        go_roundw
        case rel =>
          refine ⟨j + 1, D1, _, by omega, by go_num, by rw [take_snoc HM.out, show 2 * (j + 1) = 2 * j + 1 + 1 by omega]; exact hdir2, ?_⟩
          have hb1 : Below w.heap.size w w1 := ((below_drewN hbel nq).alloc (by exact hbel.size) (.map #[] 0)).drew.grown hg1 (by simp; omega) (fun k hk => by injection hk; omega)
          exact hb1.drew.grown hg2 (by exact hb1.size) (fun k hk => by injection hk; omega)
        case measure => simp [intOf]; omega
    · go_wp2
      go_ret
      rw [List.take_of_length_le (by omega)] at hdir
      exact ⟨_, _, D, f, _, rfl, hdir, hbel⟩
end Go.Proofs.Qxb6600451a
