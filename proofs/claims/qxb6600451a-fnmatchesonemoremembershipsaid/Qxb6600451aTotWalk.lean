/-
  zzBytesUudexB1, its answer told.
-/
import Derived.Test.Qxb6600451aMatchWalk
namespace Go.Proofs.Qxb6600451a
open Go.RowKit

def tot0 (n : Nat) (a b c : ByteArray) : Int := wrap64 (wrap64 (wrap64 ((n : Int) * 40 + (a.size : Int)) + (b.size : Int)) + (c.size : Int))
def totStep (z : Int) (m : Mem) : Int := wrap64 (z + wrap64 ((m.g.size : Int) + (m.s.size : Int)))
def tot : Int → List Mem → Int
  | z, [] => z
  | z, m :: r => if 1048576 < z then z else tot (totStep z m) r

theorem tot_big {z : Int} {ms : List Mem} {j : Nat} {m : Mem} (h : ms[j]? = some m) (hz : 1048576 < z) : tot z (ms.drop j) = z := by
  have hl : j < ms.length := (List.getElem?_eq_some_iff.1 h).1
  rw [List.drop_eq_getElem_cons hl]
  simp [tot, hz]
theorem tot_step {z : Int} {ms : List Mem} {j : Nat} {m : Mem} (h : ms[j]? = some m) (hz : ¬ 1048576 < z) : tot z (ms.drop j) = tot (totStep z m) (ms.drop (j + 1)) := by
  obtain ⟨hl, hm⟩ := List.getElem?_eq_some_iff.1 h
  rw [List.drop_eq_getElem_cons hl, hm]
  simp [tot, hz]

theorem val_int {a b : Int} (h : a = b) : Ending.returned (.int .i64 a) = .returned (.int .i64 b) := by rw [h]

set_option maxHeartbeats 1000000 in
theorem bytes_det (ao : Option Addr) (cap : Nat) (ms : List Mem) (a b c : ByteArray) (w : World) (hms : MS w ao ms) (hl : ms.length ≤ 65536) :
    Calls Try.prog 7 #[.slice ao ms.length cap, .string a, .string b, .string c] w fun e w' => e = .returned (.int .i64 (tot (tot0 ms.length a b c) ms)) ∧ ∃ m, w' = w.drewN m := by
  suffices hs : Calls Try.prog 7 #[.slice ao ms.length cap, .string a, .string b, .string c] w fun e w' => e = .returned (.int .i64 (tot (tot0 ms.length a b c) ms)) ∧ DrewFrom w w' from hs
  go_enter Try.func7, Try.ntmps7
  go_wp2
  go_loopw [9, 10] (fun t i wr => ∃ (z : Int) (j : Nat), j ≤ ms.length ∧ i = .int .i64 j ∧ t = .int .i64 z ∧ tot z (ms.drop j) = tot (tot0 ms.length a b c) ms ∧ DrewFrom w wr) (fun _ i _ => ms.length - (intOf i).toNat)
  case atStart => exact ⟨_, 0, by omega, rfl, rfl, rfl, DrewFrom.refl _⟩
  case round =>
    obtain ⟨z, j, hj, rfl, rfl, ht, hd⟩ := hrel
    have HT : Hid (tot z (ms.drop j) = tot (tot0 ms.length a b c) ms) := ht
    clear ht
    by_cases hlt : j < ms.length
    · obtain ⟨b', off, rfl, hc⟩ := hms (by omega)
      obtain ⟨m, hm⟩ : ∃ m, ms[j]? = some m := ⟨ms[j], by simp [hlt]⟩
      obtain ⟨c0, c1, c2⟩ := hc j m hm
      have d0 := (hd.cell _).trans c0
      have d2 := (hd.cell _).trans c2
      have HM : Hid (ms[j]? = some m) := hm
      clear hm hc c0 c1 c2
      by_cases hbig : (1048576 : Int) < z
      · go_wp2
        go_ret
        exact ⟨val_int ((tot_big HM.out hbig).symm.trans HT.out), hd⟩
      · go_wp2
        go_quiet (fail)
        go_wp2
        go_roundw
        case rel => exact ⟨totStep z m, j + 1, by omega, by go_num, rfl, (tot_step HM.out (by omega)).symm.trans HT.out, hd.drewN _⟩
        case measure => simp [intOf]; omega
    · go_wp2
      go_ret
      refine ⟨val_int ?_, hd⟩
      have h := HT.out
      rw [List.drop_of_length_le (by omega)] at h
      exact h
end Go.Proofs.Qxb6600451a
