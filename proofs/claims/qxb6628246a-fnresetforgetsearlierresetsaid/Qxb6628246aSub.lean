/-
  (time.Time).Equal and (time.Time).Sub, walked.
-/
import Derived.Test.Qxb6628246aTime
import Derived.Deep.RegionHeld3
namespace Go.Proofs.Qxb6628246a.Tm
open Go.RowKit

set_option maxHeartbeats 1000000 in
theorem equal_same (n : Int) (w : World) : Calls Try.prog 61 #[time n, time n] w fun e w' => e = .returned (.bool true) ∧ Below w.heap.size w w' := by
  unfold time
  have x0 : 0 ≤ nsec n := by unfold nsec; omega
  have x1 : nsec n < 1073741824 := by unfold nsec; omega
  generalize nsec n = x at x0 x1
  generalize sec n = s
  have haa := and_and_high x x x0 x1 x0 x1
  have hss : (s == s) = true := by simp
  go_enter Try.func61, Try.ntmps61
  go_wp2_with fail
  refine (sec_any w.heap.size 0 x s _ (by go_simp) x0 x1 (by go_simp)).mono ?_
  rintro e w1 ⟨rfl, rfl⟩
  go_wp2_with fail
  refine (sec_any (w.heap.size + 1) 0 x s _ (by go_simp) x0 x1 (by go_simp)).mono ?_
  rintro e w1 ⟨rfl, rfl⟩
  go_wp2_with fail
  refine (nsec_any w.heap.size 0 x _ (by go_simp) x0 x1).mono ?_
  rintro e w1 ⟨rfl, rfl⟩
  go_wp2_with fail
  refine (nsec_any (w.heap.size + 1) 0 x _ (by go_simp) x0 x1).mono ?_
  rintro e w1 ⟨rfl, rfl⟩
  go_wp2
  go_ret
  exact ⟨congrArg (fun b => Ending.returned (.bool b)) (by simp), ((Below.refl _ _).alloc (Nat.le_refl _) _).alloc (by simp) _⟩

set_option maxHeartbeats 2000000 in
theorem sub_any (a b : Int) (w : World) (a0 : -2305843009213693952 ≤ a) (a1 : a ≤ 2305843009213693952) (b0 : -1152921504606846976 ≤ b) (b1 : b ≤ 1152921504606846976) :
    Calls Try.prog 51 #[time a, time b] w fun e w' => e = .returned (.int .i64 (a - b)) ∧ Below w.heap.size w w' := by
  have x0 : 0 ≤ nsec a := by unfold nsec; omega
  have x1 : nsec a < 1000000000 := by unfold nsec; omega
  have y0 : 0 ≤ nsec b := by unfold nsec; omega
  have y1 : nsec b < 1000000000 := by unfold nsec; omega
  have HD : Hid ((sec a - sec b) * 1000000000 + (nsec a - nsec b) = a - b) := by show _ = _; unfold sec nsec; omega
  have s0 : -2305843010 ≤ sec a := by unfold sec; omega
  have s1 : sec a ≤ 2305843010 := by unfold sec; omega
  have t0 : -1152921505 ≤ sec b := by unfold sec; omega
  have t1 : sec b ≤ 1152921505 := by unfold sec; omega
  have haa := and_and_high (nsec a) (nsec b) x0 (by omega) y0 (by omega)
  unfold time
  go_enter Try.func51, Try.ntmps51
  go_wp2_with fail
  refine (sec_any w.heap.size 0 (nsec a) (sec a) _ (by go_simp) x0 (by omega) (by go_simp)).mono ?_
  rintro e w1 ⟨rfl, rfl⟩
  go_wp2_with fail
  refine (sec_any (w.heap.size + 1) 0 (nsec b) (sec b) _ (by go_simp) y0 (by omega) (by go_simp)).mono ?_
  rintro e w1 ⟨rfl, rfl⟩
  go_wp2_with fail
  refine (nsec_any w.heap.size 0 (nsec a) _ (by go_simp) x0 (by omega)).mono ?_
  rintro e w1 ⟨rfl, rfl⟩
  go_wp2_with fail
  refine (nsec_any (w.heap.size + 1) 0 (nsec b) _ (by go_simp) y0 (by omega)).mono ?_
  rintro e w1 ⟨rfl, rfl⟩
  go_wp2_with fail
  rw [HD.out]
  have hadd : ∀ w, Calls Try.prog 18 #[time b, .int .i64 (a - b)] w fun e w' => e = .returned (time a) ∧ Below w.heap.size w w' := by
    intro w
    have := add_any b (a - b) w (by omega) (by omega) (by omega) (by omega)
    rwa [show b + (a - b) = a by omega] at this
  have HADD : Hid (∀ w, _) := hadd
  clear hadd
  obtain ⟨W, hW⟩ : ∃ W, W = (w.alloc (Obj.cells #[Value.int IntKind.u64 (nsec a), Value.int IntKind.i64 (sec a), Value.pointer none] 38)).alloc (Obj.cells #[Value.int IntKind.u64 (nsec b), Value.int IntKind.i64 (sec b), Value.pointer none] 38) := ⟨_, rfl⟩
  have c0 : W.cell? ⟨w.heap.size, 0, none⟩ = some (.int .u64 (nsec a)) := by rw [hW]; go_simp
  have c1 : W.cell? ⟨w.heap.size, 1, none⟩ = some (.int .i64 (sec a)) := by rw [hW]; go_simp
  have c2 : W.cell? ⟨w.heap.size, 2, none⟩ = some (.pointer none) := by rw [hW]; go_simp
  have e0 : W.cell? ⟨w.heap.size + 1, 0, none⟩ = some (.int .u64 (nsec b)) := by rw [hW]; go_simp
  have e1 : W.cell? ⟨w.heap.size + 1, 1, none⟩ = some (.int .i64 (sec b)) := by rw [hW]; go_simp
  have e2 : W.cell? ⟨w.heap.size + 1, 2, none⟩ = some (.pointer none) := by rw [hW]; go_simp
  have hBW : Below w.heap.size w W := by rw [hW]; exact ((Below.refl _ _).alloc (Nat.le_refl _) _).alloc (by simp) _
  have hz : w.heap.size + 1 < W.heap.size := by rw [hW]; simp
  rw [← hW]
  clear hW haa
  go_region_held3 (fun w' => w'.cell? ⟨w.heap.size, 0, none⟩ = some (.int .u64 (nsec a)) ∧ w'.cell? ⟨w.heap.size, 1, none⟩ = some (.int .i64 (sec a)) ∧ w'.cell? ⟨w.heap.size, 2, none⟩ = some (.pointer none) ∧ w'.cell? ⟨w.heap.size + 1, 0, none⟩ = some (.int .u64 (nsec b)) ∧ w'.cell? ⟨w.heap.size + 1, 1, none⟩ = some (.int .i64 (sec b)) ∧ w'.cell? ⟨w.heap.size + 1, 2, none⟩ = some (.pointer none))
    (first | go_keep | (go_split_ands; refine ⟨?_, ?_, ?_, ?_, ?_, ?_⟩ <;> first | (rw [hB2.cell (by simp; omega)]; assumption) | (rw [hB1.cell (by simp; omega)]; assumption)))
    (first
      | (go_at_call 18; refine (HADD.out _).mono ?_; rintro e w1 ⟨rfl, hB1⟩; have hz1 : W.heap.size ≤ w1.heap.size := hB1.size)
      | (go_at_call 61; refine (equal_same a _).mono ?_; rintro e w2 ⟨rfl, hB2⟩))
  all_goals go_wp2
  all_goals go_ret
  all_goals exact ⟨rfl, (hBW.drew.trans (hB1.mono (by show w.heap.size ≤ W.heap.size; omega))).trans (hB2.mono (by omega))⟩

end Go.Proofs.Qxb6628246a.Tm
