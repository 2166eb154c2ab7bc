/-
  time.Time, as far as this program uses it: Add, Sub, Equal at times without a monotonic reading and without a location.
-/
import Derived.Test.Qxb6628246aRows
import Derived.Test.Qxb6628246aBits
import Derived.WalkKit
import Derived.ProofKit
namespace Go.Proofs.Qxb6628246a.Tm
open Go.RowKit

/-- The time n nanoseconds after time.Time{}: its seconds, its nanoseconds. -/
def sec (n : Int) : Int := n / 1000000000
def nsec (n : Int) : Int := n % 1000000000
/-- .. as a value. -/
def time (n : Int) : Value := .agg #[.int .u64 (nsec n), .int .i64 (sec n), .pointer none]

theorem nsec_any (b o : Nat) (x : Int) (w : World) (h : w.cell? ⟨b, o, none⟩ = some (.int .u64 x)) (h0 : 0 ≤ x) (h1 : x < 1073741824) :
    Calls Try.prog 33 #[.pointer (some ⟨b, o, none⟩)] w fun e w' => e = .returned (.int .i32 x) ∧ w' = w := by
  have hm := and_mask x h0 h1
  have hw : wrap32 x = x := by unfold wrap32; omega
  go_enter Try.func33, Try.ntmps33
  go_wp2
  go_ret
  exact ⟨rfl, rfl⟩

theorem sec_any (b o : Nat) (x s : Int) (w : World) (h : w.cell? ⟨b, o, none⟩ = some (.int .u64 x)) (h0 : 0 ≤ x) (h1 : x < 1073741824) (hs : w.cell? ⟨b, o + 1, none⟩ = some (.int .i64 s)) :
    Calls Try.prog 42 #[.pointer (some ⟨b, o, none⟩)] w fun e w' => e = .returned (.int .i64 s) ∧ w' = w := by
  have hm := and_high x h0 h1
  go_enter Try.func42, Try.ntmps42
  go_wp2
  go_ret
  exact ⟨rfl, rfl⟩

/-- (*time.Time).addSec, no overflow. -/
theorem addSec_any (b : Nat) (x s d : Int) (w : World) (h : w.cell? ⟨b, 0, none⟩ = some (.int .u64 x)) (h0 : 0 ≤ x) (h1 : x < 1073741824) (hs : w.cell? ⟨b, 1, none⟩ = some (.int .i64 s)) (hf : w.frozen? ⟨b, 1, none⟩ = false)
    (s0 : -4611686018427387904 ≤ s) (s1 : s ≤ 4611686018427387904) (d0 : -4611686018427387904 < d) (d1 : d < 4611686018427387904) :
    Calls Try.prog 34 #[.pointer (some ⟨b, 0, none⟩), .int .i64 d] w fun e w' => e = .returned (.tuple #[]) ∧ w' = w.setCell ⟨b, 1, none⟩ (.int .i64 (s + d)) := by
  have hm := and_high x h0 h1
  by_cases hd : 0 < d
  · have hlt : decide (s < s + d) = true := by simp; omega
    go_enter Try.func34, Try.ntmps34
    go_wp2
    go_end0
    exact ⟨rfl, rfl⟩
  · have hlt : decide (s < s + d) = false := by simp; omega
    go_enter Try.func34, Try.ntmps34
    go_wp2
    go_end0
    exact ⟨rfl, rfl⟩

set_option maxHeartbeats 1000000 in
theorem add_any (n d : Int) (w : World) (n0 : -4611686018427387904 ≤ n) (n1 : n ≤ 4611686018427387904) (d0 : -4611686018427387904 ≤ d) (d1 : d ≤ 4611686018427387904) :
    Calls Try.prog 18 #[time n, .int .i64 d] w fun e w' => e = .returned (time (n + d)) ∧ Below w.heap.size w w' := by
  unfold time
  have x0 : 0 ≤ nsec n := by unfold nsec; omega
  have x1 : nsec n < 1000000000 := by unfold nsec; omega
  have s0 : -4611686018427387904 ≤ sec n := by unfold sec; omega
  have s1 : sec n ≤ 4611686018427387904 := by unfold sec; omega
  by_cases hd : 0 ≤ d
  · by_cases hc : 1000000000 ≤ nsec n + d % 1000000000
    · have hor := andNot_or (nsec n) (nsec n + d % 1000000000 - 1000000000) x0 (by omega) (by omega) (by omega)
      have hhi := and_high (nsec n + d % 1000000000 - 1000000000) (by omega) (by omega)
      have HY : Hid (nsec n + d % 1000000000 - 1000000000 = nsec (n + d)) := by
        show _ = _
        have e1 : nsec n = n % 1000000000 := rfl
        have e2 : nsec (n + d) = (n + d) % 1000000000 := rfl
        clear hor hhi
        omega
      have HS : Hid (sec n + (d / 1000000000 + 1) = sec (n + d)) := by
        show _ = _
        have e0 : nsec n = n % 1000000000 := rfl
        have e1 : sec n = n / 1000000000 := rfl
        have e2 : sec (n + d) = (n + d) / 1000000000 := rfl
        clear hor hhi
        omega
      go_enter Try.func18, Try.ntmps18
      go_wp2_with fail
      refine (nsec_any w.heap.size 0 (nsec n) _ (by go_simp) x0 (by omega)).mono ?_
      rintro e w1 ⟨rfl, rfl⟩
      go_wp2_with fail
      refine (addSec_any w.heap.size (nsec n + d % 1000000000 - 1000000000) (sec n) (d / 1000000000 + 1) _ (by go_simp) (by omega) (by omega) (by go_simp) (by go_simp) s0 s1 (by omega) (by omega)).mono ?_
      rintro e w1 ⟨rfl, rfl⟩
      go_wp2
      refine bodyPost_ret (v := .agg #[.int .u64 (nsec n + d % 1000000000 - 1000000000), .int .i64 (sec n + (d / 1000000000 + 1)), .pointer none]) (by simp [results, Try.results18, go_sem]) rfl ⟨?_, ?_⟩
      · rw [HY.out, HS.out]
      · exact ((Below.refl _ _).alloc (Nat.le_refl _) _).alloc (by simp) _
    · have hor := andNot_or (nsec n) (nsec n + d % 1000000000) x0 (by omega) (by omega) (by omega)
      have hhi := and_high (nsec n + d % 1000000000) (by omega) (by omega)
      have HY : Hid (nsec n + d % 1000000000 = nsec (n + d)) := by
        show _ = _
        have e1 : nsec n = n % 1000000000 := rfl
        have e2 : nsec (n + d) = (n + d) % 1000000000 := rfl
        clear hor hhi
        omega
      have HS : Hid (sec n + (d / 1000000000) = sec (n + d)) := by
        show _ = _
        have e0 : nsec n = n % 1000000000 := rfl
        have e1 : sec n = n / 1000000000 := rfl
        have e2 : sec (n + d) = (n + d) / 1000000000 := rfl
        clear hor hhi
        omega
      go_enter Try.func18, Try.ntmps18
      go_wp2_with fail
      refine (nsec_any w.heap.size 0 (nsec n) _ (by go_simp) x0 (by omega)).mono ?_
      rintro e w1 ⟨rfl, rfl⟩
      go_wp2_with fail
      refine (addSec_any w.heap.size (nsec n + d % 1000000000) (sec n) (d / 1000000000) _ (by go_simp) (by omega) (by omega) (by go_simp) (by go_simp) s0 s1 (by omega) (by omega)).mono ?_
      rintro e w1 ⟨rfl, rfl⟩
      go_wp2
      refine bodyPost_ret (v := .agg #[.int .u64 (nsec n + d % 1000000000), .int .i64 (sec n + (d / 1000000000)), .pointer none]) (by simp [results, Try.results18, go_sem]) rfl ⟨?_, ?_⟩
      · rw [HY.out, HS.out]
      · exact ((Below.refl _ _).alloc (Nat.le_refl _) _).alloc (by simp) _
  · obtain ⟨q, hq⟩ : ∃ q, d.tdiv 1000000000 = q := ⟨_, rfl⟩
    obtain ⟨r, hr⟩ : ∃ r, d.tmod 1000000000 = r := ⟨_, rfl⟩
    have hqr : d = q * 1000000000 + r := by rw [← hq, ← hr]; have := Int.tmod_add_mul_tdiv d 1000000000; omega
    have hr0 : -1000000000 < r := by rw [← hr]; have := Int.tmod_lt_of_pos (-d) (b := 1000000000) (by omega); rw [Int.neg_tmod] at this; omega
    have hr1 : r ≤ 0 := by rw [← hr]; have := Int.tmod_nonneg (a := -d) 1000000000 (by omega); rw [Int.neg_tmod] at this; omega
    have HQR : Hid (d = q * 1000000000 + r) := hqr
    have hq0 : -4611686019 ≤ q := by omega
    have hq1 : q ≤ 0 := by omega
    clear hqr
    by_cases hc : nsec n + r < 0
    · have HQR' := HQR.out
      have hor := andNot_or (nsec n) (nsec n + r + 1000000000) x0 (by omega) (by omega) (by omega)
      have hhi := and_high (nsec n + r + 1000000000) (by omega) (by omega)
      have HY : Hid (nsec n + r + 1000000000 = nsec (n + d)) := by
        show _ = _
        have e1 : nsec n = n % 1000000000 := rfl
        have e2 : nsec (n + d) = (n + d) % 1000000000 := rfl
        clear hor hhi
        omega
      have HS : Hid (sec n + (q - 1) = sec (n + d)) := by
        show _ = _
        have e0 : nsec n = n % 1000000000 := rfl
        have e1 : sec n = n / 1000000000 := rfl
        have e2 : sec (n + d) = (n + d) / 1000000000 := rfl
        clear hor hhi
        omega
      clear HQR'
      go_enter Try.func18, Try.ntmps18
      go_wp2_with fail
      refine (nsec_any w.heap.size 0 (nsec n) _ (by go_simp) x0 (by omega)).mono ?_
      rintro e w1 ⟨rfl, rfl⟩
      go_wp2_with fail
      refine (addSec_any w.heap.size (nsec n + r + 1000000000) (sec n) (q - 1) _ (by go_simp) (by omega) (by omega) (by go_simp) (by go_simp) s0 s1 (by omega) (by omega)).mono ?_
      rintro e w1 ⟨rfl, rfl⟩
      go_wp2
      refine bodyPost_ret (v := .agg #[.int .u64 (nsec n + r + 1000000000), .int .i64 (sec n + (q - 1)), .pointer none]) (by simp [results, Try.results18, go_sem]) rfl ⟨?_, ?_⟩
      · rw [HY.out, HS.out]
      · exact ((Below.refl _ _).alloc (Nat.le_refl _) _).alloc (by simp) _
    · have HQR' := HQR.out
      have hor := andNot_or (nsec n) (nsec n + r) x0 (by omega) (by omega) (by omega)
      have hhi := and_high (nsec n + r) (by omega) (by omega)
      have HY : Hid (nsec n + r = nsec (n + d)) := by
        show _ = _
        have e1 : nsec n = n % 1000000000 := rfl
        have e2 : nsec (n + d) = (n + d) % 1000000000 := rfl
        clear hor hhi
        omega
      have HS : Hid (sec n + (q) = sec (n + d)) := by
        show _ = _
        have e0 : nsec n = n % 1000000000 := rfl
        have e1 : sec n = n / 1000000000 := rfl
        have e2 : sec (n + d) = (n + d) / 1000000000 := rfl
        clear hor hhi
        omega
      clear HQR'
      go_enter Try.func18, Try.ntmps18
      go_wp2_with fail
      refine (nsec_any w.heap.size 0 (nsec n) _ (by go_simp) x0 (by omega)).mono ?_
      rintro e w1 ⟨rfl, rfl⟩
      go_wp2_with fail
      refine (addSec_any w.heap.size (nsec n + r) (sec n) (q) _ (by go_simp) (by omega) (by omega) (by go_simp) (by go_simp) s0 s1 (by omega) (by omega)).mono ?_
      rintro e w1 ⟨rfl, rfl⟩
      go_wp2
      refine bodyPost_ret (v := .agg #[.int .u64 (nsec n + r), .int .i64 (sec n + (q)), .pointer none]) (by simp [results, Try.results18, go_sem]) rfl ⟨?_, ?_⟩
      · rw [HY.out, HS.out]
      · exact ((Below.refl _ _).alloc (Nat.le_refl _) _).alloc (by simp) _

end Go.Proofs.Qxb6628246a.Tm
