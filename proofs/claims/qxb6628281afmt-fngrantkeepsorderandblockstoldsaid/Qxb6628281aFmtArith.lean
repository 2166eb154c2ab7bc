/-
  The plain arithmetic of Grant.
-/
import Derived.Test.Qxb6628281aFmtGrant
namespace Go.Proofs.Qxb6628281aFmt.Gr

theorem div_eq {x u q : Int} (hu : 0 < u) (h1 : q * u ≤ x) (h2 : x < (q + 1) * u) : x / u = q := by
  have a := (Int.le_ediv_iff_mul_le hu).2 h1
  have b := (Int.ediv_lt_iff_lt_mul hu).2 h2
  omega

theorem div_mul_le {x u : Int} (hu : 0 < u) : x / u * u ≤ x := (Int.le_ediv_iff_mul_le hu).1 (Int.le_refl _)

theorem lt_div_mul {x u : Int} (hu : 0 < u) : x < (x / u + 1) * u := (Int.ediv_lt_iff_lt_mul hu).1 (by omega)

/-- How many units: one more than those wholly below. -/
theorem cnt_eq {x u : Int} (hu : 0 < u) : cnt x u = (x - 1) / u + 1 := by
  have a := div_mul_le (x := x) hu
  have b := lt_div_mul (x := x) hu
  rw [Int.add_mul] at b
  unfold cnt
  by_cases h : x / u * u < x
  · rw [if_pos h]
    have : (x - 1) / u = x / u := div_eq hu (by omega) (by rw [Int.add_mul]; omega)
    omega
  · rw [if_neg h]
    have : (x - 1) / u = x / u - 1 := div_eq hu (by rw [Int.sub_mul]; omega) (by rw [show x / u - 1 + 1 = x / u by omega]; omega)
    omega

/-- What a Grant that accepts answers. -/
structure Fits (x u l : Int) : Prop where
  q0 : 0 ≤ x / u
  q1 : x / u * u ≤ x
  q2 : 0 ≤ x / u * u
  n1 : 1 ≤ cnt x u
  c0 : 0 ≤ cnt x u * u
  ge : x ≤ cnt x u * u
  lt : cnt x u * u - u < x
  le : cnt x u * u ≤ l
  nl : cnt x u ≤ l

theorem fits {x u l : Int} (hx : 0 < x) (hl : x ≤ l) (hu : 0 < u) (hm : l.tmod u = 0) : Fits x u l := by
  have q0 : 0 ≤ x / u := Int.ediv_nonneg (by omega) (by omega)
  have e := cnt_eq (x := x) hu
  have p0 : 0 ≤ (x - 1) / u := Int.ediv_nonneg (by omega) (by omega)
  have a := div_mul_le (x := x - 1) hu
  have b := lt_div_mul (x := x - 1) hu
  have n1 : 1 ≤ cnt x u := by omega
  have hme : l % u = 0 := by rw [← Int.tmod_eq_emod_of_nonneg (by omega)]; exact hm
  have hk : l = l / u * u := by have := Int.mul_ediv_add_emod l u; rw [hme, Int.mul_comm] at this; omega
  have hnk : cnt x u ≤ l / u := by
    rw [e]
    have : (x - 1) / u < l / u := (Int.ediv_lt_iff_lt_mul hu).2 (by omega)
    omega
  have le : cnt x u * u ≤ l := by
    have := Int.mul_le_mul_of_nonneg_right hnk (Int.le_of_lt hu)
    omega
  have hcm : cnt x u * 1 ≤ cnt x u * u := Int.mul_le_mul_of_nonneg_left (by omega) (by omega)
  rw [Int.mul_one] at hcm
  rw [e] at le hcm n1
  refine ⟨q0, div_mul_le hu, Int.mul_nonneg q0 (by omega), by rw [e]; exact n1, ?_, ?_, ?_, by rw [e]; exact le, ?_⟩
  all_goals rw [e]
  · omega
  · omega
  · rw [Int.add_mul]; omega
  · omega

/-- Granting what was granted. -/
theorem cnt_again {n u : Int} (hu : 0 < u) : cnt (n * u) u = n := by
  rw [cnt_eq hu, div_eq (q := n - 1) hu (by rw [Int.sub_mul]; omega) (by rw [show n - 1 + 1 = n by omega]; omega)]
  omega

theorem cnt_mono {a b u : Int} (hu : 0 < u) (h : a ≤ b) : cnt a u ≤ cnt b u := by
  rw [cnt_eq hu, cnt_eq hu]
  have := Int.ediv_le_ediv hu (show a - 1 ≤ b - 1 by omega)
  omega

theorem cnt_same {a b u : Int} (hu : 0 < u) : (cnt a u = cnt b u) ↔ ((a - 1) / u = (b - 1) / u) := by
  rw [cnt_eq hu, cnt_eq hu]
  omega

end Go.Proofs.Qxb6628281aFmt.Gr
