/-
  The small functions of this seat that touch no memory, walked.
-/
import Derived.Test.Qxb6628246aSub
import Derived.BigQuiet
import Derived.Deep.QuietTactic
namespace Go.Proofs.Qxb6628246a.Se
open Go.RowKit

theorem ret_int {k : IntKind} {a b : Int} (h : a = b) : Ending.returned (.int k a) = .returned (.int k b) := by rw [h]
theorem ret_bool {a b : Bool} (h : a = b) : Ending.returned (.bool a) = .returned (.bool b) := by rw [h]

/-- zzClamp. -/
def clamp (r lo hi : Int) : Int := if hi < (if r < lo then lo else r) then hi else (if r < lo then lo else r)

theorem clamp_any (r lo hi : Int) (w : World) : Calls Try.prog 21 #[.int .i64 r, .int .i64 lo, .int .i64 hi] w fun e w' => e = .returned (.int .i64 (clamp r lo hi)) ∧ w' = w := by
  by_cases h1 : r < lo
  · by_cases h2 : hi < lo
    · go_enter Try.func21, Try.ntmps21
      go_wp2
      go_ret
      exact ⟨ret_int (by simp [clamp, h1, h2]), rfl⟩
    · go_enter Try.func21, Try.ntmps21
      go_wp2
      go_ret
      exact ⟨ret_int (by unfold clamp; rw [if_pos h1, if_neg (by omega)]), rfl⟩
  · by_cases h2 : hi < r
    · go_enter Try.func21, Try.ntmps21
      go_wp2
      go_ret
      exact ⟨ret_int (by unfold clamp; simp only [if_neg (show ¬ r < lo by omega), if_pos h2]), rfl⟩
    · go_enter Try.func21, Try.ntmps21
      go_wp2
      go_ret
      exact ⟨ret_int (by unfold clamp; simp only [if_neg (show ¬ r < lo by omega), if_neg (show ¬ hi < r by omega)]), rfl⟩

theorem clamp_bd (r lo hi : Int) (l0 : -1152921504606846976 ≤ lo) (l1 : lo ≤ 1152921504606846976) (h0 : -1152921504606846976 ≤ hi) (h1 : hi ≤ 1152921504606846976) :
    -1152921504606846976 ≤ clamp r lo hi ∧ clamp r lo hi ≤ 1152921504606846976 := by
  unfold clamp
  split <;> split <;> omega

/-- zzIn. -/
def inB (x : Int) : Bool := decide (-1152921504606846976 ≤ x ∧ x ≤ 1152921504606846976)

theorem in_any (x : Int) (w : World) : Calls Try.prog 17 #[.int .i64 x] w fun e w' => e = .returned (.bool (inB x)) ∧ w' = w := by
  by_cases h1 : -1152921504606846976 ≤ x
  · go_enter Try.func17, Try.ntmps17
    go_wp2
    all_goals
      go_ret
      exact ⟨ret_bool (by rw [Bool.eq_iff_iff]; simp [inB]; omega), rfl⟩
  · go_enter Try.func17, Try.ntmps17
    go_wp2
    all_goals
      go_ret
      exact ⟨ret_bool (by rw [Bool.eq_iff_iff]; simp [inB]; omega), rfl⟩

/-- What zzTableOK asks. -/
structure TableOK (now start lo hi tick past : Int) : Prop where
  n0 : -1152921504606846976 ≤ now
  n1 : now ≤ 1152921504606846976
  s0 : -1152921504606846976 ≤ start
  s1 : start ≤ 1152921504606846976
  l0 : -1152921504606846976 ≤ lo
  l1 : lo ≤ 1152921504606846976
  h0 : -1152921504606846976 ≤ hi
  h1 : hi ≤ 1152921504606846976
  t0 : 1 ≤ tick
  t1 : tick ≤ 1152921504606846976
  p0 : 0 ≤ past
  p1 : past ≤ 1152921504606846976

/-- It answers a bool; where it says yes, the table is as asked. -/
def TellsOK (e : Ending) (now start lo hi tick past : Int) : Prop := ∃ r, e = .returned (.bool r) ∧ (r = true → TableOK now start lo hi tick past)

theorem inB_true {x : Int} (h : inB x = true) : -1152921504606846976 ≤ x ∧ x ≤ 1152921504606846976 := of_decide_eq_true h

set_option maxHeartbeats 2000000 in
theorem tableOK_any (now start lo hi tick past : Int) (w : World) :
    Calls Try.prog 7 #[.int .i64 now, .int .i64 start, .int .i64 lo, .int .i64 hi, .int .i64 tick, .int .i64 past] w fun e w' => TellsOK e now start lo hi tick past ∧ w' = w := by
  cases h1 : inB now
  · go_enter Try.func7, Try.ntmps7
    go_wp2_with (go_at_call 17; refine (in_any _ _).mono ?_; rintro e w' ⟨rfl, rfl⟩; first | rw [h1] | skip)
    go_ret
    exact ⟨⟨_, rfl, fun h => by simp at h⟩, rfl⟩
  cases h2 : inB start
  · go_enter Try.func7, Try.ntmps7
    go_wp2_with (go_at_call 17; refine (in_any _ _).mono ?_; rintro e w' ⟨rfl, rfl⟩; first | rw [h1] | rw [h2] | skip)
    go_ret
    exact ⟨⟨_, rfl, fun h => by simp at h⟩, rfl⟩
  cases h3 : inB lo
  · go_enter Try.func7, Try.ntmps7
    go_wp2_with (go_at_call 17; refine (in_any _ _).mono ?_; rintro e w' ⟨rfl, rfl⟩; first | rw [h1] | rw [h2] | rw [h3] | skip)
    go_ret
    exact ⟨⟨_, rfl, fun h => by simp at h⟩, rfl⟩
  cases h4 : inB hi
  · go_enter Try.func7, Try.ntmps7
    go_wp2_with (go_at_call 17; refine (in_any _ _).mono ?_; rintro e w' ⟨rfl, rfl⟩; first | rw [h1] | rw [h2] | rw [h3] | rw [h4] | skip)
    go_ret
    exact ⟨⟨_, rfl, fun h => by simp at h⟩, rfl⟩
  by_cases hall : 1 ≤ tick ∧ tick ≤ 1152921504606846976 ∧ 0 ≤ past ∧ past ≤ 1152921504606846976
  · have hok : TableOK now start lo hi tick past := ⟨(inB_true h1).1, (inB_true h1).2, (inB_true h2).1, (inB_true h2).2, (inB_true h3).1, (inB_true h3).2, (inB_true h4).1, (inB_true h4).2, hall.1, hall.2.1, hall.2.2.1, hall.2.2.2⟩
    obtain ⟨a1, a2, a3, a4⟩ := hall
    go_enter Try.func7, Try.ntmps7
    go_wp2_with (go_at_call 17; refine (in_any _ _).mono ?_; rintro e w' ⟨rfl, rfl⟩; first | rw [h1] | rw [h2] | rw [h3] | rw [h4] | skip)
    all_goals
      go_ret
      exact ⟨⟨_, rfl, fun _ => hok⟩, rfl⟩
  · go_enter Try.func7, Try.ntmps7
    go_wp2_with (go_at_call 17; refine (in_any _ _).mono ?_; rintro e w' ⟨rfl, rfl⟩; first | rw [h1] | rw [h2] | rw [h3] | rw [h4] | skip)
    all_goals
      go_ret
      exact ⟨⟨_, rfl, fun h => absurd (by first | (simp at h; done) | (simp at h; omega)) hall⟩, rfl⟩

/-- zzCeilDiv, at a positive divisor. -/
def ceilDiv (d k : Int) : Int := if 0 < d ∧ d / k * k ≠ d then d / k + 1 else d.tdiv k

set_option maxHeartbeats 1000000 in
theorem ceilDiv_any (d k : Int) (w : World) (hk : 0 < k) (d0 : -4611686018427387904 ≤ d) (d1 : d ≤ 4611686018427387904) :
    Calls Try.prog 20 #[.int .i64 d, .int .i64 k] w fun e w' => e = .returned (.int .i64 (ceilDiv d k)) ∧ w' = w := by
  by_cases hd : 0 < d
  · have q0 : 0 ≤ d / k := Int.ediv_nonneg (by omega) (by omega)
    have q1 : d / k * k ≤ d := (Int.le_ediv_iff_mul_le hk).1 (Int.le_refl _)
    have q2 : 0 ≤ d / k * k := Int.mul_nonneg q0 (by omega)
    have q3 : d / k ≤ d := Int.ediv_le_self _ (by omega)
    by_cases he : d / k * k = d
    · have hb : (d / k * k != d) = false := by simp [he]
      have HC : Hid (ceilDiv d k = d / k) := by
        show _ = _
        unfold ceilDiv
        rw [if_neg (fun h => h.2 he), Int.tdiv_eq_ediv_of_nonneg (by omega)]
      clear he
      go_enter Try.func20, Try.ntmps20
      go_wp2
      go_ret
      exact ⟨ret_int HC.out.symm, rfl⟩
    · have hb : (d / k * k != d) = true := by simp [he]
      have HC : Hid (ceilDiv d k = d / k + 1) := if_pos ⟨hd, he⟩
      clear he
      go_enter Try.func20, Try.ntmps20
      go_wp2
      go_ret
      exact ⟨ret_int HC.out.symm, rfl⟩
  · have HC : Hid (ceilDiv d k = d.tdiv k) := if_neg (fun h => hd h.1)
    go_enter Try.func20, Try.ntmps20
    go_wp2
    go_ret
    exact ⟨ret_int HC.out.symm, rfl⟩

/-- The tick at which a session of timeout d (from the table's start) is due. -/
def due (d k past : Int) : Int := if ceilDiv d k ≤ past then past + 1 else ceilDiv d k

theorem div_eq {x u q : Int} (hu : 0 < u) (h1 : q * u ≤ x) (h2 : x < (q + 1) * u) : x / u = q := by
  have a := (Int.le_ediv_iff_mul_le hu).2 h1
  have b := (Int.ediv_lt_iff_lt_mul hu).2 h2
  omega

/-- schedule's own reckoning comes to the same. -/
theorem due_eq {d k past : Int} (hk : 0 < k) (hp : 0 ≤ past) : (if (d + k - 1).tdiv k < past + 1 then past + 1 else (d + k - 1).tdiv k) = due d k past := by
  unfold due
  by_cases hd : 0 < d
  · have q1 : d / k * k ≤ d := (Int.le_ediv_iff_mul_le hk).1 (Int.le_refl _)
    have q2 : d < (d / k + 1) * k := (Int.ediv_lt_iff_lt_mul hk).1 (by omega)
    have hc : (d + k - 1).tdiv k = ceilDiv d k := by
      rw [Int.tdiv_eq_ediv_of_nonneg (by omega)]
      rw [Int.add_mul] at q2
      unfold ceilDiv
      by_cases he : d / k * k = d
      · rw [if_neg (fun h => h.2 he), Int.tdiv_eq_ediv_of_nonneg (by omega)]
        exact div_eq hk (by omega) (by rw [Int.add_mul]; omega)
      · rw [if_pos ⟨hd, he⟩]
        exact div_eq hk (by rw [Int.add_mul]; omega) (by rw [Int.add_mul, Int.add_mul]; omega)
    rw [hc]
    split <;> split <;> omega
  · have h1 : (d + k - 1).tdiv k ≤ 0 := by
      by_cases hs : 0 ≤ d + k - 1
      · rw [Int.tdiv_eq_ediv_of_nonneg hs, div_eq (q := 0) hk (by omega) (by omega)]
        exact Int.le_refl _
      · have := Int.tdiv_nonneg (a := -(d + k - 1)) (b := k) (by omega) (by omega)
        rw [Int.neg_tdiv] at this
        omega
    have h2 : ceilDiv d k ≤ 0 := by
      unfold ceilDiv
      rw [if_neg (fun h => hd h.1)]
      have := Int.tdiv_nonneg (a := -d) (b := k) (by omega) (by omega)
      rw [Int.neg_tdiv] at this
      omega
    rw [if_pos (by omega), if_pos (by omega)]

/-- ServerOf. -/
def serverOf (id : Int) : Int := wrap64 (IntKind.u64.wrap id / 72057594037927936)

theorem serverOf_any (id : Int) (w : World) : Calls Try.prog 38 #[.int .i64 id] w fun e w' => e = .returned (.int .i64 (serverOf id)) ∧ w' = w := by
  go_enter Try.func38, Try.ntmps38
  go_wp2
  go_ret
  exact ⟨rfl, rfl⟩

end Go.Proofs.Qxb6628246a.Se
