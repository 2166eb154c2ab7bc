/-
  FnGrantKeepsOrderAndBlocks, walked.
-/
import Derived.Test.Qxb6628281aFmtArith
namespace Go.Proofs.Qxb6628281aFmt.Gr
open Go.Extern.Stop Go.Stop Go.Extern Go.RowKit
set_option linter.unusedVariables false

theorem same_eq {p q r s : Int} (h : p = q ↔ r = s) : ((p == q) == (r == s)) = true := by
  rw [beq_iff_eq, Bool.eq_iff_iff, beq_iff_eq, beq_iff_eq]
  exact h

theorem bytes7_yes (s : ByteArray) (a b c d e : Int) (h : s.size ≤ 1048576) (w : World) :
    Calls Tryf.prog 7 #[.string s, .int .i64 a, .int .i64 b, .int .i64 c, .int .i64 d, .int .i64 e] w fun e w' => e = .returned (.bool true) ∧ w' = w := by
  go_enter Tryf.func7, Tryf.ntmps7
  go_wp2
  go_ret
  exact ⟨rfl, rfl⟩

theorem bytes7_no (s : ByteArray) (a b c d e : Int) (h : 1048576 < s.size) (hs : s.size ≤ maxLen) (w : World) :
    Calls Tryf.prog 7 #[.string s, .int .i64 a, .int .i64 b, .int .i64 c, .int .i64 d, .int .i64 e] w fun e w' => e = .returned (.bool false) ∧ w' = w := by
  unfold maxLen at hs
  go_enter Tryf.func7, Tryf.ntmps7
  go_wp2
  go_ret
  exact ⟨rfl, rfl⟩

set_option maxHeartbeats 2000000 in
theorem order_neg_neg (F : Interp) (store : ByteArray) (unit least longest a b : Int) (w : World) (hF : F.answers w.tape) (hsm : store.size ≤ 1048576) (hu' : 0 < unit) (HM : Hid (longest.tmod unit = 0)) (hab : a ≤ b)
    (l0 : -9223372036854775808 ≤ longest) (l1 : longest ≤ 9223372036854775807) (a0 : -9223372036854775808 ≤ a) (a1 : a ≤ 9223372036854775807) (b0 : -9223372036854775808 ≤ b) (b1 : b ≤ 9223372036854775807) (u1 : unit ≤ 9223372036854775807)
    (hna : a ≤ 0) (hnb : b ≤ 0) :
    Calls Tryf.prog 4 #[.string store, .int .i64 unit, .int .i64 least, .int .i64 longest, .int .i64 a, .int .i64 b] w fun e w' => e = .returned (.bool true) ∧ Below w.heap.size w w' := by
  have hmt : (longest.tmod unit != 0) = false := by simp [HM.out]
  have hme : (longest % unit != 0) = false := by
    by_cases hl : 0 ≤ longest
    · rw [← Int.tmod_eq_emod_of_nonneg hl]; exact hmt
    · have : longest % unit = 0 := Int.emod_eq_zero_of_dvd (Int.dvd_of_tmod_eq_zero HM.out)
      simp [this]
  have HF : Hid (F.answers w.tape) := hF
  clear hF
  go_enter Tryf.func4, Tryf.ntmps4
  go_wp2_with fail
  refine (bytes7_yes store unit least longest a b hsm _).mono ?_
  rintro e w' ⟨rfl, rfl⟩
  go_wp2_with fail
  refine (grant_neg F store unit least longest a _ (by exact HF) hna a0).mono ?_
  rintro e w1 ⟨⟨ta, xa, rfl⟩, hB⟩
  have cr0 : w1.cell? ⟨w'.heap.size, 0, none⟩ = some (.string store) := by rw [hB.cell (by simp)]; go_simp
  have cr1 : w1.cell? ⟨w'.heap.size, 1, none⟩ = some (.int .i64 unit) := by rw [hB.cell (by simp)]; go_simp
  have cr2 : w1.cell? ⟨w'.heap.size, 2, none⟩ = some (.int .i64 least) := by rw [hB.cell (by simp)]; go_simp
  have cr3 : w1.cell? ⟨w'.heap.size, 3, none⟩ = some (.int .i64 longest) := by rw [hB.cell (by simp)]; go_simp
  have HF : Hid (F.answers w1.tape) := by show F.answers _; rw [hB.tape]; exact HF
  go_wp2_with fail
  refine (grant_neg F store unit least longest b _ (by exact HF) hnb b0).mono ?_
  rintro e w2 ⟨⟨tb, xb, rfl⟩, hB2⟩
  go_wp2
  go_ret
  exact ⟨rfl, (((Below.refl _ _).alloc (Nat.le_refl _) _).trans (hB.mono (by simp))).trans (hB2.mono (by have := hB.size; simp at this; omega))⟩

set_option maxHeartbeats 2000000 in
theorem order_neg_long (F : Interp) (store : ByteArray) (unit least longest a b : Int) (w : World) (hF : F.answers w.tape) (hsm : store.size ≤ 1048576) (hu' : 0 < unit) (HM : Hid (longest.tmod unit = 0)) (hab : a ≤ b)
    (l0 : -9223372036854775808 ≤ longest) (l1 : longest ≤ 9223372036854775807) (a0 : -9223372036854775808 ≤ a) (a1 : a ≤ 9223372036854775807) (b0 : -9223372036854775808 ≤ b) (b1 : b ≤ 9223372036854775807) (u1 : unit ≤ 9223372036854775807)
    (hna : a ≤ 0) (hpb : 0 < b) (hlb : longest < b) :
    Calls Tryf.prog 4 #[.string store, .int .i64 unit, .int .i64 least, .int .i64 longest, .int .i64 a, .int .i64 b] w fun e w' => e = .returned (.bool true) ∧ Below w.heap.size w w' := by
  have hmt : (longest.tmod unit != 0) = false := by simp [HM.out]
  have hme : (longest % unit != 0) = false := by
    by_cases hl : 0 ≤ longest
    · rw [← Int.tmod_eq_emod_of_nonneg hl]; exact hmt
    · have : longest % unit = 0 := Int.emod_eq_zero_of_dvd (Int.dvd_of_tmod_eq_zero HM.out)
      simp [this]
  have hdb : decide (b ≤ longest) = false := by simp; omega
  have HF : Hid (F.answers w.tape) := hF
  clear hF
  go_enter Tryf.func4, Tryf.ntmps4
  go_wp2_with fail
  refine (bytes7_yes store unit least longest a b hsm _).mono ?_
  rintro e w' ⟨rfl, rfl⟩
  go_wp2_with fail
  refine (grant_neg F store unit least longest a _ (by exact HF) hna a0).mono ?_
  rintro e w1 ⟨⟨ta, xa, rfl⟩, hB⟩
  have cr0 : w1.cell? ⟨w'.heap.size, 0, none⟩ = some (.string store) := by rw [hB.cell (by simp)]; go_simp
  have cr1 : w1.cell? ⟨w'.heap.size, 1, none⟩ = some (.int .i64 unit) := by rw [hB.cell (by simp)]; go_simp
  have cr2 : w1.cell? ⟨w'.heap.size, 2, none⟩ = some (.int .i64 least) := by rw [hB.cell (by simp)]; go_simp
  have cr3 : w1.cell? ⟨w'.heap.size, 3, none⟩ = some (.int .i64 longest) := by rw [hB.cell (by simp)]; go_simp
  have HF : Hid (F.answers w1.tape) := by show F.answers _; rw [hB.tape]; exact HF
  go_wp2_with fail
  refine (grant_long F store unit least longest b _ (by exact HF) hpb hlb l0 b1).mono ?_
  rintro e w2 ⟨⟨tb, xb, rfl⟩, hB2⟩
  go_wp2
  go_ret
  exact ⟨rfl, (((Below.refl _ _).alloc (Nat.le_refl _) _).trans (hB.mono (by simp))).trans (hB2.mono (by have := hB.size; simp at this; omega))⟩

set_option maxHeartbeats 2000000 in
theorem order_neg_ok (F : Interp) (store : ByteArray) (unit least longest a b : Int) (w : World) (hF : F.answers w.tape) (hsm : store.size ≤ 1048576) (hu' : 0 < unit) (HM : Hid (longest.tmod unit = 0)) (hab : a ≤ b)
    (l0 : -9223372036854775808 ≤ longest) (l1 : longest ≤ 9223372036854775807) (a0 : -9223372036854775808 ≤ a) (a1 : a ≤ 9223372036854775807) (b0 : -9223372036854775808 ≤ b) (b1 : b ≤ 9223372036854775807) (u1 : unit ≤ 9223372036854775807)
    (hna : a ≤ 0) (hpb : 0 < b) (hlb : b ≤ longest) :
    Calls Tryf.prog 4 #[.string store, .int .i64 unit, .int .i64 least, .int .i64 longest, .int .i64 a, .int .i64 b] w fun e w' => e = .returned (.bool true) ∧ Below w.heap.size w w' := by
  have hmt : (longest.tmod unit != 0) = false := by simp [HM.out]
  have hme : (longest % unit != 0) = false := by
    by_cases hl : 0 ≤ longest
    · rw [← Int.tmod_eq_emod_of_nonneg hl]; exact hmt
    · have : longest % unit = 0 := Int.emod_eq_zero_of_dvd (Int.dvd_of_tmod_eq_zero HM.out)
      simp [this]
  obtain ⟨q0b, q1b, q2b, n1b, c0b, geb, ltb, leb, nlb⟩ := fits hpb hlb hu' HM.out
  have hGb := fun w => grant_yes store unit least longest b w hpb hlb hu' l1 q0b q1b q2b c0b leb (by omega)
  clear q0b q1b q2b
  generalize cnt b unit = nb at *
  generalize nb * unit = db at *
  have Hb : Hid (∀ w, _) := hGb
  clear hGb
  have HF : Hid (F.answers w.tape) := hF
  clear hF
  go_enter Tryf.func4, Tryf.ntmps4
  go_wp2_with fail
  refine (bytes7_yes store unit least longest a b hsm _).mono ?_
  rintro e w' ⟨rfl, rfl⟩
  go_wp2_with fail
  refine (grant_neg F store unit least longest a _ (by exact HF) hna a0).mono ?_
  rintro e w1 ⟨⟨ta, xa, rfl⟩, hB⟩
  have cr0 : w1.cell? ⟨w'.heap.size, 0, none⟩ = some (.string store) := by rw [hB.cell (by simp)]; go_simp
  have cr1 : w1.cell? ⟨w'.heap.size, 1, none⟩ = some (.int .i64 unit) := by rw [hB.cell (by simp)]; go_simp
  have cr2 : w1.cell? ⟨w'.heap.size, 2, none⟩ = some (.int .i64 least) := by rw [hB.cell (by simp)]; go_simp
  have cr3 : w1.cell? ⟨w'.heap.size, 3, none⟩ = some (.int .i64 longest) := by rw [hB.cell (by simp)]; go_simp
  have HF : Hid (F.answers w1.tape) := by show F.answers _; rw [hB.tape]; exact HF
  go_wp2_with fail
  refine (Hb.out _).mono ?_
  rintro e w2 ⟨rfl, hB2⟩
  go_wp2
  go_ret
  exact ⟨rfl, (((Below.refl _ _).alloc (Nat.le_refl _) _).trans (hB.mono (by simp))).trans (hB2.mono (by have := hB.size; simp at this; omega))⟩

set_option maxHeartbeats 2000000 in
theorem order_ok_long (F : Interp) (store : ByteArray) (unit least longest a b : Int) (w : World) (hF : F.answers w.tape) (hsm : store.size ≤ 1048576) (hu' : 0 < unit) (HM : Hid (longest.tmod unit = 0)) (hab : a ≤ b)
    (l0 : -9223372036854775808 ≤ longest) (l1 : longest ≤ 9223372036854775807) (a0 : -9223372036854775808 ≤ a) (a1 : a ≤ 9223372036854775807) (b0 : -9223372036854775808 ≤ b) (b1 : b ≤ 9223372036854775807) (u1 : unit ≤ 9223372036854775807)
    (hpa : 0 < a) (hla : a ≤ longest) (hpb : 0 < b) (hlb : longest < b) :
    Calls Tryf.prog 4 #[.string store, .int .i64 unit, .int .i64 least, .int .i64 longest, .int .i64 a, .int .i64 b] w fun e w' => e = .returned (.bool true) ∧ Below w.heap.size w w' := by
  have hmt : (longest.tmod unit != 0) = false := by simp [HM.out]
  have hme : (longest % unit != 0) = false := by
    by_cases hl : 0 ≤ longest
    · rw [← Int.tmod_eq_emod_of_nonneg hl]; exact hmt
    · have : longest % unit = 0 := Int.emod_eq_zero_of_dvd (Int.dvd_of_tmod_eq_zero HM.out)
      simp [this]
  obtain ⟨q0a, q1a, q2a, n1a, c0a, gea, lta, lea, nla⟩ := fits hpa hla hu' HM.out
  have hGa := fun w => grant_yes store unit least longest a w hpa hla hu' l1 q0a q1a q2a c0a lea (by omega)
  clear q0a q1a q2a
  have hdb : decide (b ≤ longest) = false := by simp; omega
  generalize cnt a unit = na at *
  generalize na * unit = da at *
  have Ha : Hid (∀ w, _) := hGa
  clear hGa
  have HF : Hid (F.answers w.tape) := hF
  clear hF
  go_enter Tryf.func4, Tryf.ntmps4
  go_wp2_with fail
  refine (bytes7_yes store unit least longest a b hsm _).mono ?_
  rintro e w' ⟨rfl, rfl⟩
  go_wp2_with fail
  refine (Ha.out _).mono ?_
  rintro e w1 ⟨rfl, hB⟩
  have cr0 : w1.cell? ⟨w'.heap.size, 0, none⟩ = some (.string store) := by rw [hB.cell (by simp)]; go_simp
  have cr1 : w1.cell? ⟨w'.heap.size, 1, none⟩ = some (.int .i64 unit) := by rw [hB.cell (by simp)]; go_simp
  have cr2 : w1.cell? ⟨w'.heap.size, 2, none⟩ = some (.int .i64 least) := by rw [hB.cell (by simp)]; go_simp
  have cr3 : w1.cell? ⟨w'.heap.size, 3, none⟩ = some (.int .i64 longest) := by rw [hB.cell (by simp)]; go_simp
  have HF : Hid (F.answers w1.tape) := by show F.answers _; rw [hB.tape]; exact HF
  go_wp2_with fail
  refine (grant_long F store unit least longest b _ (by exact HF) hpb hlb l0 b1).mono ?_
  rintro e w2 ⟨⟨tb, xb, rfl⟩, hB2⟩
  go_wp2
  go_ret
  exact ⟨rfl, (((Below.refl _ _).alloc (Nat.le_refl _) _).trans (hB.mono (by simp))).trans (hB2.mono (by have := hB.size; simp at this; omega))⟩

set_option maxHeartbeats 2000000 in
theorem order_long_long (F : Interp) (store : ByteArray) (unit least longest a b : Int) (w : World) (hF : F.answers w.tape) (hsm : store.size ≤ 1048576) (hu' : 0 < unit) (HM : Hid (longest.tmod unit = 0)) (hab : a ≤ b)
    (l0 : -9223372036854775808 ≤ longest) (l1 : longest ≤ 9223372036854775807) (a0 : -9223372036854775808 ≤ a) (a1 : a ≤ 9223372036854775807) (b0 : -9223372036854775808 ≤ b) (b1 : b ≤ 9223372036854775807) (u1 : unit ≤ 9223372036854775807)
    (hpa : 0 < a) (hla : longest < a) (hpb : 0 < b) (hlb : longest < b) :
    Calls Tryf.prog 4 #[.string store, .int .i64 unit, .int .i64 least, .int .i64 longest, .int .i64 a, .int .i64 b] w fun e w' => e = .returned (.bool true) ∧ Below w.heap.size w w' := by
  have hmt : (longest.tmod unit != 0) = false := by simp [HM.out]
  have hme : (longest % unit != 0) = false := by
    by_cases hl : 0 ≤ longest
    · rw [← Int.tmod_eq_emod_of_nonneg hl]; exact hmt
    · have : longest % unit = 0 := Int.emod_eq_zero_of_dvd (Int.dvd_of_tmod_eq_zero HM.out)
      simp [this]
  have hda : decide (a ≤ longest) = false := by simp; omega
  have hdb : decide (b ≤ longest) = false := by simp; omega
  have HF : Hid (F.answers w.tape) := hF
  clear hF
  go_enter Tryf.func4, Tryf.ntmps4
  go_wp2_with fail
  refine (bytes7_yes store unit least longest a b hsm _).mono ?_
  rintro e w' ⟨rfl, rfl⟩
  go_wp2_with fail
  refine (grant_long F store unit least longest a _ (by exact HF) hpa hla l0 a1).mono ?_
  rintro e w1 ⟨⟨ta, xa, rfl⟩, hB⟩
  have cr0 : w1.cell? ⟨w'.heap.size, 0, none⟩ = some (.string store) := by rw [hB.cell (by simp)]; go_simp
  have cr1 : w1.cell? ⟨w'.heap.size, 1, none⟩ = some (.int .i64 unit) := by rw [hB.cell (by simp)]; go_simp
  have cr2 : w1.cell? ⟨w'.heap.size, 2, none⟩ = some (.int .i64 least) := by rw [hB.cell (by simp)]; go_simp
  have cr3 : w1.cell? ⟨w'.heap.size, 3, none⟩ = some (.int .i64 longest) := by rw [hB.cell (by simp)]; go_simp
  have HF : Hid (F.answers w1.tape) := by show F.answers _; rw [hB.tape]; exact HF
  go_wp2_with fail
  refine (grant_long F store unit least longest b _ (by exact HF) hpb hlb l0 b1).mono ?_
  rintro e w2 ⟨⟨tb, xb, rfl⟩, hB2⟩
  go_wp2
  go_ret
  exact ⟨rfl, (((Below.refl _ _).alloc (Nat.le_refl _) _).trans (hB.mono (by simp))).trans (hB2.mono (by have := hB.size; simp at this; omega))⟩

set_option maxHeartbeats 2000000 in
theorem order_ok_ok (F : Interp) (store : ByteArray) (unit least longest a b : Int) (w : World) (hF : F.answers w.tape) (hsm : store.size ≤ 1048576) (hu' : 0 < unit) (HM : Hid (longest.tmod unit = 0)) (hab : a ≤ b)
    (l0 : -9223372036854775808 ≤ longest) (l1 : longest ≤ 9223372036854775807) (a0 : -9223372036854775808 ≤ a) (a1 : a ≤ 9223372036854775807) (b0 : -9223372036854775808 ≤ b) (b1 : b ≤ 9223372036854775807) (u1 : unit ≤ 9223372036854775807)
    (hpa : 0 < a) (hla : a ≤ longest) (hpb : 0 < b) (hlb : b ≤ longest) :
    Calls Tryf.prog 4 #[.string store, .int .i64 unit, .int .i64 least, .int .i64 longest, .int .i64 a, .int .i64 b] w fun e w' => e = .returned (.bool true) ∧ Below w.heap.size w w' := by
  have hmt : (longest.tmod unit != 0) = false := by simp [HM.out]
  have hme : (longest % unit != 0) = false := by
    by_cases hl : 0 ≤ longest
    · rw [← Int.tmod_eq_emod_of_nonneg hl]; exact hmt
    · have : longest % unit = 0 := Int.emod_eq_zero_of_dvd (Int.dvd_of_tmod_eq_zero HM.out)
      simp [this]
  obtain ⟨q0a, q1a, q2a, n1a, c0a, gea, lta, lea, nla⟩ := fits hpa hla hu' HM.out
  have hGa := fun w => grant_yes store unit least longest a w hpa hla hu' l1 q0a q1a q2a c0a lea (by omega)
  clear q0a q1a q2a
  obtain ⟨q0b, q1b, q2b, n1b, c0b, geb, ltb, leb, nlb⟩ := fits hpb hlb hu' HM.out
  have hGb := fun w => grant_yes store unit least longest b w hpb hlb hu' l1 q0b q1b q2b c0b leb (by omega)
  clear q0b q1b q2b
  have hmono := cnt_mono hu' hab
  have HS : Hid ((cnt a unit = cnt b unit) ↔ ((a - 1) / unit = (b - 1) / unit)) := cnt_same hu'
  have hdm : cnt a unit * unit ≤ cnt b unit * unit := Int.mul_le_mul_of_nonneg_right hmono (by omega)
  have HDI : Hid ((cnt b unit - cnt a unit) * unit = cnt b unit * unit - cnt a unit * unit) := Int.sub_mul _ _ _
  generalize cnt a unit = na at *
  generalize na * unit = da at *
  have Ha : Hid (∀ w, _) := hGa
  clear hGa
  generalize cnt b unit = nb at *
  generalize nb * unit = db at *
  have Hb : Hid (∀ w, _) := hGb
  clear hGb
  have HF : Hid (F.answers w.tape) := hF
  clear hF
  have hdi : wrap64 ((nb - na) * unit) = db - da := by rw [HDI.out]; unfold wrap64; omega
  have hdi' : IntKind.i64.wrap ((nb - na) * unit) = db - da := by rw [HDI.out, IntKind.wrap_i64]; omega
  have hdb : (db - da != db - da) = false := by simp
  go_enter Tryf.func4, Tryf.ntmps4
  go_wp2_with fail
  refine (bytes7_yes store unit least longest a b hsm _).mono ?_
  rintro e w' ⟨rfl, rfl⟩
  go_wp2_with fail
  refine (Ha.out _).mono ?_
  rintro e w1 ⟨rfl, hB⟩
  have cr0 : w1.cell? ⟨w'.heap.size, 0, none⟩ = some (.string store) := by rw [hB.cell (by simp)]; go_simp
  have cr1 : w1.cell? ⟨w'.heap.size, 1, none⟩ = some (.int .i64 unit) := by rw [hB.cell (by simp)]; go_simp
  have cr2 : w1.cell? ⟨w'.heap.size, 2, none⟩ = some (.int .i64 least) := by rw [hB.cell (by simp)]; go_simp
  have cr3 : w1.cell? ⟨w'.heap.size, 3, none⟩ = some (.int .i64 longest) := by rw [hB.cell (by simp)]; go_simp
  have HF : Hid (F.answers w1.tape) := by show F.answers _; rw [hB.tape]; exact HF
  go_wp2_with fail
  refine (Hb.out _).mono ?_
  rintro e w2 ⟨rfl, hB2⟩
  go_wp2
  go_quiet (fail)
  go_wp2
  go_ret
  refine ⟨?_, ((((Below.refl _ _).alloc (Nat.le_refl _) _).trans (hB.mono (by simp))).trans (hB2.mono (by have := hB.size; simp at this; omega))).trans ⟨rfl, rfl, rfl, Nat.le_refl _, fun _ _ => rfl⟩⟩
  exact congrArg (fun b => Ending.returned (.bool b)) (same_eq HS.out)

set_option maxHeartbeats 2000000 in
theorem order_walk (F : Interp) (store : ByteArray) (unit least longest a b : Int) (w : World) (hF : F.answers w.tape) (hs : store.size ≤ maxLen)
    (l0 : -9223372036854775808 ≤ longest) (l1 : longest ≤ 9223372036854775807) (a0 : -9223372036854775808 ≤ a) (a1 : a ≤ 9223372036854775807) (b0 : -9223372036854775808 ≤ b) (b1 : b ≤ 9223372036854775807) (u1 : unit ≤ 9223372036854775807) :
    Calls Tryf.prog 4 #[.string store, .int .i64 unit, .int .i64 least, .int .i64 longest, .int .i64 a, .int .i64 b] w fun e w' => e = .returned (.bool true) ∧ Below w.heap.size w w' := by
  by_cases hbig : 1048576 < store.size
  · go_enter Tryf.func4, Tryf.ntmps4
    go_wp2_with fail
    refine (bytes7_no store unit least longest a b hbig hs _).mono ?_
    rintro e w' ⟨rfl, rfl⟩
    go_wp2
    go_ret
    exact ⟨rfl, Below.refl _ _⟩
  have hsm : store.size ≤ 1048576 := by omega
  clear hbig
  by_cases hu : unit ≤ 0
  · go_enter Tryf.func4, Tryf.ntmps4
    go_wp2_with fail
    refine (bytes7_yes store unit least longest a b hsm _).mono ?_
    rintro e w' ⟨rfl, rfl⟩
    go_wp2
    go_ret
    exact ⟨rfl, Below.refl _ _⟩
  have hu' : 0 < unit := by omega
  clear hu
  by_cases hm : longest.tmod unit = 0
  · by_cases hab : a ≤ b
    · by_cases ha : a ≤ 0
      · by_cases hb : b ≤ 0
        · exact order_neg_neg F store unit least longest a b w hF hsm hu' hm hab l0 l1 a0 a1 b0 b1 u1 ha hb
        · by_cases hlb : longest < b
          · exact order_neg_long F store unit least longest a b w hF hsm hu' hm hab l0 l1 a0 a1 b0 b1 u1 ha (by omega) hlb
          · exact order_neg_ok F store unit least longest a b w hF hsm hu' hm hab l0 l1 a0 a1 b0 b1 u1 ha (by omega) (by omega)
      · by_cases hla : longest < a
        · exact order_long_long F store unit least longest a b w hF hsm hu' hm hab l0 l1 a0 a1 b0 b1 u1 (by omega) hla (by omega) (by omega)
        · by_cases hlb : longest < b
          · exact order_ok_long F store unit least longest a b w hF hsm hu' hm hab l0 l1 a0 a1 b0 b1 u1 (by omega) (by omega) (by omega) hlb
          · exact order_ok_ok F store unit least longest a b w hF hsm hu' hm hab l0 l1 a0 a1 b0 b1 u1 (by omega) (by omega) (by omega) (by omega)
    · have hmt : (longest.tmod unit != 0) = false := by simp [hm]
      have hme : (longest % unit != 0) = false := by
        have : longest % unit = 0 := Int.emod_eq_zero_of_dvd (Int.dvd_of_tmod_eq_zero hm)
        simp [this]
      clear hm
      go_enter Tryf.func4, Tryf.ntmps4
      go_wp2_with fail
      refine (bytes7_yes store unit least longest a b hsm _).mono ?_
      rintro e w' ⟨rfl, rfl⟩
      go_wp2
      go_ret
      exact ⟨rfl, Below.refl _ _⟩
  · have hmt : (longest.tmod unit != 0) = true := by simp [hm]
    have hme : (longest % unit != 0) = true := by
      have : ¬ longest % unit = 0 := fun h => hm (Int.tmod_eq_zero_of_dvd (Int.dvd_of_emod_eq_zero h))
      simp [this]
    clear hm
    go_enter Tryf.func4, Tryf.ntmps4
    go_wp2_with fail
    refine (bytes7_yes store unit least longest a b hsm _).mono ?_
    rintro e w' ⟨rfl, rfl⟩
    go_wp2
    go_ret
    exact ⟨rfl, Below.refl _ _⟩

end Go.Proofs.Qxb6628281aFmt.Gr

