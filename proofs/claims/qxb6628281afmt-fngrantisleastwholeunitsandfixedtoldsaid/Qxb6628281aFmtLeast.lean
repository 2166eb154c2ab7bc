/-
  FnGrantIsLeastWholeUnitsAndFixed, walked.
-/
import Derived.Test.Qxb6628281aFmtArith
namespace Go.Proofs.Qxb6628281aFmt.Gr
open Go.Extern.Stop Go.Stop Go.Extern Go.RowKit

theorem bytes5_yes (s : ByteArray) (a b c d : Int) (h : s.size ≤ 1048576) (w : World) :
    Calls Tryf.prog 5 #[.string s, .int .i64 a, .int .i64 b, .int .i64 c, .int .i64 d] w fun e w' => e = .returned (.bool true) ∧ w' = w := by
  go_enter Tryf.func5, Tryf.ntmps5
  go_wp2
  go_ret
  exact ⟨rfl, rfl⟩

theorem bytes5_no (s : ByteArray) (a b c d : Int) (h : 1048576 < s.size) (hs : s.size ≤ maxLen) (w : World) :
    Calls Tryf.prog 5 #[.string s, .int .i64 a, .int .i64 b, .int .i64 c, .int .i64 d] w fun e w' => e = .returned (.bool false) ∧ w' = w := by
  unfold maxLen at hs
  go_enter Tryf.func5, Tryf.ntmps5
  go_wp2
  go_ret
  exact ⟨rfl, rfl⟩

set_option maxHeartbeats 2000000 in
theorem least_walk (F : Interp) (store : ByteArray) (unit least longest ttl : Int) (w : World) (hF : F.answers w.tape) (hs : store.size ≤ maxLen)
    (l0 : -9223372036854775808 ≤ longest) (l1 : longest ≤ 9223372036854775807) (t0 : -9223372036854775808 ≤ ttl) (t1 : ttl ≤ 9223372036854775807) (u1 : unit ≤ 9223372036854775807) :
    Calls Tryf.prog 3 #[.string store, .int .i64 unit, .int .i64 least, .int .i64 longest, .int .i64 ttl] w fun e w' => e = .returned (.bool true) ∧ Below w.heap.size w w' := by
  by_cases hbig : 1048576 < store.size
  · go_enter Tryf.func3, Tryf.ntmps3
    go_wp2_with fail
    refine (bytes5_no store unit least longest ttl hbig hs _).mono ?_
    rintro e w' ⟨rfl, rfl⟩
    go_wp2
    go_ret
    exact ⟨rfl, Below.refl _ _⟩
  have hsm : store.size ≤ 1048576 := by omega
  clear hbig
  by_cases hu : unit ≤ 0
  · go_enter Tryf.func3, Tryf.ntmps3
    go_wp2_with fail
    refine (bytes5_yes store unit least longest ttl hsm _).mono ?_
    rintro e w' ⟨rfl, rfl⟩
    go_wp2
    go_ret
    exact ⟨rfl, Below.refl _ _⟩
  have hu' : 0 < unit := by omega
  clear hu
  by_cases hm : longest.tmod unit = 0
  · have hmb : (longest.tmod unit != 0) = false := by simp [hm]
    have HM : Hid (longest.tmod unit = 0) := hm
    clear hm
    by_cases hr : ttl ≤ 0
    · go_enter Tryf.func3, Tryf.ntmps3
      go_wp2_with fail
      refine (bytes5_yes store unit least longest ttl hsm _).mono ?_
      rintro e w' ⟨rfl, rfl⟩
      go_wp2_with fail
      refine (grant_neg F store unit least longest ttl _ (by exact hF) hr t0).mono ?_
      rintro e w1 ⟨⟨t, x, rfl⟩, hB⟩
      go_wp2
      go_ret
      exact ⟨rfl, ((Below.refl _ _).alloc (Nat.le_refl _) _).trans (hB.mono (by simp))⟩
    have hx0 : 0 < ttl := by omega
    clear hr
    by_cases hr : longest < ttl
    · go_enter Tryf.func3, Tryf.ntmps3
      go_wp2_with fail
      refine (bytes5_yes store unit least longest ttl hsm _).mono ?_
      rintro e w' ⟨rfl, rfl⟩
      go_wp2_with fail
      refine (grant_long F store unit least longest ttl _ (by exact hF) hx0 hr l0 t1).mono ?_
      rintro e w1 ⟨⟨t, x, rfl⟩, hB⟩
      go_wp2
      go_ret
      exact ⟨rfl, ((Below.refl _ _).alloc (Nat.le_refl _) _).trans (hB.mono (by simp))⟩
    have hxl : ttl ≤ longest := by omega
    clear hr
    obtain ⟨q0, q1, q2, n1, c0, ge, lt, le, nl⟩ := fits hx0 hxl hu' HM.out
    have HA : Hid (cnt (cnt ttl unit * unit) unit = cnt ttl unit) := cnt_again hu'
    obtain ⟨p0, p1, p2, m1, d0, _, _, le', nl'⟩ := fits (x := cnt ttl unit * unit) (by omega) le hu' HM.out
    have hG1 := fun w => grant_yes store unit least longest ttl w hx0 hxl hu' l1 q0 q1 q2 c0 le (by omega)
    have hG2 := fun w => grant_yes store unit least longest (cnt ttl unit * unit) w (by omega) le hu' l1 p0 p1 p2 d0 le' (by omega)
    rw [HA.out] at hG2
    clear q0 q1 q2 p0 p1 p2 m1 d0 le' nl'
    generalize hn : cnt ttl unit = n at *
    clear hn
    generalize hd : n * unit = d at *
    have HD : Hid (n * unit = d) := hd
    clear hd
    have H1 : Hid (∀ w, _) := hG1
    have H2 : Hid (∀ w, _) := hG2
    clear hG1 hG2
    have hme : (longest % unit != 0) = false := by
      rw [← Int.tmod_eq_emod_of_nonneg (by omega)]; exact hmb
    have hmul : IntKind.i64.wrap (n * unit) = d := by rw [HD.out, IntKind.wrap_i64]; omega
    go_enter Tryf.func3, Tryf.ntmps3
    go_wp2_with fail
    refine (bytes5_yes store unit least longest ttl hsm _).mono ?_
    rintro e w' ⟨rfl, rfl⟩
    go_wp2_with fail
    refine (H1.out _).mono ?_
    rintro e w1 ⟨rfl, hB⟩
    have cr0 : w1.cell? ⟨w'.heap.size, 0, none⟩ = some (.string store) := by rw [hB.cell (by simp)]; go_simp
    have cr1 : w1.cell? ⟨w'.heap.size, 1, none⟩ = some (.int .i64 unit) := by rw [hB.cell (by simp)]; go_simp
    have cr2 : w1.cell? ⟨w'.heap.size, 2, none⟩ = some (.int .i64 least) := by rw [hB.cell (by simp)]; go_simp
    have cr3 : w1.cell? ⟨w'.heap.size, 3, none⟩ = some (.int .i64 longest) := by rw [hB.cell (by simp)]; go_simp
    go_wp2_with fail
    refine (H2.out _).mono ?_
    rintro e w2 ⟨rfl, hB2⟩
    go_wp2
    go_ret
    exact ⟨by simp, (((Below.refl _ _).alloc (Nat.le_refl _) _).trans (hB.mono (by simp))).trans (hB2.mono (by have := hB.size; simp at this; omega))⟩
  · have hmb : (longest.tmod unit != 0) = true := by simp [hm]
    clear hm
    go_enter Tryf.func3, Tryf.ntmps3
    go_wp2_with fail
    refine (bytes5_yes store unit least longest ttl hsm _).mono ?_
    rintro e w' ⟨rfl, rfl⟩
    go_wp2
    go_ret
    exact ⟨rfl, Below.refl _ _⟩

end Go.Proofs.Qxb6628281aFmt.Gr
