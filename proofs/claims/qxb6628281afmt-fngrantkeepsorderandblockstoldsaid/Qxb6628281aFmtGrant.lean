/-
  (Rules).checkLongest and (Rules).Grant, walked.
-/
import Derived.Test.Qxb6628281aFmtErrorf
import Derived.BigQuiet
import Derived.Deep.QuietTactic
namespace Go.Proofs.Qxb6628281aFmt.Gr
open Go.Extern.Stop Go.Stop Go.Extern Go.RowKit
open Fx (IsErr)

/-- A value of type Rules. -/
def rules (store : ByteArray) (unit least longest : Int) : Value := .agg #[.string store, .int .i64 unit, .int .i64 least, .int .i64 longest]

set_option maxHeartbeats 1000000 in
theorem check_no (F : Interp) (store : ByteArray) (unit least longest ttl : Int) (w : World) (hF : F.answers w.tape) (h : longest < ttl)
    (g0 : -9223372036854775808 ≤ longest) (h1 : ttl ≤ 9223372036854775807) :
    Calls Tryf.prog 9 #[rules store unit least longest, .int .i64 ttl] w fun e w' => IsErr e ∧ Below w.heap.size w w' := by
  unfold rules
  go_enter Tryf.func9, Tryf.ntmps9
  go_wp2_with fail
  rw [show (⟨#[116, 105, 109, 101, 32, 116, 111, 32, 108, 105, 118, 101, 32, 37, 118, 32, 105, 115, 32, 108, 111, 110, 103, 101, 114, 32, 116, 104, 97, 110, 32, 37, 118, 44, 32, 116, 104, 101, 32, 108, 111, 110, 103, 101, 115, 116, 32, 37, 115, 32, 107, 101, 101, 112, 115, 32, 97, 32, 108, 101, 97, 115, 101, 32, 102, 111, 114]⟩ : ByteArray) = Fx.longer from rfl]
  refine (Fx.errorf2 F ttl longest store (w.heap.size + 1) _ (by exact hF) (by omega) h1 g0 (by omega) (by go_simp) (by go_simp) (by go_simp)).mono ?_
  rintro e w1 ⟨⟨t, x, rfl⟩, hB⟩
  go_wp2
  go_ret
  exact ⟨⟨_, _, rfl⟩, (((Below.refl _ _).alloc (Nat.le_refl _) _).alloc (by simp) _).trans (hB.mono (by simp; omega))⟩

set_option maxHeartbeats 1000000 in
theorem check_yes (store : ByteArray) (unit least longest ttl : Int) (w : World) (h : ttl ≤ longest) :
    Calls Tryf.prog 9 #[rules store unit least longest, .int .i64 ttl] w fun e w' => e = .returned .nilIface ∧ Below w.heap.size w w' := by
  unfold rules
  go_enter Tryf.func9, Tryf.ntmps9
  go_wp2
  go_ret
  exact ⟨rfl, (Below.refl _ _).alloc (Nat.le_refl _) _⟩

/-- The answer of a Grant that refuses. -/
def Refused (e : Ending) : Prop := ∃ t x, e = .returned (.tuple #[.int .i64 0, .int .i64 0, .iface t x])

set_option maxHeartbeats 1000000 in
theorem grant_neg (F : Interp) (store : ByteArray) (unit least longest ttl : Int) (w : World) (hF : F.answers w.tape) (h : ttl ≤ 0) (h0 : -9223372036854775808 ≤ ttl) :
    Calls Tryf.prog 6 #[rules store unit least longest, .int .i64 ttl] w fun e w' => Refused e ∧ Below w.heap.size w w' := by
  unfold rules
  go_enter Tryf.func6, Tryf.ntmps6
  go_wp2_with fail
  refine (Fx.errorf1 F ttl (w.heap.size + 1) _ (by exact hF) h0 (by omega) (by go_simp)).mono ?_
  rintro e w1 ⟨⟨t, x, rfl⟩, hB⟩
  go_wp2
  go_ret3
  exact ⟨⟨_, _, rfl⟩, (((Below.refl _ _).alloc (Nat.le_refl _) _).alloc (by simp) _).trans (hB.mono (by simp; omega))⟩

set_option maxHeartbeats 1000000 in
theorem grant_long (F : Interp) (store : ByteArray) (unit least longest ttl : Int) (w : World) (hF : F.answers w.tape) (h : 0 < ttl) (hl : longest < ttl)
    (g0 : -9223372036854775808 ≤ longest) (h1 : ttl ≤ 9223372036854775807) :
    Calls Tryf.prog 6 #[rules store unit least longest, .int .i64 ttl] w fun e w' => Refused e ∧ Below w.heap.size w w' := by
  unfold rules
  go_enter Tryf.func6, Tryf.ntmps6
  go_wp2_with fail
  refine (check_no F store unit least longest ttl _ (by exact hF) hl g0 h1).mono ?_
  rintro e w1 ⟨⟨t, x, rfl⟩, hB⟩
  go_wp2
  go_ret3
  exact ⟨⟨_, _, rfl⟩, ((Below.refl _ _).alloc (Nat.le_refl _) _).trans (hB.mono (by simp))⟩

/-- The number of whole units. -/
def cnt (ttl unit : Int) : Int := if ttl / unit * unit < ttl then ttl / unit + 1 else ttl / unit

set_option maxHeartbeats 1000000 in
theorem grant_yes (store : ByteArray) (unit least longest ttl : Int) (w : World) (h : 0 < ttl) (hl : ttl ≤ longest) (hu : 0 < unit) (h1 : longest ≤ 9223372036854775807)
    (hq0 : 0 ≤ ttl / unit) (hq1 : ttl / unit * unit ≤ ttl) (hq2 : 0 ≤ ttl / unit * unit) (hc0 : 0 ≤ cnt ttl unit * unit) (hc1 : cnt ttl unit * unit ≤ longest) (hc2 : cnt ttl unit ≤ 9223372036854775807) :
    Calls Tryf.prog 6 #[rules store unit least longest, .int .i64 ttl] w fun e w' => e = .returned (.tuple #[.int .i64 (cnt ttl unit), .int .i64 (cnt ttl unit * unit), .nilIface]) ∧ Below w.heap.size w w' := by
  unfold rules
  by_cases hlt : ttl / unit * unit < ttl
  · have hcn : cnt ttl unit = ttl / unit + 1 := if_pos hlt
    rw [hcn] at hc0 hc1 hc2
    rw [hcn]
    clear hcn
    go_enter Tryf.func6, Tryf.ntmps6
    go_wp2_with fail
    refine (check_yes store unit least longest ttl _ hl).mono ?_
    rintro e w1 ⟨rfl, hB⟩
    have hcu : w1.cell? ⟨w.heap.size, 1, none⟩ = some (.int .i64 unit) := by rw [hB.cell (by simp)]; go_simp
    go_wp2
    have hwr : IntKind.i64.wrap ((ttl / unit + 1) * unit) = (ttl / unit + 1) * unit := by
      generalize (ttl / unit + 1) * unit = z at hc0 hc1
      rw [IntKind.wrap_i64]
      omega
    go_quiet (fail)
    go_wp2
    go_ret3
    exact ⟨rfl, (((Below.refl _ _).alloc (Nat.le_refl _) _).trans (hB.mono (by simp))).trans ⟨rfl, rfl, rfl, Nat.le_refl _, fun _ _ => rfl⟩⟩
  · have hcn : cnt ttl unit = ttl / unit := if_neg hlt
    rw [hcn] at hc0 hc1 hc2
    rw [hcn]
    clear hcn
    go_enter Tryf.func6, Tryf.ntmps6
    go_wp2_with fail
    refine (check_yes store unit least longest ttl _ hl).mono ?_
    rintro e w1 ⟨rfl, hB⟩
    have hcu : w1.cell? ⟨w.heap.size, 1, none⟩ = some (.int .i64 unit) := by rw [hB.cell (by simp)]; go_simp
    go_wp2
    have hwr : IntKind.i64.wrap ((ttl / unit) * unit) = (ttl / unit) * unit := by
      generalize (ttl / unit) * unit = z at hc0 hc1
      rw [IntKind.wrap_i64]
      omega
    go_quiet (fail)
    go_wp2
    go_ret3
    exact ⟨rfl, (((Below.refl _ _).alloc (Nat.le_refl _) _).trans (hB.mono (by simp))).trans ⟨rfl, rfl, rfl, Nat.le_refl _, fun _ _ => rfl⟩⟩

end Go.Proofs.Qxb6628281aFmt.Gr
