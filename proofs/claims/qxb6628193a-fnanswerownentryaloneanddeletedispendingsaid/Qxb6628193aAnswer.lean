/-
  (Codes).Answer, walked.
-/
import Derived.Test.Qxb6628193aTab
namespace Go.Proofs.Qxb6628193a.Rf
open Go.RowKit

/-- The state for a code that the table does not hold. -/
def pending : ByteArray := ⟨#[112, 101, 110, 100, 105, 110, 103]⟩

def state (f : ByteArray → Option (ByteArray × ByteArray)) (code : ByteArray) : ByteArray := match f code with | some p => p.2 | none => pending

theorem answer_any (B n : Nat) (f : ByteArray → Option (ByteArray × ByteArray)) (code : ByteArray) (w : World) (h : Tab w B n f) (hs : code.size ≤ maxLen) :
    Calls Try.prog 8 #[.map (some B), .string code] w fun e w' => e = .returned (.agg #[.string (state f code), .string code]) ∧ Below w.heap.size w w' := by
  have hl : ∀ o, ∃ m st, (Instr.lookup 25 (.map (some B)) (.string code) true).run Try.prog (w.alloc o) = .ok (.tuple #[.agg #[.string m, .string st], .bool (f code).isSome]) (w.alloc o) ∧ ∀ p, f code = some p → p = (m, st) :=
    fun o => (h.below ((Below.refl _ _).alloc (Nat.le_refl _) o)).look hs
  obtain ⟨m, st, hrun, hp⟩ := hl (.cells #[.string ⟨#[]⟩, .string ⟨#[]⟩] 29)
  clear hl
  cases hf : f code with
  | none =>
    rw [hf] at hrun
    simp only [Option.isSome_none] at hrun
    clear hp
    have HS : Hid (state f code = pending) := by show _ = _; simp [state, hf]
    clear hf h
    go_enter Try.func8, Try.ntmps8
    go_wp2
    refine bodyPost_ret (v := .agg #[.string pending, .string code]) (by simp [results, Try.results8, go_sem, pending]) rfl ⟨?_, ?_⟩
    · rw [HS.out]
    · exact ((Below.refl _ _).alloc (Nat.le_refl _) _).alloc (by simp) _
  | some p =>
    rw [hf] at hrun
    simp only [Option.isSome_some] at hrun
    have HS : Hid (state f code = st) := by show _ = _; simp [state, hf, hp p hf]
    clear hf h hp
    go_enter Try.func8, Try.ntmps8
    go_wp2
    refine bodyPost_ret (v := .agg #[.string st, .string code]) (by simp [results, Try.results8, go_sem]) rfl ⟨?_, ?_⟩
    · rw [HS.out]
    · exact ((Below.refl _ _).alloc (Nat.le_refl _) _).alloc (by simp) _

end Go.Proofs.Qxb6628193a.Rf
