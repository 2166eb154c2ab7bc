/-
  The small functions of this seat, walked: that they return, and what they answer where it is wanted.
-/
import Derived.Test.Qxb6628193aRows
import Derived.WalkKit
import Derived.ProofKit
namespace Go.Proofs.Qxb6628193a.Rf
open Go.RowKit

theorem cells9 : Try.prog.cellsOf 9 = 1 := by kernel_rfl

/-- WHAT IS KNOWN OF A []string THAT CAME IN: its elements 'ss'. -/
structure Lies (w : World) (a : Option Addr) (len : Nat) (ss : List ByteArray) : Prop where
  length : ss.length = len
  le : len ≤ maxLen
  small : ∀ s ∈ ss, s.size ≤ maxLen
  cells : 0 < len → ∃ b off, a = some ⟨b, off, none⟩ ∧ b < w.heap.size ∧ ∀ i, i < len → w.cell? ⟨b, off + i, none⟩ = some (.string (ss.getD i ByteArray.empty))

theorem Lies.below {w w' : World} {a : Option Addr} {len : Nat} {ss : List ByteArray} (h : Lies w a len ss) (hb : Below w.heap.size w w') : Lies w' a len ss := by
  refine ⟨h.length, h.le, h.small, fun h0 => ?_⟩
  obtain ⟨b, off, ha, hlt, hc⟩ := h.cells h0
  exact ⟨b, off, ha, Nat.lt_of_lt_of_le hlt hb.size, fun i hi => by rw [hb.cell (p := ⟨b, off + i, none⟩) hlt]; exact hc i hi⟩

/-- 'xs[i]', or the empty string. -/
def at' (ss : List ByteArray) (i : Int) : ByteArray := if 0 ≤ i then ss.getD i.toNat ByteArray.empty else ByteArray.empty

theorem add_any (n : Int) (s : ByteArray) (w : World) :
    Calls Try.prog 12 #[.int .i64 n, .string s] w fun e w' => (∃ m, e = .returned (.int .i64 m)) ∧ w' = w := by
  go_enter Try.func12, Try.ntmps12
  go_wp2
  all_goals
    go_ret
    exact ⟨⟨_, rfl⟩, rfl⟩

theorem at_any (a : Option Addr) (len cap : Nat) (ss : List ByteArray) (i : Int) (w : World) (hL : Lies w a len ss) :
    Calls Try.prog 10 #[.slice a len cap, .int .i64 i] w fun e w' => e = .returned (.string (at' ss i)) ∧ w' = w := by
  have c9 := cells9
  by_cases h0 : 0 ≤ i
  · obtain ⟨k, rfl⟩ := Int.eq_ofNat_of_zero_le h0
    have hat : at' ss (k : Int) = ss.getD k ByteArray.empty := by simp [at']
    rw [hat]
    clear hat
    have hm := hL.le
    unfold maxLen at hm
    by_cases h1 : k < len
    · obtain ⟨b, off, rfl, hlt, hc⟩ := hL.cells (by omega)
      have hck := hc k h1
      clear hc
      generalize ss.getD k ByteArray.empty = s at hck
      go_enter Try.func10, Try.ntmps10
      go_wp2
      go_ret
      exact ⟨rfl, rfl⟩
    · have hz : ss.getD k ByteArray.empty = ByteArray.empty := by
        rw [List.getD, List.getElem?_eq_none (by rw [hL.length]; omega)]; rfl
      rw [hz]
      clear hz
      go_enter Try.func10, Try.ntmps10
      go_wp2
      go_ret
      exact ⟨rfl, rfl⟩
  · have hat : at' ss i = ByteArray.empty := by simp [at', h0]
    rw [hat]
    clear hat
    go_enter Try.func10, Try.ntmps10
    go_wp2
    go_ret
    exact ⟨rfl, rfl⟩

end Go.Proofs.Qxb6628193a.Rf
