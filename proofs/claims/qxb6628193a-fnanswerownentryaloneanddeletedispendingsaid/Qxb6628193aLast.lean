/-
  zzB1Last, zzB1SumLen, zzB1Small, walked.
-/
import Derived.Test.Qxb6628193aSmall
import Derived.Deep.RegionWith
namespace Go.Proofs.Qxb6628193a.Rf
open Go.RowKit

/-- The last place below k at which the list holds the code, or -1. -/
def lastTo (ss : List ByteArray) (code : ByteArray) : Nat → Int
  | 0 => -1
  | k + 1 => if ss.getD k ByteArray.empty = code then (k : Int) else lastTo ss code k

theorem ret_int {k : IntKind} {a b : Int} (h : a = b) : Ending.returned (.int k a) = .returned (.int k b) := by rw [h]
theorem ret_bool {a b : Bool} (h : a = b) : Ending.returned (.bool a) = .returned (.bool b) := by rw [h]

theorem toList_ne {a b : ByteArray} (h : a ≠ b) : (a.toList == b.toList) = false := by
  rw [beq_eq_false_iff_ne]
  intro e
  apply h
  rw [ByteArray.toList_eq, ByteArray.toList_eq] at e
  cases a; cases b
  simp at e
  simp [e]

set_option maxHeartbeats 400000 in
theorem last_any (a : Option Addr) (len cap : Nat) (ss : List ByteArray) (code : ByteArray) (w : World) (hL : Lies w a len ss) :
    Calls Try.prog 9 #[.slice a len cap, .string code] w fun e w' => e = .returned (.int .i64 (lastTo ss code len)) ∧ w' = w := by
  have c9 := cells9
  have hm := hL.le
  unfold maxLen at hm
  go_enter Try.func9, Try.ntmps9
  go_wp2
  go_loop [5] (fun i => ∃ k : Nat, k ≤ len ∧ i = .int .i64 ((k : Int) - 1) ∧ Hid (lastTo ss code k = lastTo ss code len)) (fun i => (intOf i + 1).toNat)
  case atStart => exact ⟨len, Nat.le_refl _, rfl, rfl⟩
  case round =>
    obtain ⟨k, hk, rfl, H⟩ := hrel
    cases k with
    | zero =>
      simp only [Int.natCast_zero, Int.zero_sub]
      go_wp2
      go_ret
      exact ⟨ret_int H.out, rfl⟩
    | succ k =>
      obtain ⟨b, off, rfl, hlt, hc⟩ := hL.cells (by omega)
      have hck := hc k (by omega)
      clear hc
      have e1 : ((k + 1 : Nat) : Int) - 1 = (k : Int) := by omega
      rw [e1]
      clear e1
      have hkl : (k : Int) < (len : Int) := by omega
      by_cases he : ss.getD k ByteArray.empty = code
      · have HR : Hid ((k : Int) = lastTo ss code len) := by
          show _ = _
          rw [← H.out]
          simp only [lastTo, he, if_true]
        rw [he] at hck
        clear he
        go_wp2
        go_ret
        exact ⟨ret_int HR.out, rfl⟩
      · have HR : Hid (lastTo ss code k = lastTo ss code len) := by
          show _ = _
          rw [← H.out]
          simp only [lastTo, he, if_false]
        have hne := toList_ne he
        generalize ss.getD k ByteArray.empty = s at hck hne
        clear he
        go_wp2
        go_round
        case rel => exact ⟨k, by omega, by go_num, HR⟩
        case measure => simp [intOf]

set_option maxHeartbeats 400000 in
theorem sum_any (n : Int) (a : Option Addr) (len cap : Nat) (ss : List ByteArray) (w : World) (hL : Lies w a len ss) :
    Calls Try.prog 13 #[.int .i64 n, .slice a len cap] w fun e w' => (∃ m, e = .returned (.int .i64 m)) ∧ w' = w := by
  have c9 := cells9
  have hm := hL.le
  unfold maxLen at hm
  go_enter Try.func13, Try.ntmps13
  go_wp2
  · go_ret
    exact ⟨⟨_, rfl⟩, rfl⟩
  · go_loop [0, 5] (fun z i => ∃ (m : Int) (k : Nat), k ≤ len ∧ z = .int .i64 m ∧ i = .int .i64 k) (fun _ i => len - (intOf i).toNat)
    case atStart => exact ⟨n, 0, Nat.zero_le _, rfl, rfl⟩
    case round =>
      obtain ⟨m, k, hk, rfl, rfl⟩ := hrel
      by_cases hkl : (k : Int) < (len : Int)
      · obtain ⟨b, off, rfl, hlt, hc⟩ := hL.cells (by omega)
        have hck := hc k (by omega)
        clear hc
        generalize ss.getD k ByteArray.empty = s at hck
        go_wp2_with (go_at_call 12; refine (add_any _ _ _).mono ?_; rintro e w' ⟨⟨m', rfl⟩, rfl⟩)
        · go_ret
          exact ⟨⟨_, rfl⟩, rfl⟩
        · go_round
          case rel => exact ⟨m', k + 1, by omega, rfl, by go_num⟩
          case measure => simp [intOf]; omega
      · go_wp2
        go_ret
        exact ⟨⟨_, rfl⟩, rfl⟩

set_option maxHeartbeats 1000000 in
theorem small_any (a0 : Option Addr) (len0 cap0 : Nat) (ss0 : List ByteArray) (a1 : Option Addr) (len1 cap1 : Nat) (ss1 : List ByteArray) (a2 : Option Addr) (len2 cap2 : Nat) (ss2 : List ByteArray)
    (a b c d : ByteArray) (w : World) (h0 : Lies w a0 len0 ss0) (h1 : Lies w a1 len1 ss1) (h2 : Lies w a2 len2 ss2) :
    Calls Try.prog 6 #[.slice a0 len0 cap0, .slice a1 len1 cap1, .slice a2 len2 cap2, .string a, .string b, .string c, .string d] w fun e w' => (∃ r, e = .returned (.bool r)) ∧ w' = w := by
  go_enter Try.func6, Try.ntmps6
  go_wp2_with (first
    | (go_at_call 12; refine (add_any _ _ _).mono ?_; rintro e w' ⟨⟨m', rfl⟩, rfl⟩)
    | (go_at_call_of 13 a0; refine (sum_any _ a0 len0 cap0 ss0 _ h0).mono ?_; rintro e w' ⟨⟨m', rfl⟩, rfl⟩)
    | (go_at_call_of 13 a1; refine (sum_any _ a1 len1 cap1 ss1 _ h1).mono ?_; rintro e w' ⟨⟨m', rfl⟩, rfl⟩)
    | (go_at_call_of 13 a2; refine (sum_any _ a2 len2 cap2 ss2 _ h2).mono ?_; rintro e w' ⟨⟨m', rfl⟩, rfl⟩))
  all_goals
    go_ret
    exact ⟨⟨_, rfl⟩, rfl⟩

end Go.Proofs.Qxb6628193a.Rf
