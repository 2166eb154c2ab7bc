/-
  The two bounds on the total length that were laid by program: they return (what they answer is not wanted, but for a first slice that is too long).
-/
import Derived.Test.Qxb6628193aLast
namespace Go.Proofs.Qxb6628193a.Rf
open Go.RowKit

/-- It returns a bool. -/
def Tells (e : Ending) : Prop := ∃ r, e = .returned (.bool r)
theorem tells (r : Bool) : Tells (.returned (.bool r)) := ⟨r, rfl⟩

set_option maxHeartbeats 4000000 in
theorem bytes5_any (a0 : Option Addr) (len0 cap0 : Nat) (ss0 : List ByteArray) (a1 : Option Addr) (len1 cap1 : Nat) (ss1 : List ByteArray) (a2 : Option Addr) (len2 cap2 : Nat) (ss2 : List ByteArray)
    (a b c d : ByteArray) (w : World) (h0 : Lies w a0 len0 ss0) (h1 : Lies w a1 len1 ss1) (h2 : Lies w a2 len2 ss2) :
    Calls Try.prog 5 #[.slice a0 len0 cap0, .slice a1 len1 cap1, .slice a2 len2 cap2, .string a, .string b, .string c, .string d] w fun e w' => Tells e ∧ w' = w := by
  have c9 := cells9
  have m0 := h0.le
  have m1 := h1.le
  have m2 := h2.le
  unfold maxLen at m0 m1 m2
  go_enter Try.func5, Try.ntmps5
  go_wp2
  · go_ret
    exact ⟨tells _, rfl⟩
  · go_loop [15, 16] (fun z i => ∃ (m : Int) (k : Nat), k ≤ len0 ∧ z = .int .i64 m ∧ i = .int .i64 k) (fun _ i => len0 - (intOf i).toNat)
    case atStart => exact ⟨_, 0, Nat.zero_le _, rfl, rfl⟩
    case round =>
      obtain ⟨m, k, hk, rfl, rfl⟩ := hrel
      by_cases hkl : (k : Int) < (len0 : Int)
      · obtain ⟨b0, off0, rfl, hlt, hc⟩ := h0.cells (by omega)
        have hck := hc k (by omega)
        clear hc
        generalize ss0.getD k ByteArray.empty = s at hck
        go_wp2
        · go_ret
          exact ⟨tells _, rfl⟩
        · go_ret
          exact ⟨tells _, rfl⟩
        · go_round
          case rel => exact ⟨_, k + 1, by omega, rfl, by go_num⟩
          case measure => simp [intOf]; omega
      · go_wp2
        · go_ret
          exact ⟨tells _, rfl⟩
        · go_ret
          exact ⟨tells _, rfl⟩
        · go_loop [15, 17] (fun z i => ∃ (m : Int) (k : Nat), k ≤ len1 ∧ z = .int .i64 m ∧ i = .int .i64 k) (fun _ i => len1 - (intOf i).toNat)
          case atStart => exact ⟨_, 0, Nat.zero_le _, rfl, rfl⟩
          case round =>
            obtain ⟨m, k, hk, rfl, rfl⟩ := hrel
            by_cases hkl : (k : Int) < (len1 : Int)
            · obtain ⟨b1, off1, rfl, hlt, hc⟩ := h1.cells (by omega)
              have hck := hc k (by omega)
              clear hc
              generalize ss1.getD k ByteArray.empty = s at hck
              go_wp2
              · go_ret
                exact ⟨tells _, rfl⟩
              · go_ret
                exact ⟨tells _, rfl⟩
              · go_round
                case rel => exact ⟨_, k + 1, by omega, rfl, by go_num⟩
                case measure => simp [intOf]; omega
            · go_wp2
              · go_ret
                exact ⟨tells _, rfl⟩
              · go_ret
                exact ⟨tells _, rfl⟩
              · go_loop [15, 18] (fun z i => ∃ (m : Int) (k : Nat), k ≤ len2 ∧ z = .int .i64 m ∧ i = .int .i64 k) (fun _ i => len2 - (intOf i).toNat)
                case atStart => exact ⟨_, 0, Nat.zero_le _, rfl, rfl⟩
                case round =>
                  obtain ⟨m, k, hk, rfl, rfl⟩ := hrel
                  by_cases hkl : (k : Int) < (len2 : Int)
                  · obtain ⟨b2, off2, rfl, hlt, hc⟩ := h2.cells (by omega)
                    have hck := hc k (by omega)
                    clear hc
                    generalize ss2.getD k ByteArray.empty = s at hck
                    go_wp2
                    · go_ret
                      exact ⟨tells _, rfl⟩
                    · go_ret
                      exact ⟨tells _, rfl⟩
                    · go_round
                      case rel => exact ⟨_, k + 1, by omega, rfl, by go_num⟩
                      case measure => simp [intOf]; omega
                  · go_wp2
                    all_goals
                      go_ret
                      exact ⟨tells _, rfl⟩

theorem bytes5_no (a0 : Option Addr) (len0 cap0 : Nat) (a1 : Option Addr) (len1 cap1 : Nat) (a2 : Option Addr) (len2 cap2 : Nat)
    (a b c d : ByteArray) (w : World) (hbig : 1048576 < len0) (hm : len0 ≤ maxLen) :
    Calls Try.prog 5 #[.slice a0 len0 cap0, .slice a1 len1 cap1, .slice a2 len2 cap2, .string a, .string b, .string c, .string d] w fun e w' => e = .returned (.bool false) ∧ w' = w := by
  unfold maxLen at hm
  go_enter Try.func5, Try.ntmps5
  go_wp2
  go_ret
  exact ⟨rfl, rfl⟩

set_option maxHeartbeats 4000000 in
theorem bytes11_any (a0 : Option Addr) (len0 cap0 : Nat) (ss0 : List ByteArray) (a1 : Option Addr) (len1 cap1 : Nat) (ss1 : List ByteArray) (a2 : Option Addr) (len2 cap2 : Nat) (ss2 : List ByteArray)
    (a : ByteArray) (w : World) (h0 : Lies w a0 len0 ss0) (h1 : Lies w a1 len1 ss1) (h2 : Lies w a2 len2 ss2) :
    Calls Try.prog 11 #[.slice a0 len0 cap0, .slice a1 len1 cap1, .slice a2 len2 cap2, .string a] w fun e w' => Tells e ∧ w' = w := by
  have c9 := cells9
  have m0 := h0.le
  have m1 := h1.le
  have m2 := h2.le
  unfold maxLen at m0 m1 m2
  go_enter Try.func11, Try.ntmps11
  go_wp2
  · go_ret
    exact ⟨tells _, rfl⟩
  · go_loop [9, 10] (fun z i => ∃ (m : Int) (k : Nat), k ≤ len0 ∧ z = .int .i64 m ∧ i = .int .i64 k) (fun _ i => len0 - (intOf i).toNat)
    case atStart => exact ⟨_, 0, Nat.zero_le _, rfl, rfl⟩
    case round =>
      obtain ⟨m, k, hk, rfl, rfl⟩ := hrel
      by_cases hkl : (k : Int) < (len0 : Int)
      · obtain ⟨b0, off0, rfl, hlt, hc⟩ := h0.cells (by omega)
        have hck := hc k (by omega)
        clear hc
        generalize ss0.getD k ByteArray.empty = s at hck
        go_wp2
        · go_ret
          exact ⟨tells _, rfl⟩
        · go_ret
          exact ⟨tells _, rfl⟩
        · go_round
          case rel => exact ⟨_, k + 1, by omega, rfl, by go_num⟩
          case measure => simp [intOf]; omega
      · go_wp2
        · go_ret
          exact ⟨tells _, rfl⟩
        · go_ret
          exact ⟨tells _, rfl⟩
        · go_loop [9, 11] (fun z i => ∃ (m : Int) (k : Nat), k ≤ len1 ∧ z = .int .i64 m ∧ i = .int .i64 k) (fun _ i => len1 - (intOf i).toNat)
          case atStart => exact ⟨_, 0, Nat.zero_le _, rfl, rfl⟩
          case round =>
            obtain ⟨m, k, hk, rfl, rfl⟩ := hrel
            by_cases hkl : (k : Int) < (len1 : Int)
            · obtain ⟨b1, off1, rfl, hlt, hc⟩ := h1.cells (by omega)
              have hck := hc k (by omega)
              clear hc
              generalize ss1.getD k ByteArray.empty = s at hck
              go_wp2
              · go_ret
                exact ⟨tells _, rfl⟩
              · go_ret
                exact ⟨tells _, rfl⟩
              · go_round
                case rel => exact ⟨_, k + 1, by omega, rfl, by go_num⟩
                case measure => simp [intOf]; omega
            · go_wp2
              · go_ret
                exact ⟨tells _, rfl⟩
              · go_ret
                exact ⟨tells _, rfl⟩
              · go_loop [9, 12] (fun z i => ∃ (m : Int) (k : Nat), k ≤ len2 ∧ z = .int .i64 m ∧ i = .int .i64 k) (fun _ i => len2 - (intOf i).toNat)
                case atStart => exact ⟨_, 0, Nat.zero_le _, rfl, rfl⟩
                case round =>
                  obtain ⟨m, k, hk, rfl, rfl⟩ := hrel
                  by_cases hkl : (k : Int) < (len2 : Int)
                  · obtain ⟨b2, off2, rfl, hlt, hc⟩ := h2.cells (by omega)
                    have hck := hc k (by omega)
                    clear hc
                    generalize ss2.getD k ByteArray.empty = s at hck
                    go_wp2
                    · go_ret
                      exact ⟨tells _, rfl⟩
                    · go_ret
                      exact ⟨tells _, rfl⟩
                    · go_round
                      case rel => exact ⟨_, k + 1, by omega, rfl, by go_num⟩
                      case measure => simp [intOf]; omega
                  · go_wp2
                    all_goals
                      go_ret
                      exact ⟨tells _, rfl⟩

theorem bytes11_no (a0 : Option Addr) (len0 cap0 : Nat) (a1 : Option Addr) (len1 cap1 : Nat) (a2 : Option Addr) (len2 cap2 : Nat)
    (a : ByteArray) (w : World) (hbig : 1048576 < len0) (hm : len0 ≤ maxLen) :
    Calls Try.prog 11 #[.slice a0 len0 cap0, .slice a1 len1 cap1, .slice a2 len2 cap2, .string a] w fun e w' => e = .returned (.bool false) ∧ w' = w := by
  unfold maxLen at hm
  go_enter Try.func11, Try.ntmps11
  go_wp2
  go_ret
  exact ⟨rfl, rfl⟩

end Go.Proofs.Qxb6628193a.Rf
