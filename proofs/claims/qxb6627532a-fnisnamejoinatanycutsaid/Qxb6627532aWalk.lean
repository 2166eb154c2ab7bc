/-
  The walks of this seat: each Go function on the roads computes its plain function (Qxb6627532aPlain).
-/
import Derived.Test.Qxb6627532aRows
import Derived.Test.Qxb6627532aPlain
import Derived.WalkKit
import Derived.ProofKit
namespace Go.Proofs.Qxb6627532a.Nm
open Go.RowKit

theorem grown_trans {a b c : World} (h : Grown a b) (k : Grown b c) : Grown a c :=
  ⟨World.keptBut_trans h.1 (World.keptBut_mono (fun _ f => f.elim) k.1), fun x => (k.2.1 x).trans (h.2.1 x), Nat.le_trans h.2.2 k.2.2⟩

theorem frozen_iter (w : World) (s : ByteArray) (pos : Nat) (a : Addr) : (w.iter s pos).frozen? a = w.frozen? a := by
  by_cases h : a.block = w.heap.size
  · have e1 : (w.iter s pos).heap[a.block]? = some (.stringIter s pos) := by rw [h]; exact World.iter_heap w s pos
    have e2 : w.heap[a.block]? = none := by rw [h]; simp
    simp [World.frozen?, e1, e2]
  · exact World.frozen?_alloc_old _ _ _ h

theorem grown_iter (w : World) (s : ByteArray) (pos : Nat) : Grown w (w.iter s pos) :=
  ⟨World.keptBut_alloc w _ _, frozen_iter w s pos, by show w.heap.size ≤ (w.heap.push _).size; simp⟩

theorem width_pos (s : ByteArray) (pos : Nat) (h : pos < s.size) : 1 ≤ (Utf8.decode s pos).2 := by
  by_cases ha : (s[pos]'h).toNat < 128
  · rw [decode_ascii s pos h ha]
    exact Nat.le_refl _
  · exact (decode_high s pos h (by omega)).2

theorem ret_bool {a b : Bool} (h : a = b) : Ending.returned (.bool a) = .returned (.bool b) := by rw [h]

/-! ### isHeadByte -/
theorem head_any (n : Int) (h0 : 0 ≤ n) (h1 : n ≤ 255) (w : World) :
    Calls Try.prog 6 #[.int .u8 n] w fun e w' => e = .returned (.bool (headB n)) ∧ w' = w := by
  go_enter Try.func6, Try.ntmps6
  go_wp2
  all_goals
    go_ret
    exact ⟨ret_bool (by rw [Bool.eq_iff_iff]; simp [headB]; omega), rfl⟩

/-! ### isTailByte -/
theorem tail_any (n : Int) (h0 : 0 ≤ n) (h1 : n ≤ 255) (w : World) :
    Calls Try.prog 10 #[.int .u8 n] w fun e w' => e = .returned (.bool (tailB n)) ∧ w' = w := by
  cases hh : headB n
  · have hn : ¬ (n = 95 ∨ (97 ≤ n ∧ n ≤ 122) ∨ (65 ≤ n ∧ n ≤ 90)) := of_decide_eq_false hh
    go_enter Try.func10, Try.ntmps10
    go_wp2_with (go_at_call 6; refine (head_any _ h0 h1 _).mono ?_; rintro e w' ⟨rfl, rfl⟩; rw [hh])
    all_goals
      go_ret
      exact ⟨ret_bool (by rw [Bool.eq_iff_iff]; simp [tailB]; omega), rfl⟩
  · have hn : n = 95 ∨ (97 ≤ n ∧ n ≤ 122) ∨ (65 ≤ n ∧ n ≤ 90) := of_decide_eq_true hh
    go_enter Try.func10, Try.ntmps10
    go_wp2_with (go_at_call 6; refine (head_any _ h0 h1 _).mono ?_; rintro e w' ⟨rfl, rfl⟩; rw [hh])
    all_goals
      go_ret
      exact ⟨ret_bool (by rw [Bool.eq_iff_iff]; simp [tailB]; omega), rfl⟩

/-! ### allTailBytes -/
theorem take_snoc (s : ByteArray) (k : Nat) (h : k < s.size) : s.data.toList.take (k + 1) = s.data.toList.take k ++ [s[k]] := by
  rw [List.take_succ_eq_append_getElem (by simpa using h)]; rfl

theorem get_list (s : ByteArray) (k : Nat) (h : k < s.size) : s.data.toList[k]'(by simpa using h) = s[k] := rfl

set_option maxHeartbeats 400000 in
theorem allTail_any (s : ByteArray) (w : World) (hs : s.size ≤ maxLen) :
    Calls Try.prog 7 #[.string s] w fun e w' => e = .returned (.bool (allTail s.data.toList)) ∧ w' = w := by
  unfold maxLen at hs
  go_enter Try.func7, Try.ntmps7
  go_wp2
  go_loop [3] (fun i => ∃ k : Nat, k ≤ s.size ∧ i = .int .i64 k ∧ Hid (allTail (s.data.toList.take k) = true)) (fun i => s.size - (intOf i).toNat)
  case atStart => exact ⟨0, Nat.zero_le _, rfl, rfl⟩
  case round =>
    obtain ⟨k, hk, rfl, H⟩ := hrel
    by_cases hlt : k < s.size
    · have hb : (s[k].toNat : Int) ≤ 255 := by have := s[k].toNat_lt; omega
      cases ht : tailB (s[k].toNat : Int)
      · have HF : Hid (allTail s.data.toList = false) := allTail_false (k := k) (by simpa using hlt) ht
        go_wp2_with (go_at_call 10; refine (tail_any _ (by omega) hb _).mono ?_; rintro e w' ⟨rfl, rfl⟩; rw [ht])
        go_ret
        exact ⟨ret_bool HF.out.symm, rfl⟩
      · have HF : Hid (allTail (s.data.toList.take (k + 1)) = true) := by
          show _ = _
          rw [take_snoc s k hlt, allTail_append, H.out]
          simp [allTail, tailU, ht]
        go_wp2_with (go_at_call 10; refine (tail_any _ (by omega) hb _).mono ?_; rintro e w' ⟨rfl, rfl⟩; rw [ht])
        go_round
        case rel => exact ⟨k + 1, by omega, by go_num, HF⟩
        case measure => simp [intOf]; omega
    · have HF : Hid (allTail s.data.toList = true) := by
        show _ = _
        rw [← H.out, List.take_of_length_le (by simp; omega)]
      go_wp2
      go_ret
      exact ⟨ret_bool HF.out.symm, rfl⟩

end Go.Proofs.Qxb6627532a.Nm
