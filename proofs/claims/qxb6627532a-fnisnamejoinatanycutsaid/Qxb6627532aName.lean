/-
  The walk of IsName: it computes 'isName' on the string's bytes.
-/
import Derived.Test.Qxb6627532aWalk
namespace Go.Proofs.Qxb6627532a.Nm
open Go.RowKit

/-- What holds of the bytes ahead of place 'pos'. -/
def Good (l : List UInt8) (pos : Nat) : Prop := allTail (l.take pos) = true ∧ ∀ h : 0 < l.length, 0 < pos → headU (l[0]) = true

/-- What the decoder says of the place 'pos': the byte, or a rune from 128 on at a byte from 128 on. -/
def Dec (c r wd : Nat) : Prop := (r < 128 ∧ r = c ∧ wd = 1) ∨ (128 ≤ r ∧ 128 ≤ c ∧ 1 ≤ wd)

theorem wd_pos {c r wd : Nat} (h : Dec c r wd) : 1 ≤ wd := by unfold Dec at h; omega

theorem step_good (s : ByteArray) (pos r wd : Nat) (hp : pos < s.size) (hd : Dec s[pos].toNat r wd) (hg : Good s.data.toList pos)
    (hc : ((r : Int) = 95 ∨ (97 ≤ (r : Int) ∧ (r : Int) ≤ 122) ∨ (65 ≤ (r : Int) ∧ (r : Int) ≤ 90)) ∨ (¬ (pos : Int) = 0 ∧ 48 ≤ (r : Int) ∧ (r : Int) ≤ 57)) :
    pos + wd ≤ s.size ∧ Good s.data.toList (pos + wd) := by
  have hr : r < 128 ∧ r = s[pos].toNat ∧ wd = 1 := by
    rcases hd with hd | hd
    · exact hd
    · omega
  obtain ⟨_, hr, rfl⟩ := hr
  refine ⟨by omega, ?_, ?_⟩
  · rw [take_snoc s pos hp, allTail_append, hg.1]
    simp only [allTail, List.all_cons, List.all_nil, Bool.and_true, Bool.true_and]
    exact tailB_true (by omega)
  · intro hl _
    by_cases h0 : pos = 0
    · subst h0
      have : s.data.toList[0] = s[0] := rfl
      rw [this]
      exact headB_true (by omega)
    · exact hg.2 hl (by omega)

theorem leave_no (s : ByteArray) (pos r wd : Nat) (hp : pos < s.size) (hd : Dec s[pos].toNat r wd)
    (hc : ¬ ((r : Int) = 95 ∨ (97 ≤ (r : Int) ∧ (r : Int) ≤ 122) ∨ (65 ≤ (r : Int) ∧ (r : Int) ≤ 90))) (hc' : (pos : Int) = 0 ∨ ¬ (48 ≤ (r : Int) ∧ (r : Int) ≤ 57)) :
    isName s.data.toList = false := by
  have hl : pos < s.data.toList.length := by simpa using hp
  by_cases ht : tailU s[pos] = true
  · simp only [tailU, tailB, decide_eq_true_eq] at ht
    have h0 : pos = 0 := by unfold Dec at hd; omega
    subst h0
    refine isName_false_of_head hl ?_
    have : s.data.toList[0] = s[0] := rfl
    rw [this]
    unfold Dec at hd
    exact headB_false (by omega)
  · refine isName_false_of_tail (allTail_false (k := pos) hl ?_)
    have : s.data.toList[pos] = s[pos] := rfl
    rw [this]
    simpa using ht

set_option maxRecDepth 1000000 in
set_option maxHeartbeats 1000000 in
theorem isName_any (s : ByteArray) (w : World) (hs : s.size ≤ maxLen) :
    Calls Try.prog 8 #[.string s] w fun e w' => e = .returned (.bool (isName s.data.toList)) ∧ Grown w w' := by
  unfold maxLen at hs
  by_cases hz : s.size = 0
  · have hl : s.data.toList = [] := by apply List.eq_nil_of_length_eq_zero; simpa using hz
    have he : (s.toList == []) = true := by rw [ByteArray.toList_eq, hl]; rfl
    have HF : Hid (isName s.data.toList = false) := by show _ = _; rw [hl]; rfl
    clear hl
    go_enter Try.func8, Try.ntmps8
    go_wp2
    go_ret
    exact ⟨ret_bool HF.out.symm, Grown.refl _⟩
  · have hl : s.data.toList ≠ [] := by intro h; apply hz; have := congrArg List.length h; simpa using this
    have he : (s.toList == []) = false := by rw [ByteArray.toList_eq]; simpa using hl
    have hlen : s.data.toList.length = s.size := by simp
    have HL : Hid (s.data.toList.length = s.size) := hlen
    clear hl hlen
    go_enter Try.func8, Try.ntmps8
    go_wp2
    go_loopw [] (fun w' => ∃ pos : Nat, w' = w.iter s pos ∧ pos ≤ s.size ∧ Good s.data.toList pos) (fun w' => s.size - w'.iterPos w.heap.size)
    case atStart => exact ⟨0, rfl, by omega, rfl, fun _ h => absurd h (by omega)⟩
    case round =>
      obtain ⟨pos, rfl, hp0, HG⟩ := hrel
      by_cases hp : pos < s.size
      · have hnx : ∀ ty, (Instr.next (.pointer (some ⟨w.heap.size, 0, none⟩)) true ty).run Try.prog (w.iter s pos) = _ := fun ty => run_next_any w s pos ty hp
        have hD : ((Utf8.decode s pos).1 < 128 ∧ (Utf8.decode s pos).1 = s[pos].toNat ∧ (Utf8.decode s pos).2 = 1) ∨ (128 ≤ (Utf8.decode s pos).1 ∧ 128 ≤ s[pos].toNat ∧ 1 ≤ (Utf8.decode s pos).2) := by
          by_cases ha : s[pos].toNat < 128
          · rw [decode_ascii s pos hp ha]; exact .inl ⟨ha, rfl, rfl⟩
          · exact .inr ⟨(decode_high s pos hp (by omega)).1, by omega, (decode_high s pos hp (by omega)).2⟩
        have hle := decode_le s pos
        generalize (Utf8.decode s pos).1 = r at hD hnx hle
        generalize (Utf8.decode s pos).2 = wd at hD hnx
        have HD : Hid (Dec s[pos].toNat r wd) := hD
        clear hD
        have cls : ((r : Int) = 95) ∨ (97 ≤ (r : Int) ∧ (r : Int) ≤ 122) ∨ (65 ≤ (r : Int) ∧ (r : Int) ≤ 90) ∨ (48 ≤ (r : Int) ∧ (r : Int) ≤ 57) ∨ (r : Int) < 48 ∨ (57 < (r : Int) ∧ (r : Int) < 65) ∨ (90 < (r : Int) ∧ (r : Int) < 95) ∨ (95 < (r : Int) ∧ (r : Int) < 97) ∨ 122 < (r : Int) := by omega
        by_cases hq : (pos : Int) = 0
        · rcases cls with c | ⟨c, c'⟩ | ⟨c, c'⟩ | ⟨c, c'⟩ | c | ⟨c, c'⟩ | ⟨c, c'⟩ | ⟨c, c'⟩ | c
          all_goals go_wp2
          all_goals first
            | (go_ret
               exact ⟨ret_bool (leave_no s pos r wd hp HD.out (by omega) (by omega)).symm, grown_iter _ _ _⟩)
            | (exfalso; rename_i hx; simp at hx; omega)
            | (refine ⟨⟨pos + wd, rfl, (step_good s pos r wd hp HD.out HG (by omega)).1, (step_good s pos r wd hp HD.out HG (by omega)).2⟩, ?_⟩
               have := (wd_pos HD.out)
               simp
               omega)
        · have hq' : ((pos : Int) == 0) = false := beq_eq_false_iff_ne.2 hq
          rcases cls with c | ⟨c, c'⟩ | ⟨c, c'⟩ | ⟨c, c'⟩ | c | ⟨c, c'⟩ | ⟨c, c'⟩ | ⟨c, c'⟩ | c
          all_goals go_wp2
          all_goals first
            | (go_ret
               exact ⟨ret_bool (leave_no s pos r wd hp HD.out (by omega) (by omega)).symm, grown_iter _ _ _⟩)
            | (exfalso; rename_i hx; simp at hx; omega)
            | (refine ⟨⟨pos + wd, rfl, (step_good s pos r wd hp HD.out HG (by omega)).1, (step_good s pos r wd hp HD.out HG (by omega)).2⟩, ?_⟩
               have := (wd_pos HD.out)
               simp
               omega)
      · have hnx : ∀ ty, (Instr.next (.pointer (some ⟨w.heap.size, 0, none⟩)) true ty).run Try.prog (w.iter s pos) = _ := fun ty => run_next_end w s pos ty hp
        go_wp2
        go_ret
        refine ⟨ret_bool ?_, grown_iter _ _ _⟩
        have hpe : pos = s.size := by omega
        rw [isName_true (by rw [HL.out]; omega) (HG.2 _ (by omega))]
        have := HG.1
        rwa [List.take_of_length_le (by rw [HL.out]; omega)] at this

end Go.Proofs.Qxb6627532a.Nm
