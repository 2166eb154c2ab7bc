/-
  The proof of 'Rows.FnIsNameJoinAtAnyCutSaid'. The frame (lifted, over, proved) was written by the kit's tool for this program; the walk is ours.
-/
import Derived.Test.Qxb6627532aRows
import Derived.Test.Qxb6627532aName
import Derived.WalkKit
import Derived.ProofKit
import Derived.OpenShut
import Derived.ShutString
namespace Go.Proofs.Qxb6627532a.fnIsNameJoinAtAnyCut
open Go.ChangeShapes Go.WideShapes Go.ChangeAt Go.RowKit
open Go.ChangeMaps (open_string shut_string)
set_option linter.unusedVariables false      -- a walk need not use every 'w<i>' (that an integer argument fits its kind)

theorem own : ownKnob Try.prog.godebug = none := by kernel_rfl

/-! ### THE WALK -/
theorem bytes_yes (a b : ByteArray) (h : a.size + b.size ≤ 1048576) (w : World) :
    Calls Try.prog 9 #[.string a, .string b] w fun e w' => e = .returned (.bool true) ∧ w' = w := by
  go_enter Try.func9, Try.ntmps9
  go_wp2
  go_ret
  exact ⟨rfl, rfl⟩

theorem bytes_no (a b : ByteArray) (h : 1048576 < a.size + b.size) (ha : a.size ≤ maxLen) (hb : b.size ≤ maxLen) (w : World) :
    Calls Try.prog 9 #[.string a, .string b] w fun e w' => e = .returned (.bool false) ∧ w' = w := by
  unfold maxLen at ha hb
  by_cases h1 : 1048576 < a.size
  · go_enter Try.func9, Try.ntmps9
    go_wp2
    go_ret
    exact ⟨rfl, rfl⟩
  · by_cases h2 : 1048576 < b.size
    · go_enter Try.func9, Try.ntmps9
      go_wp2
      go_ret
      exact ⟨rfl, rfl⟩
    · go_enter Try.func9, Try.ntmps9
      go_wp2
      go_ret
      exact ⟨rfl, rfl⟩

/-- IsName's contract at a verdict that is known, and at a string whose bytes are known. -/
theorem name_is (l : List UInt8) (v : Bool) (hv : Hid (Nm.isName l = v)) (s : ByteArray) (w : World) (hl : s.data.toList = l) (hs : l.length ≤ maxLen) :
    Calls Try.prog 8 #[.string s] w fun e w' => e = .returned (.bool v) ∧ Grown w w' := by
  have hz : s.size = l.length := by rw [← hl]; simp
  refine (Nm.isName_any s w (by omega)).mono ?_
  rintro e w' ⟨rfl, hg⟩
  exact ⟨Nm.ret_bool (by rw [hl, hv.out]), hg⟩

theorem tail_is (v : Bool) (s : ByteArray) (w : World) (hv : Hid (Nm.allTail s.data.toList = v)) (hs : s.size ≤ maxLen) :
    Calls Try.prog 7 #[.string s] w fun e w' => e = .returned (.bool v) ∧ w' = w := by
  refine (Nm.allTail_any s w hs).mono ?_
  rintro e w' ⟨rfl, hg⟩
  exact ⟨Nm.ret_bool hv.out, hg⟩

theorem isName_join {l : List UInt8} (h : l ≠ []) (m : List UInt8) : Nm.isName (l ++ m) = (Nm.isName l && Nm.allTail m) := by
  cases l with
  | nil => exact absurd rfl h
  | cons c l => rw [List.cons_append, Nm.isName_cons, Nm.isName_cons, Nm.allTail_append, Bool.and_assoc]

theorem allTail_of_name {l : List UInt8} (h : Nm.isName l = true) : Nm.allTail l = true := by
  cases ha : Nm.allTail l
  · rw [Nm.isName_false_of_tail ha] at h; cases h
  · rfl

theorem walk (a0 : ByteArray) (a1 : ByteArray) (w0 : a0.size ≤ maxLen) (w1 : a1.size ≤ maxLen) (w : World) :
    Calls Try.prog 4 #[.string a0, .string a1] w fun e w' => e = .returned (.bool true) ∧ Grown w w' := by
  by_cases hbig : 1048576 < a0.size + a1.size
  · go_enter Try.func4, Try.ntmps4
    go_wp2_with (go_at_call 9; refine (bytes_no _ _ hbig w0 w1 _).mono ?_; rintro e w' ⟨rfl, rfl⟩)
    go_ret
    exact ⟨rfl, Grown.refl _⟩
  · have hsm : a0.size + a1.size ≤ 1048576 := by omega
    have hlen : (95 :: (a0.data.toList ++ a1.data.toList)).length ≤ maxLen := by simp [maxLen]; omega
    have HU : Hid (Nm.isName (95 :: (a0.data.toList ++ a1.data.toList)) = (Nm.allTail a0.data.toList && Nm.allTail a1.data.toList)) := by
      show _ = _; rw [Nm.isName_under, Nm.allTail_append]
    obtain ⟨tb, HB⟩ : ∃ tb, Hid (Nm.allTail a1.data.toList = tb) := ⟨_, rfl⟩
    by_cases hz : a0.size = 0
    · have hl : a0.data.toList = [] := by apply List.eq_nil_of_length_eq_zero; simpa using hz
      have he : (a0.toList == []) = true := by rw [ByteArray.toList_eq, hl]; rfl
      have HA : Hid (Nm.allTail a0.data.toList = true) := by show _ = _; rw [hl]; rfl
      have HU' : Hid (Nm.isName (95 :: (a0.data.toList ++ a1.data.toList)) = tb) := by show _ = _; rw [HU.out, HA.out, HB.out]; rfl
      obtain ⟨j, HJ⟩ : ∃ j, Hid (Nm.isName a1.data.toList = j) := ⟨_, rfl⟩
      have HJ' : Hid (Nm.isName (a0.data.toList ++ a1.data.toList) = j) := by show _ = _; rw [hl]; exact HJ.out
      clear hl
      go_enter Try.func4, Try.ntmps4
      go_wp2_with (go_at_call 9; refine (bytes_yes _ _ hsm _).mono ?_; rintro e w' ⟨rfl, rfl⟩)
      refine (name_is _ j HJ' _ _ (by simp) (by simp [maxLen]; omega)).mono ?_
      rintro e w2 ⟨rfl, hg2⟩
      go_wp2_with fail
      refine (name_is _ j HJ _ _ (by simp) (by simp [maxLen]; omega)).mono ?_
      rintro e w3 ⟨rfl, hg3⟩
      go_wp2_with fail
      refine (name_is _ tb HU' _ _ (by simp) hlen).mono ?_
      rintro e w4 ⟨rfl, hg4⟩
      go_wp2_with fail
      refine (tail_is true _ _ HA w0).mono ?_
      rintro e w5 ⟨rfl, rfl⟩
      go_wp2_with fail
      refine (tail_is tb _ _ HB w1).mono ?_
      rintro e w6 ⟨rfl, rfl⟩
      go_wp2_with fail
      go_ret
      exact ⟨Nm.ret_bool (by simp), Nm.grown_trans (Nm.grown_trans hg2 hg3) hg4⟩
    · have hl : a0.data.toList ≠ [] := by intro h; apply hz; have := congrArg List.length h; simpa using this
      have he : (a0.toList == []) = false := by rw [ByteArray.toList_eq]; simpa using hl
      have HJ : Hid (Nm.isName (a0.data.toList ++ a1.data.toList) = (Nm.isName a0.data.toList && Nm.allTail a1.data.toList)) := isName_join hl _
      clear hl
      cases hna : Nm.isName a0.data.toList
      · have HN : Hid (Nm.isName a0.data.toList = false) := hna
        clear hna
        cases hta : Nm.allTail a0.data.toList
        · have HA : Hid (Nm.allTail a0.data.toList = false) := hta
          clear hta
          go_enter Try.func4, Try.ntmps4
          go_wp2_with (go_at_call 9; refine (bytes_yes _ _ hsm _).mono ?_; rintro e w' ⟨rfl, rfl⟩)
          refine (name_is _ false (by show _ = _; rw [HJ.out, HN.out]; rfl) _ _ (by simp) (by simp [maxLen]; omega)).mono ?_
          rintro e w2 ⟨rfl, hg2⟩
          go_wp2_with fail
          refine (name_is _ false HN _ _ (by simp) (by simp [maxLen]; omega)).mono ?_
          rintro e w3 ⟨rfl, hg3⟩
          go_wp2_with fail
          refine (name_is _ false (by show _ = _; rw [HU.out, HA.out]; rfl) _ _ (by simp) hlen).mono ?_
          rintro e w8 ⟨rfl, hg8⟩
          go_wp2_with fail
          refine (tail_is false _ _ HA w0).mono ?_
          rintro e w9 ⟨rfl, rfl⟩
          go_wp2_with fail
          go_ret
          exact ⟨Nm.ret_bool (by simp), Nm.grown_trans (Nm.grown_trans hg2 hg3) hg8⟩
        · have HA : Hid (Nm.allTail a0.data.toList = true) := hta
          clear hta
          go_enter Try.func4, Try.ntmps4
          go_wp2_with (go_at_call 9; refine (bytes_yes _ _ hsm _).mono ?_; rintro e w' ⟨rfl, rfl⟩)
          refine (name_is _ false (by show _ = _; rw [HJ.out, HN.out]; rfl) _ _ (by simp) (by simp [maxLen]; omega)).mono ?_
          rintro e w2 ⟨rfl, hg2⟩
          go_wp2_with fail
          refine (name_is _ false HN _ _ (by simp) (by simp [maxLen]; omega)).mono ?_
          rintro e w3 ⟨rfl, hg3⟩
          go_wp2_with fail
          refine (name_is _ tb (by show _ = _; rw [HU.out, HA.out, HB.out]; rfl) _ _ (by simp) hlen).mono ?_
          rintro e w8 ⟨rfl, hg8⟩
          go_wp2_with fail
          refine (tail_is true _ _ HA w0).mono ?_
          rintro e w9 ⟨rfl, rfl⟩
          go_wp2_with fail
          refine (tail_is tb _ _ HB w1).mono ?_
          rintro e w10 ⟨rfl, rfl⟩
          go_wp2_with fail
          go_ret
          exact ⟨Nm.ret_bool (by simp), Nm.grown_trans (Nm.grown_trans hg2 hg3) hg8⟩
      · have HN : Hid (Nm.isName a0.data.toList = true) := hna
        have HA : Hid (Nm.allTail a0.data.toList = true) := allTail_of_name hna
        clear hna
        by_cases hy : a1.size = 0
        · have hl1 : a1.data.toList = [] := by apply List.eq_nil_of_length_eq_zero; simpa using hy
          have he1 : (a1.toList == []) = true := by rw [ByteArray.toList_eq, hl1]; rfl
          have hB : Nm.allTail a1.data.toList = true := by rw [hl1]; rfl
          rw [HB.out] at hB
          subst hB
          clear hl1
          go_enter Try.func4, Try.ntmps4
          go_wp2_with (go_at_call 9; refine (bytes_yes _ _ hsm _).mono ?_; rintro e w' ⟨rfl, rfl⟩)
          refine (name_is _ true (by show _ = _; rw [HJ.out, HN.out, HB.out]; rfl) _ _ (by simp) (by simp [maxLen]; omega)).mono ?_
          rintro e w2 ⟨rfl, hg2⟩
          go_wp2_with fail
          refine (name_is _ true HN _ _ (by simp) (by simp [maxLen]; omega)).mono ?_
          rintro e w3 ⟨rfl, hg3⟩
          go_wp2_with fail
          refine (name_is _ true (by show _ = _; rw [HU.out, HA.out, HB.out]; rfl) _ _ (by simp) hlen).mono ?_
          rintro e w8 ⟨rfl, hg8⟩
          go_wp2_with fail
          refine (tail_is true _ _ HA w0).mono ?_
          rintro e w9 ⟨rfl, rfl⟩
          go_wp2_with fail
          refine (tail_is true _ _ HB w1).mono ?_
          rintro e w10 ⟨rfl, rfl⟩
          go_wp2_with fail
          go_ret
          exact ⟨Nm.ret_bool (by simp), Nm.grown_trans (Nm.grown_trans hg2 hg3) hg8⟩
        · have hl1 : a1.data.toList ≠ [] := by intro h; apply hy; have := congrArg List.length h; simpa using this
          have he1 : (a1.toList == []) = false := by rw [ByteArray.toList_eq]; simpa using hl1
          clear hl1
          go_enter Try.func4, Try.ntmps4
          go_wp2_with (go_at_call 9; refine (bytes_yes _ _ hsm _).mono ?_; rintro e w' ⟨rfl, rfl⟩)
          refine (name_is _ tb (by show _ = _; rw [HJ.out, HN.out, HB.out]; rfl) _ _ (by simp) (by simp [maxLen]; omega)).mono ?_
          rintro e w2 ⟨rfl, hg2⟩
          go_wp2_with fail
          refine (name_is _ true HN _ _ (by simp) (by simp [maxLen]; omega)).mono ?_
          rintro e w3 ⟨rfl, hg3⟩
          go_wp2_with fail
          refine (name_is (95 :: a1.data.toList) tb (by show _ = _; rw [Nm.isName_under, HB.out]) _ _ (by simp) (by simp [maxLen]; omega)).mono ?_
          rintro e w4 ⟨rfl, hg4⟩
          go_wp2_with fail
          refine (name_is _ tb (by show _ = _; rw [HU.out, HA.out, HB.out]; rfl) _ _ (by simp) hlen).mono ?_
          rintro e w8 ⟨rfl, hg8⟩
          go_wp2_with fail
          refine (tail_is true _ _ HA w0).mono ?_
          rintro e w9 ⟨rfl, rfl⟩
          go_wp2_with fail
          refine (tail_is tb _ _ HB w1).mono ?_
          rintro e w10 ⟨rfl, rfl⟩
          go_wp2_with fail
          go_ret
          exact ⟨Nm.ret_bool (by simp), Nm.grown_trans (Nm.grown_trans (Nm.grown_trans hg2 hg3) hg4) hg8⟩

/-! ### THE ROW's STEP: WRITTEN OUT: LEAVE IT -/
set_option maxRecDepth 100000 in
theorem lifted (os : Os) (started : os.Started) (H : Type) (enc : TypeId × Value → H) :
    ReturnsInHanded {} Try.checked os 4 .any (Rows.fnIsNameJoinAtAnyCutSpec.pre6 enc Try.prog Try.f4 Rows.fnIsNameJoinAtAnyCutRow.domain false) (Rows.fnIsNameJoinAtAnyCutSpec.post enc Try.prog Try.f4 false true false false) := by
  refine returnsInHanded_of_change (C := Try.checked) own started (by kernel_rfl) Try.func4
    (ChangeSpec.witness6 (enc := enc) (C := Try.checked) false ⟨#[], #[.string ByteArray.empty, .string ByteArray.empty], []⟩ 8 (by kernel_rfl) (by kernel_rfl) (by kernel_rfl) (by kernel_rfl)) ?_
  intro W base args ds gs before hval0 hW hcnd _
  have hval : ∀ (j : Nat) t v, Try.f4.params[j]? = some t → args[j]? = some v → Value.okWide Try.prog W .any base t v := hval0
  have hW' := hW
  obtain ⟨p, q, hA0, hV, rfl, hfz, hnd⟩ := hW
  have hA : DataW.TrodAll enc Try.prog W 0 (fun _ => true) true Try.f4.params.toList args.toList ds p := hA0
  rw [Try.params4] at hA hval
  obtain ⟨v0, vs0, d0, ds0, p0, q0, hargs, rfl, rfl, h0, r0⟩ := trodAll_cons hA
  obtain ⟨v1, vs1, d1, ds1, p1, q1, rfl, rfl, rfl, h1, r1⟩ := trodAll_cons r0
  obtain ⟨rfl, rfl, rfl⟩ := trodAll_nil r1
  obtain rfl : args = #[v0, v1] := by cases args; simp_all
  obtain ⟨rfl, rfl⟩ := trodVars_none hV
  obtain ⟨a0, rfl, rfl, rfl, w0⟩ := open_string Try.underlying9 (hval 0 9 v0 rfl rfl) h0
  obtain ⟨a1, rfl, rfl, rfl, w1⟩ := open_string Try.underlying9 (hval 1 9 v1 rfl rfl) h1
  clear hA0 hval0
  simp only [List.append_nil] at hW'
  refine (walk a0 a1 w0 w1 W).mono fun e W' ⟨he, hg⟩ => ?_
  subst he
  exact ⟨_, rfl, post_of_same (pa := []) (pv := []) hW' (fun _ _ _ => (trodAll_cons_mk (shut_bool Try.underlying4 _) trodAll_mk0)) (fun sp _ => (trodAll_cons_mk (shut_string Try.underlying9 w0) (trodAll_cons_mk (shut_string Try.underlying9 w1) trodAll_mk0))) (fun _ _ => rfl) rfl
    (hg.frame _) hg.2.1 (ok_one (by kernel_rfl) rfl (okWide_bool_mk Try.underlying4 _))⟩

theorem over : Rows.fnIsNameJoinAtAnyCutRow.holds Try.pinned (OpenSpec.ofChange Rows.fnIsNameJoinAtAnyCutSpec) :=
  OpenClaim.holds_of_wide 4 Try.f4 rfl rfl rfl rfl rfl rfl rfl ⟨rfl, rfl, rfl, rfl, rfl⟩ rfl rfl rfl rfl rfl (by kernel_rfl) Try.func4 (by kernel_rfl)
    (of_decide_eq_true (by kernel_rfl)) (by unfold Func.isWrapper; first | (rw [if_pos (by decide +kernel)]; kernel_rfl) | (rw [if_neg (by decide +kernel)]; exact ⟨rfl, rfl⟩))
    (fun os started H enc _ => lifted os started H enc)

/-- ████ THE STATEMENT ████ -/
theorem proved : Rows.FnIsNameJoinAtAnyCutSaid :=
  over
#print axioms proved
end Go.Proofs.Qxb6627532a.fnIsNameJoinAtAnyCut
