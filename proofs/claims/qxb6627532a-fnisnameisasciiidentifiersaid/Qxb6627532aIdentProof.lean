/-
  The proof of 'Rows.FnIsNameIsAsciiIdentifierSaid'. The frame (lifted, over, proved) was written by the kit's tool for this program; the walk is ours.
-/
import Derived.Test.Qxb6627532aRows
import Derived.Test.Qxb6627532aName
import Derived.WalkKit
import Derived.ProofKit
import Derived.OpenShut
import Derived.ShutString
namespace Go.Proofs.Qxb6627532a.fnIsNameIsAsciiIdentifier
open Go.ChangeShapes Go.WideShapes Go.ChangeAt Go.RowKit
open Go.ChangeMaps (open_string shut_string)
set_option linter.unusedVariables false      -- a walk need not use every 'w<i>' (that an integer argument fits its kind)

theorem own : ownKnob Try.prog.godebug = none := by kernel_rfl

/-! ### THE WALK -/
theorem bytes_yes (s : ByteArray) (h : s.size ≤ 1048576) (w : World) :
    Calls Try.prog 5 #[.string s] w fun e w' => e = .returned (.bool true) ∧ w' = w := by
  go_enter Try.func5, Try.ntmps5
  go_wp2
  go_ret
  exact ⟨rfl, rfl⟩

theorem bytes_no (s : ByteArray) (h : 1048576 < s.size) (hs : s.size ≤ maxLen) (w : World) :
    Calls Try.prog 5 #[.string s] w fun e w' => e = .returned (.bool false) ∧ w' = w := by
  unfold maxLen at hs
  go_enter Try.func5, Try.ntmps5
  go_wp2
  go_ret
  exact ⟨rfl, rfl⟩

theorem walk (a0 : ByteArray) (w0 : a0.size ≤ maxLen) (w : World) :
    Calls Try.prog 3 #[.string a0] w fun e w' => e = .returned (.bool true) ∧ Grown w w' := by
  by_cases hbig : 1048576 < a0.size
  · go_enter Try.func3, Try.ntmps3
    go_wp2_with (go_at_call 5; refine (bytes_no _ hbig w0 _).mono ?_; rintro e w' ⟨rfl, rfl⟩)
    go_ret
    exact ⟨rfl, Grown.refl _⟩
  · have hsm : a0.size ≤ 1048576 := by omega
    by_cases hz : a0.size = 0
    · have hl : a0.data.toList = [] := by apply List.eq_nil_of_length_eq_zero; simpa using hz
      have HN : Hid (Nm.isName a0.data.toList = false) := by show _ = _; rw [hl]; rfl
      clear hl
      have hz1 : ¬ (0 : Int) < (a0.size : Int) := by omega
      go_enter Try.func3, Try.ntmps3
      go_wp2_with (first
        | (go_at_call 5; refine (bytes_yes _ hsm _).mono ?_; rintro e w' ⟨rfl, rfl⟩)
        | (go_at_call 8; refine (Nm.isName_any _ _ w0).mono ?_; rintro e w' ⟨rfl, hg⟩; rw [HN.out]))
      go_ret
      exact ⟨rfl, hg⟩
    · have hz1 : (0 : Int) < (a0.size : Int) := by omega
      have h0 : 0 < a0.size := by omega
      have hb : (a0[0].toNat : Int) ≤ 255 := by have := a0[0].toNat_lt; omega
      have hl : 0 < a0.data.toList.length := by simpa using h0
      have hget : a0.data.toList[0] = a0[0] := rfl
      cases hh : Nm.headB (a0[0].toNat : Int)
      · have HN : Hid (Nm.isName a0.data.toList = false) := Nm.isName_false_of_head hl (by rw [hget]; exact hh)
        clear hget
        go_enter Try.func3, Try.ntmps3
        go_wp2_with (first
          | (go_at_call 5; refine (bytes_yes _ hsm _).mono ?_; rintro e w' ⟨rfl, rfl⟩)
          | (go_at_call 6; refine (Nm.head_any _ (by omega) hb _).mono ?_; rintro e w' ⟨rfl, rfl⟩; rw [hh])
          | (go_at_call 8; refine (Nm.isName_any _ _ w0).mono ?_; rintro e w' ⟨rfl, hg⟩; rw [HN.out]))
        go_ret
        exact ⟨rfl, hg⟩
      · have HN : Hid (Nm.isName a0.data.toList = Nm.allTail a0.data.toList) := by
          show _ = _
          cases ha : Nm.allTail a0.data.toList
          · exact Nm.isName_false_of_tail ha
          · exact Nm.isName_true hl (by rw [hget]; exact hh) ha
        clear hget
        go_enter Try.func3, Try.ntmps3
        go_wp2_with (first
          | (go_at_call 5; refine (bytes_yes _ hsm _).mono ?_; rintro e w' ⟨rfl, rfl⟩)
          | (go_at_call 6; refine (Nm.head_any _ (by omega) hb _).mono ?_; rintro e w' ⟨rfl, rfl⟩; rw [hh])
          | (go_at_call 7; refine (Nm.allTail_any _ _ w0).mono ?_; rintro e w' ⟨rfl, rfl⟩; generalize Nm.allTail a0.data.toList = t at HN)
          | (go_at_call 8; refine (Nm.isName_any _ _ w0).mono ?_; rintro e w' ⟨rfl, hg⟩; rw [HN.out]))
        go_ret
        exact ⟨Nm.ret_bool (by simp), hg⟩

/-! ### THE ROW's STEP: WRITTEN OUT: LEAVE IT -/
set_option maxRecDepth 100000 in
theorem lifted (os : Os) (started : os.Started) (H : Type) (enc : TypeId × Value → H) :
    ReturnsInHanded {} Try.checked os 3 .any (Rows.fnIsNameIsAsciiIdentifierSpec.pre6 enc Try.prog Try.f3 Rows.fnIsNameIsAsciiIdentifierRow.domain false) (Rows.fnIsNameIsAsciiIdentifierSpec.post enc Try.prog Try.f3 false true false false) := by
  refine returnsInHanded_of_change (C := Try.checked) own started (by kernel_rfl) Try.func3
    (ChangeSpec.witness6 (enc := enc) (C := Try.checked) false ⟨#[], #[.string ByteArray.empty], []⟩ 8 (by kernel_rfl) (by kernel_rfl) (by kernel_rfl) (by kernel_rfl)) ?_
  intro W base args ds gs before hval0 hW hcnd _
  have hval : ∀ (j : Nat) t v, Try.f3.params[j]? = some t → args[j]? = some v → Value.okWide Try.prog W .any base t v := hval0
  have hW' := hW
  obtain ⟨p, q, hA0, hV, rfl, hfz, hnd⟩ := hW
  have hA : DataW.TrodAll enc Try.prog W 0 (fun _ => true) true Try.f3.params.toList args.toList ds p := hA0
  rw [Try.params3] at hA hval
  obtain ⟨v0, vs0, d0, ds0, p0, q0, hargs, rfl, rfl, h0, r0⟩ := trodAll_cons hA
  obtain ⟨rfl, rfl, rfl⟩ := trodAll_nil r0
  obtain rfl : args = #[v0] := by cases args; simp_all
  obtain ⟨rfl, rfl⟩ := trodVars_none hV
  obtain ⟨a0, rfl, rfl, rfl, w0⟩ := open_string Try.underlying9 (hval 0 9 v0 rfl rfl) h0
  clear hA0 hval0
  simp only [List.append_nil] at hW'
  refine (walk a0 w0 W).mono fun e W' ⟨he, hg⟩ => ?_
  subst he
  exact ⟨_, rfl, post_of_same (pa := []) (pv := []) hW' (fun _ _ _ => (trodAll_cons_mk (shut_bool Try.underlying4 _) trodAll_mk0)) (fun sp _ => (trodAll_cons_mk (shut_string Try.underlying9 w0) trodAll_mk0)) (fun _ _ => rfl) rfl
    (hg.frame _) hg.2.1 (ok_one (by kernel_rfl) rfl (okWide_bool_mk Try.underlying4 _))⟩

theorem over : Rows.fnIsNameIsAsciiIdentifierRow.holds Try.pinned (OpenSpec.ofChange Rows.fnIsNameIsAsciiIdentifierSpec) :=
  OpenClaim.holds_of_wide 3 Try.f3 rfl rfl rfl rfl rfl rfl rfl ⟨rfl, rfl, rfl, rfl, rfl⟩ rfl rfl rfl rfl rfl (by kernel_rfl) Try.func3 (by kernel_rfl)
    (of_decide_eq_true (by kernel_rfl)) (by unfold Func.isWrapper; first | (rw [if_pos (by decide +kernel)]; kernel_rfl) | (rw [if_neg (by decide +kernel)]; exact ⟨rfl, rfl⟩))
    (fun os started H enc _ => lifted os started H enc)

/-- ████ THE STATEMENT ████ -/
theorem proved : Rows.FnIsNameIsAsciiIdentifierSaid :=
  over
#print axioms proved
end Go.Proofs.Qxb6627532a.fnIsNameIsAsciiIdentifier
