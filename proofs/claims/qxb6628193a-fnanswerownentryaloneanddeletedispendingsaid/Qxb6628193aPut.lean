/-
  FnAnswerAfterPut, walked.
-/
import Derived.Test.Qxb6628193aBuild
namespace Go.Proofs.Qxb6628193a.Rf
open Go.RowKit

/-- The table after k rounds at a code: nothing, or the entry at the code's last place. -/
theorem tab_last (ks ms ss : List ByteArray) (code : ByteArray) : ∀ k : Nat,
    (lastTo ks code k = -1 ∧ tabTo ks ms ss k code = none) ∨ ∃ i : Nat, lastTo ks code k = (i : Int) ∧ tabTo ks ms ss k code = some (at' ms i, at' ss i)
  | 0 => .inl ⟨rfl, rfl⟩
  | k + 1 => by
    by_cases h : ks.getD k ByteArray.empty = code
    · refine .inr ⟨k, ?_, ?_⟩
      · simp only [lastTo, h, if_true]
      · subst h
        simp [tabTo]
    · have h' : ¬ code = ks.getD k ByteArray.empty := fun e => h e.symm
      have e1 : lastTo ks code (k + 1) = lastTo ks code k := by simp only [lastTo, h, if_false]
      have e2 : tabTo ks ms ss (k + 1) code = tabTo ks ms ss k code := by simp only [tabTo, h', if_false]
      rw [e1, e2]
      exact tab_last ks ms ss code k

/-- The state that the law wants: of the code's last entry, or pending. -/
def wanted (ks ss : List ByteArray) (code : ByteArray) (k : Nat) : ByteArray := if 0 ≤ lastTo ks code k then at' ss (lastTo ks code k) else pending

theorem state_wanted (ks ms ss : List ByteArray) (code : ByteArray) (k : Nat) : state (tabTo ks ms ss k) code = wanted ks ss code k := by
  rcases tab_last ks ms ss code k with ⟨h1, h2⟩ | ⟨i, h1, h2⟩
  · simp [state, wanted, h1, h2]
  · simp [state, wanted, h1, h2]

theorem kept {W w1 : World} {v : Value} {b o : Nat} (hb : Below W.heap.size W w1) (h : W.cell? ⟨b, o, none⟩ = some v) (hlt : b < W.heap.size) : w1.cell? ⟨b, o, none⟩ = some v := by
  rw [hb.cell (p := ⟨b, o, none⟩) hlt]; exact h

set_option maxHeartbeats 2000000 in
theorem put_walk (a0 : Option Addr) (len0 cap0 : Nat) (ss0 : List ByteArray) (a1 : Option Addr) (len1 cap1 : Nat) (ss1 : List ByteArray) (a2 : Option Addr) (len2 cap2 : Nat) (ss2 : List ByteArray)
    (key msg st code : ByteArray) (w : World) (h0 : Lies w a0 len0 ss0) (h1 : Lies w a1 len1 ss1) (h2 : Lies w a2 len2 ss2)
    (w3 : key.size ≤ maxLen) (w6 : code.size ≤ maxLen) :
    Calls Try.prog 3 #[.slice a0 len0 cap0, .slice a1 len1 cap1, .slice a2 len2 cap2, .string key, .string msg, .string st, .string code] w fun e w' => e = .returned (.bool true) ∧ Below w.heap.size w w' := by
  by_cases hbig : 1048576 < len0
  · go_enter Try.func3, Try.ntmps3
    go_wp2_with fail
    refine (bytes5_no a0 len0 cap0 a1 len1 cap1 a2 len2 cap2 key msg st code _ hbig h0.le).mono ?_
    rintro e w' ⟨rfl, rfl⟩
    go_wp2
    go_ret
    exact ⟨rfl, Below.refl _ _⟩
  · have hsm : len0 ≤ 1048576 := by omega
    clear hbig
    go_enter Try.func3, Try.ntmps3
    go_wp2_with fail
    refine (bytes5_any a0 len0 cap0 ss0 a1 len1 cap1 ss1 a2 len2 cap2 ss2 key msg st code _ h0 h1 h2).mono ?_
    rintro e w' ⟨⟨r, rfl⟩, rfl⟩
    cases r
    · go_wp2
      go_ret
      exact ⟨rfl, Below.refl _ _⟩
    · go_wp2_with fail
      refine (small_any a0 len0 cap0 ss0 a1 len1 cap1 ss1 a2 len2 cap2 ss2 key msg st code _ h0 h1 h2).mono ?_
      rintro e w' ⟨⟨r, rfl⟩, rfl⟩
      cases r
      · go_wp2
        go_ret
        exact ⟨rfl, Below.refl _ _⟩
      · go_wp2_with fail
        refine (build_any a0 len0 cap0 ss0 a1 len1 cap1 ss1 a2 len2 cap2 ss2 _ h0 h1 h2 hsm).mono ?_
        rintro e wA ⟨rfl, hTA, hBA⟩
        go_wp2_with fail
        refine (answer_any _ _ _ code _ hTA w6).mono ?_
        rintro e wB ⟨rfl, hBB⟩
        rw [state_wanted]
        obtain ⟨want, HW⟩ : ∃ x, Hid (wanted ss0 ss2 code len0 = x) := ⟨_, rfl⟩
        rw [HW.out]
        go_wp2_with fail
        have hle0 := hBA.size
        have hle1 := hBB.size
        obtain ⟨W2, hW2⟩ : ∃ x, x = wB.alloc (.cells #[.string want, .string code] 29) := ⟨_, rfl⟩
        have hb2 : Below wB.heap.size wB W2 := by rw [hW2]; exact (Below.refl _ _).alloc (Nat.le_refl _) _
        have hs2 : wB.heap.size < W2.heap.size := by rw [hW2]; simp
        have cb0 : W2.cell? ⟨wB.heap.size, 0, none⟩ = some (.string want) := by rw [hW2]; simp
        have cb1 : W2.cell? ⟨wB.heap.size, 1, none⟩ = some (.string code) := by rw [hW2]; simp
        have hBW2 : Below w'.heap.size w' W2 := (hBA.trans (hBB.mono hle0)).trans (hb2.mono (by omega))
        rw [← hW2]
        clear hW2 hb2 hTA
        refine (build_any a0 len0 cap0 ss0 a1 len1 cap1 ss1 a2 len2 cap2 ss2 _ (h0.below hBW2) (h1.below hBW2) (h2.below hBW2) hsm).mono ?_
        rintro e wC ⟨rfl, hTC, hBC⟩
        obtain ⟨wD, hupd, hTD, hgD⟩ := hTC.put (by unfold maxLen; omega) w3 msg st
        have hBD : Below W2.heap.size W2 wD := hBC.grown hgD hBC.size (fun j hj => by cases hj; exact Nat.le_refl _)
        clear hgD hTC
        go_wp2_with fail
        refine (answer_any _ _ _ code _ hTD w6).mono ?_
        rintro e wE ⟨rfl, hBE⟩
        have hBE2 : Below W2.heap.size W2 wE := hBD.trans (hBE.mono hBD.size)
        have cb0' := kept hBE2 cb0 (by omega)
        have cb1' := kept hBE2 cb1 (by omega)
        have hs3 := hBE2.size
        have hlE : wB.heap.size < wE.heap.size := by omega
        have hBW3 : Below w'.heap.size w' wE := hBW2.trans (hBE2.mono hBW2.size)
        clear hupd hTD hBD hBE hBC hBE2 cb0 cb1
        obtain ⟨sa, HA⟩ : ∃ x, Hid (state (fun x => if x = key then some (msg, st) else tabTo ss0 ss1 ss2 len0 x) code = x) := ⟨_, rfl⟩
        rw [HA.out]
        go_wp2_with fail
        obtain ⟨W3, hW3⟩ : ∃ x, x = wE.alloc (.cells #[.string sa, .string code] 29) := ⟨_, rfl⟩
        have hb3 : Below wE.heap.size wE W3 := by rw [hW3]; exact (Below.refl _ _).alloc (Nat.le_refl _) _
        have ca0 : W3.cell? ⟨wE.heap.size, 0, none⟩ = some (.string sa) := by rw [hW3]; simp
        have ca1 : W3.cell? ⟨wE.heap.size, 1, none⟩ = some (.string code) := by rw [hW3]; simp
        have cb0 := kept hb3 cb0' hlE
        have cb1 := kept hb3 cb1' hlE
        have hBW : Below w'.heap.size w' W3 := hBW3.trans (hb3.mono (by omega))
        rw [← hW3]
        clear hW3 hb3 cb0' cb1' hBW3
        have l0 := h0.below hBW
        have l2 := h2.below hBW
        clear h0 h1 h2 hBA hBB hBW2
        refine (last_any a0 len0 cap0 ss0 code _ l0).mono ?_
        rintro e wL ⟨rfl, rfl⟩
        obtain ⟨i, HI⟩ : ∃ x, Hid (lastTo ss0 code len0 = x) := ⟨_, rfl⟩
        rw [HI.out]
        have hself : (code.toList == code.toList) = true := by simp
        have hselfw : (want.toList == want.toList) = true := by simp
        by_cases hi : 0 ≤ i
        · have HW' : Hid (at' ss2 i = want) := by
            show _ = _
            rw [← HW.out, ← HI.out]
            unfold wanted
            rw [if_pos (by rw [HI.out]; exact hi)]
          go_wp2_with fail
          refine (at_any a2 len2 cap2 ss2 i _ l2).mono ?_
          rintro e wM ⟨rfl, rfl⟩
          rw [HW'.out]
          by_cases hk : code = key
          · have HA' : Hid (sa = st) := by
              show _ = _
              rw [← HA.out]
              simp [state, hk]
            obtain rfl : sa = st := HA'.out
            have hke : (code.toList == key.toList) = true := by rw [hk]; simp
            clear hk
            go_wp2
            go_ret
            exact ⟨ret_bool (by simp), hBW⟩
          · have HA' : Hid (sa = want) := by
              show _ = _
              rw [← HA.out, ← HW.out, ← state_wanted ss0 ss1 ss2]
              simp [state, hk]
            obtain rfl : sa = want := HA'.out
            have hke := toList_ne hk
            clear hk
            go_wp2
            go_ret
            exact ⟨ret_bool (by simp), hBW⟩
        · have HW' : Hid (want = ⟨#[112, 101, 110, 100, 105, 110, 103]⟩) := by
            show _ = _
            rw [← HW.out]
            unfold wanted
            rw [if_neg (by rw [HI.out]; exact hi)]
            rfl
          obtain ⟨pd, hpd⟩ : ∃ x : ByteArray, x = ⟨#[112, 101, 110, 100, 105, 110, 103]⟩ := ⟨_, rfl⟩
          obtain rfl : want = pd := by rw [hpd]; exact HW'.out
          rw [← hpd]
          have Hpd : Hid (want = ⟨#[112, 101, 110, 100, 105, 110, 103]⟩) := hpd
          clear hpd
          by_cases hk : code = key
          · have HA' : Hid (sa = st) := by
              show _ = _
              rw [← HA.out]
              simp [state, hk]
            obtain rfl : sa = st := HA'.out
            have hke : (code.toList == key.toList) = true := by rw [hk]; simp
            clear hk
            go_wp2
            go_ret
            exact ⟨ret_bool (by simp), hBW⟩
          · have HA' : Hid (sa = want) := by
              show _ = _
              rw [← HA.out, ← HW.out, ← state_wanted ss0 ss1 ss2]
              simp [state, hk]
            obtain rfl : sa = want := HA'.out
            have hke := toList_ne hk
            clear hk
            go_wp2
            go_ret
            exact ⟨ret_bool (by simp), hBW⟩

end Go.Proofs.Qxb6628193a.Rf
