/-
  FnAnswerOwnEntryAloneAndDeletedIsPending, walked.
-/
import Derived.Test.Qxb6628193aPut
namespace Go.Proofs.Qxb6628193a.Rf
open Go.RowKit

set_option maxHeartbeats 2000000 in
theorem alone_walk (a0 : Option Addr) (len0 cap0 : Nat) (ss0 : List ByteArray) (a1 : Option Addr) (len1 cap1 : Nat) (ss1 : List ByteArray) (a2 : Option Addr) (len2 cap2 : Nat) (ss2 : List ByteArray)
    (code : ByteArray) (w : World) (h0 : Lies w a0 len0 ss0) (h1 : Lies w a1 len1 ss1) (h2 : Lies w a2 len2 ss2) (w3 : code.size ≤ maxLen) :
    Calls Try.prog 4 #[.slice a0 len0 cap0, .slice a1 len1 cap1, .slice a2 len2 cap2, .string code] w fun e w' => e = .returned (.bool true) ∧ Below w.heap.size w w' := by
  by_cases hbig : 1048576 < len0
  · go_enter Try.func4, Try.ntmps4
    go_wp2_with fail
    refine (bytes11_no a0 len0 cap0 a1 len1 cap1 a2 len2 cap2 code _ hbig h0.le).mono ?_
    rintro e w' ⟨rfl, rfl⟩
    go_wp2
    go_ret
    exact ⟨rfl, Below.refl _ _⟩
  · have hsm : len0 ≤ 1048576 := by omega
    clear hbig
    have hmm := @run_makeMap Try.prog
    go_enter Try.func4, Try.ntmps4
    go_wp2_with fail
    refine (bytes11_any a0 len0 cap0 ss0 a1 len1 cap1 ss1 a2 len2 cap2 ss2 code _ h0 h1 h2).mono ?_
    rintro e w' ⟨⟨r, rfl⟩, rfl⟩
    cases r
    · go_wp2
      go_ret
      exact ⟨rfl, Below.refl _ _⟩
    · go_wp2_with fail
      refine (small_any a0 len0 cap0 ss0 a1 len1 cap1 ss1 a2 len2 cap2 ss2 code _ _ _ _ h0 h1 h2).mono ?_
      rintro e w' ⟨⟨r, rfl⟩, rfl⟩
      cases r
      · go_wp2
        go_ret
        exact ⟨rfl, Below.refl _ _⟩
      · go_wp2_with fail
        refine (build_any a0 len0 cap0 ss0 a1 len1 cap1 ss1 a2 len2 cap2 ss2 _ h0 h1 h2 hsm).mono ?_
        rintro e wA ⟨rfl, hTA, hBA⟩
        go_wp2_with fail
        have hTA0 := hTA.lt
        refine (answer_any _ _ _ code _ hTA w3).mono ?_
        rintro e wB ⟨rfl, hBB⟩
        rw [state_wanted]
        obtain ⟨want, HW⟩ : ∃ x, Hid (wanted ss0 ss2 code len0 = x) := ⟨_, rfl⟩
        rw [HW.out]
        go_wp2_with fail
        have hle0 := hBA.size
        have hle1 := hBB.size
        obtain ⟨W2, hW2⟩ : ∃ x, x = (wB.alloc (.cells #[.string want, .string code] 29)).alloc (.map #[] 0) := ⟨_, rfl⟩
        have hb2 : Below wB.heap.size wB W2 := by rw [hW2]; exact ((Below.refl _ _).alloc (Nat.le_refl _) _).alloc (by simp) _
        have hs2 : wB.heap.size + 1 < W2.heap.size := by rw [hW2]; simp
        have cb0 : W2.cell? ⟨wB.heap.size, 0, none⟩ = some (.string want) := by rw [hW2]; simp
        have cb1 : W2.cell? ⟨wB.heap.size, 1, none⟩ = some (.string code) := by rw [hW2]; simp
        have hTO : Tab W2 (wB.heap.size + 1) 0 (fun _ => none) := by
          have := Tab.made (wB.alloc (.cells #[.string want, .string code] 29))
          rw [hW2]
          simpa using this
        have hTC : Tab W2 w'.heap.size len0 (tabTo ss0 ss1 ss2 len0) := (hTA.below hBB).below hb2
        have hBW : Below w'.heap.size w' W2 := (hBA.trans (hBB.mono hle0)).trans (hb2.mono (by omega))
        rw [← hW2]
        clear hW2 hb2 hTA
        have l0 := h0.below hBW
        have l2 := h2.below hBW
        have hcl := hTC.lt
        have hltc : w'.heap.size < wB.heap.size := by
          have : w'.heap.size < wA.heap.size := hTA0
          omega
        clear h0 h1 h2 hBA hBB
        refine (last_any a0 len0 cap0 ss0 code _ l0).mono ?_
        rintro e wL ⟨rfl, rfl⟩
        obtain ⟨i, HI⟩ : ∃ x, Hid (lastTo ss0 code len0 = x) := ⟨_, rfl⟩
        rw [HI.out]
        have hself : (code.toList == code.toList) = true := by simp
        have hselfw : (want.toList == want.toList) = true := by simp
        by_cases hi : 0 ≤ i
        · have HW' : Hid (at' ss2 i = want) := by
            show _ = _
            rw [← HW.out, ← HI.out]
            unfold wanted
            rw [if_pos (by rw [HI.out]; exact hi)]
          go_wp2_with fail
          refine (at_any a2 len2 cap2 ss2 i _ l2).mono ?_
          rintro e wM ⟨rfl, rfl⟩
          rw [HW'.out]
          obtain ⟨wD, hupd, hTD, hgD⟩ := hTO.put (by decide) w3 ⟨#[]⟩ want
          have hTC' := hTC.block (hgD.block w'.heap.size hcl (by simp; omega))
          have cb0' : wD.cell? ⟨wB.heap.size, 0, none⟩ = some (.string want) := by rw [World.cell?_of_block (w := wM) (hgD.block wB.heap.size (by omega) (by simp))]; exact cb0
          have cb1' : wD.cell? ⟨wB.heap.size, 1, none⟩ = some (.string code) := by rw [World.cell?_of_block (w := wM) (hgD.block wB.heap.size (by omega) (by simp))]; exact cb1
          have hBD : Below w'.heap.size w' wD := hBW.grown hgD hBW.size (fun j hj => by cases hj; omega)
          have hsD := hgD.size
          have HG : Hid (state (fun x => if x = code then some (⟨#[]⟩, want) else none) code = want) := by show _ = _; simp [state]
          clear hgD hTO hTC cb0 cb1 hBW
          go_wp2_with fail
          clear hupd
          refine (answer_any _ _ _ code _ hTD w3).mono ?_
          rintro e wE ⟨rfl, hBE⟩
          rw [HG.out]
          have hsE := hBE.size
          have hTE := hTC'.below hBE
          have cbE0 := kept hBE cb0' (by omega)
          have cbE1 := kept hBE cb1' (by omega)
          have hBW : Below w'.heap.size w' wE := hBD.trans (hBE.mono (by omega))
          clear hTC' cb0' cb1' hBD hBE hTD
          obtain ⟨wF, hdel, hTF, hgF⟩ := (hTE.below ((Below.refl _ _).alloc (Nat.le_refl _) (.cells #[.string want, .string code] 29))).del w3 0
          have hsF : wE.heap.size < wF.heap.size := by have := hgF.size; simp at this; omega
          have cf0 : wF.cell? ⟨wB.heap.size, 0, none⟩ = some (.string want) := by
            rw [World.cell?_of_block (w := wE.alloc (.cells #[.string want, .string code] 29)) (hgF.block wB.heap.size (by simp; omega) (by simp; omega))]
            exact kept ((Below.refl _ _).alloc (Nat.le_refl _) _) cbE0 (by omega)
          have cf1 : wF.cell? ⟨wB.heap.size, 1, none⟩ = some (.string code) := by
            rw [World.cell?_of_block (w := wE.alloc (.cells #[.string want, .string code] 29)) (hgF.block wB.heap.size (by simp; omega) (by simp; omega))]
            exact kept ((Below.refl _ _).alloc (Nat.le_refl _) _) cbE1 (by omega)
          have cg0 : wF.cell? ⟨wE.heap.size, 0, none⟩ = some (.string want) := by
            rw [World.cell?_of_block (w := wE.alloc (.cells #[.string want, .string code] 29)) (hgF.block wE.heap.size (by simp) (by simp; omega))]
            simp
          have cg1 : wF.cell? ⟨wE.heap.size, 1, none⟩ = some (.string code) := by
            rw [World.cell?_of_block (w := wE.alloc (.cells #[.string want, .string code] 29)) (hgF.block wE.heap.size (by simp) (by simp; omega))]
            simp
          have hBF : Below w'.heap.size w' wF := (hBW.alloc hBW.size _).grown hgF (by simp; omega) (fun j hj => by cases hj; exact Nat.le_refl _)
          have HP : Hid (state (fun x => if x = code then none else tabTo ss0 ss1 ss2 len0 x) code = pending) := by show _ = _; simp [state]
          clear hgF hTE cbE0 cbE1 hBW
          go_wp2_with fail
          clear hdel
          refine (answer_any _ _ _ code _ hTF w3).mono ?_
          rintro e wG ⟨rfl, hBG⟩
          rw [HP.out]
          have hsG := hBG.size
          have ch0 := kept hBG cf0 (by omega)
          have ch1 := kept hBG cf1 (by omega)
          have ci0 := kept hBG cg0 (by omega)
          have ci1 := kept hBG cg1 (by omega)
          have hlg : wE.heap.size < wG.heap.size := by omega
          have hlb : wB.heap.size < wG.heap.size := by omega
          have hBW : Below w'.heap.size w' wG := hBF.trans (hBG.mono (by omega))
          have hpp : (pending.toList == [112, 101, 110, 100, 105, 110, 103]) = true := by decide +kernel
          clear hTF cf0 cf1 cg0 cg1 hBF hBG
          go_wp2
          go_ret
          exact ⟨ret_bool (by simp), hBW.alloc (by omega) _⟩
        · have HW' : Hid (want = ⟨#[112, 101, 110, 100, 105, 110, 103]⟩) := by
            show _ = _
            rw [← HW.out]
            unfold wanted
            rw [if_neg (by rw [HI.out]; exact hi)]
            rfl
          obtain ⟨pd, hpd⟩ : ∃ x : ByteArray, x = ⟨#[112, 101, 110, 100, 105, 110, 103]⟩ := ⟨_, rfl⟩
          obtain rfl : want = pd := by rw [hpd]; exact HW'.out
          rw [← hpd]
          have Hpd : Hid (want = ⟨#[112, 101, 110, 100, 105, 110, 103]⟩) := hpd
          clear hpd
          have hTC' := hTC
          have cb0' := cb0
          have cb1' := cb1
          have hBD := hBW
          have HG : Hid (state (fun _ => none) code = want) := by show _ = _; rw [Hpd.out]; rfl
          clear hTC cb0 cb1 hBW
          go_wp2_with fail
          refine (answer_any _ _ _ code _ hTO w3).mono ?_
          rintro e wE ⟨rfl, hBE⟩
          have hTD := hTO
          clear hTO
          rw [HG.out]
          have hsE := hBE.size
          have hTE := hTC'.below hBE
          have cbE0 := kept hBE cb0' (by omega)
          have cbE1 := kept hBE cb1' (by omega)
          have hBW : Below w'.heap.size w' wE := hBD.trans (hBE.mono (by omega))
          clear hTC' cb0' cb1' hBD hBE hTD
          obtain ⟨wF, hdel, hTF, hgF⟩ := (hTE.below ((Below.refl _ _).alloc (Nat.le_refl _) (.cells #[.string want, .string code] 29))).del w3 0
          have hsF : wE.heap.size < wF.heap.size := by have := hgF.size; simp at this; omega
          have cf0 : wF.cell? ⟨wB.heap.size, 0, none⟩ = some (.string want) := by
            rw [World.cell?_of_block (w := wE.alloc (.cells #[.string want, .string code] 29)) (hgF.block wB.heap.size (by simp; omega) (by simp; omega))]
            exact kept ((Below.refl _ _).alloc (Nat.le_refl _) _) cbE0 (by omega)
          have cf1 : wF.cell? ⟨wB.heap.size, 1, none⟩ = some (.string code) := by
            rw [World.cell?_of_block (w := wE.alloc (.cells #[.string want, .string code] 29)) (hgF.block wB.heap.size (by simp; omega) (by simp; omega))]
            exact kept ((Below.refl _ _).alloc (Nat.le_refl _) _) cbE1 (by omega)
          have cg0 : wF.cell? ⟨wE.heap.size, 0, none⟩ = some (.string want) := by
            rw [World.cell?_of_block (w := wE.alloc (.cells #[.string want, .string code] 29)) (hgF.block wE.heap.size (by simp) (by simp; omega))]
            simp
          have cg1 : wF.cell? ⟨wE.heap.size, 1, none⟩ = some (.string code) := by
            rw [World.cell?_of_block (w := wE.alloc (.cells #[.string want, .string code] 29)) (hgF.block wE.heap.size (by simp) (by simp; omega))]
            simp
          have hBF : Below w'.heap.size w' wF := (hBW.alloc hBW.size _).grown hgF (by simp; omega) (fun j hj => by cases hj; exact Nat.le_refl _)
          have HP : Hid (state (fun x => if x = code then none else tabTo ss0 ss1 ss2 len0 x) code = pending) := by show _ = _; simp [state]
          clear hgF hTE cbE0 cbE1 hBW
          go_wp2_with fail
          clear hdel
          refine (answer_any _ _ _ code _ hTF w3).mono ?_
          rintro e wG ⟨rfl, hBG⟩
          rw [HP.out]
          have hsG := hBG.size
          have ch0 := kept hBG cf0 (by omega)
          have ch1 := kept hBG cf1 (by omega)
          have ci0 := kept hBG cg0 (by omega)
          have ci1 := kept hBG cg1 (by omega)
          have hlg : wE.heap.size < wG.heap.size := by omega
          have hlb : wB.heap.size < wG.heap.size := by omega
          have hBW : Below w'.heap.size w' wG := hBF.trans (hBG.mono (by omega))
          have hpp : (pending.toList == [112, 101, 110, 100, 105, 110, 103]) = true := by decide +kernel
          clear hTF cf0 cf1 cg0 cg1 hBF hBG
          go_wp2
          go_ret
          exact ⟨ret_bool (by simp), hBW.alloc (by omega) _⟩

end Go.Proofs.Qxb6628193a.Rf
