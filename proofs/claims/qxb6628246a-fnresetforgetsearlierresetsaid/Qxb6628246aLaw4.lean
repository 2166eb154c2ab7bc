/-
  The second law, walked whole.
-/
import Derived.Test.Qxb6628246aLaw3
namespace Go.Proofs.Qxb6628246a.Se
open Go.RowKit Go.Proofs.Qxb6628246a.Tm

theorem below_kept {B : Nat} {X : Nat → Prop} {w u v : World} (hB : Below B w u) (hk : Kept X u v) (hs : B ≤ u.heap.size) (hx : ∀ b, X b → B ≤ b) : Below B w v :=
  hB.trans ⟨hk.os, hk.tape, hk.output, hk.size, fun k hk' => hk.block k (by omega) (fun h => by have := hx k h; omega)⟩

set_option maxRecDepth 100000 in
set_option maxHeartbeats 8000000 in
theorem law4_any {X : Nat → Prop} (a : Option Addr) (lenA capA : Nat) (la : List Ses) (b : Option Addr) (lenB capB : Nat) (lb : List Ses) (nowA nowB start lo hi tick past lid server : Int) (w : World) (hA0 : SAt X w a lenA la) (hidA : ∀ s ∈ la, I64 s.id) (hB0 : SAt X w b lenB lb) (hidB : ∀ s ∈ lb, I64 s.id) :
    Calls Try.prog 4 #[.slice a lenA capA, .slice b lenB capB, .int .i64 nowA, .int .i64 nowB, .int .i64 start, .int .i64 lo, .int .i64 hi, .int .i64 tick, .int .i64 past, .int .i64 lid, .int .i64 server] w fun e w' => e = .returned (.bool true) ∧ Below w.heap.size w w' := by
  go_enter Try.func4, Try.ntmps4
  go_wp2_with fail
  refine (bytes16_any a lenA capA la b lenB capB lb _ _ _ _ _ _ _ _ _ w hA0 hB0).mono ?_
  rintro e w1 ⟨⟨r, rfl⟩, hw1⟩
  subst w1
  cases r
  · go_wp2
    go_ret
    exact ⟨rfl, Below.refl _ _⟩
  go_wp2_with fail
  refine (bytes6_any a lenA capA la _ w hA0).mono ?_
  rintro e w1 ⟨⟨tot, r, rfl, hsA⟩, hw1⟩
  subst w1
  cases r
  · go_wp2
    go_ret
    exact ⟨rfl, Below.refl _ _⟩
  replace hsA := hsA rfl
  go_wp2_with fail
  refine (bytes6_any b lenB capB lb _ w hB0).mono ?_
  rintro e w1 ⟨⟨tot2, r, rfl, hsB⟩, hw1⟩
  subst w1
  cases r
  · go_wp2
    go_ret
    exact ⟨rfl, Below.refl _ _⟩
  replace hsB := hsB rfl
  go_wp2_with fail
  cases hin : inB nowA
  · refine (in_any nowA w).mono ?_
    rintro e w1 ⟨rfl, hw1⟩
    subst w1
    rw [hin]
    go_wp2
    go_ret
    exact ⟨rfl, Below.refl _ _⟩
  refine (in_any nowA w).mono ?_
  rintro e w1 ⟨rfl, hw1⟩
  subst w1
  rw [hin]
  have hnA := inB_true hin
  clear hin
  go_wp2_with fail
  refine (tableOK_any _ _ _ _ _ _ w).mono ?_
  rintro e w1 ⟨⟨r, rfl, hok⟩, hw1⟩
  subst w1
  cases r
  · go_wp2
    go_ret
    exact ⟨rfl, Below.refl _ _⟩
  replace hok := hok rfl
  have hokA : TableOK nowA start lo hi tick past := ⟨hnA.1, hnA.2, hok.s0, hok.s1, hok.l0, hok.l1, hok.h0, hok.h1, hok.t0, hok.t1, hok.p0, hok.p1⟩
  go_wp2_with fail
  refine (copy_all a lenA capA la w hA0 hsA).mono ?_
  rintro e w1 ⟨a1, rfl, hS1, hB1⟩
  go_wp2_with fail
  refine (copy_all b lenB capB lb w1 (hB0.below hB1) hsB).mono ?_
  rintro e w2 ⟨b2, rfl, hT2, hB2⟩
  have z1 := hB1.size
  have z2 := hB2.size
  obtain ⟨p, hp⟩ : ∃ p : Par, p = ⟨lo, hi, start, tick, server, past⟩ := ⟨_, rfl⟩
  have e1 : p.lo = lo := by rw [hp]
  have e2 : p.hi = hi := by rw [hp]
  have e3 : p.start = start := by rw [hp]
  have e4 : p.tick = tick := by rw [hp]
  have e5 : p.server = server := by rw [hp]
  have e6 : p.past = past := by rw [hp]
  have hParB : ∀ s : Ses, ParOK p nowB (clamp s.made p.lo p.hi) := fun s => by rw [e1, e2, hp]; exact parOK hok s.made
  have hParA : ∀ s : Ses, ParOK p nowA (clamp s.made p.lo p.hi) := fun s => by rw [e1, e2, hp]; exact parOK hokA s.made
  have hNT := newTable_any p lid w2 (by rw [e3]; exact hok.s0) (by rw [e3]; exact hok.s1)
  rw [e1, e2, e3, e4, e5, e6] at hNT
  go_wp2_with fail
  refine hNT.mono ?_
  rintro e w3 ⟨Bt, L, D, H, rfl, hT3, hL3, hD3, hH3, hA, g1, g2, g3, g4, hB3⟩
  have z3 := hB3.size
  have lt1 := hT3.lt
  have lt2 := hL3.lt
  have lt3 := hD3.lt
  have lt4 : H < w3.heap.size := by obtain ⟨es, c, hh⟩ := hH3; exact (Array.getElem?_eq_some_iff.1 hh).1
  have hX : ∀ k, TX Bt L D H k → w2.heap.size ≤ k ∧ k < w3.heap.size := fun k h => by rcases h with h | h | h | h <;> omega
  have hSA3 : SAt (TX Bt L D H) w3 a1 lenA la := ((hS1.weaken (Y := TX Bt L D H) (fun k hk _ hx => by have := hX k hx; omega)).below hB2).below hB3
  have hSB3 : SAt (TX Bt L D H) w3 b2 lenB lb := (hT2.weaken (Y := TX Bt L D H) (fun k hk _ hx => by have := hX k hx; omega)).below hB3
  go_wp2_with fail
  refine (give_all a1 lenA lenA la w3 hSA3 hsA).mono ?_
  rintro e w4 ⟨a4, rfl, hG4, hB4⟩
  have z4 := hB4.size
  have hG4' : GAt (TX Bt L D H) w4 a4 lenA la := hG4.weaken (fun k _ hk hx => hk (hX k hx).2)
  go_wp2_with fail
  refine (time_any nowA w4 (by have := hnA.1; omega) (by have := hnA.2; omega)).mono ?_
  rintro e w5 ⟨rfl, hB5⟩
  have z5 := hB5.size
  have hB35 : Below w3.heap.size w3 w5 := hB4.trans (hB5.mono z4)
  have hH5 : ∃ es c, w5.heap[H]? = some (.map es c) := by obtain ⟨es, c, hh⟩ := hH3; exact ⟨es, c, (hB35.block H lt4).trans hh⟩
  have hG5 : GAt (TX Bt L D H) w5 a4 lenA la := hG4'.kept (Kept.of_below hB5)
  go_wp2_with fail
  refine (reset_any a4 lenA lenA la w5 (hT3.below hB35) (hL3.below hB35).isMap (hD3.below hB35).isMap hH5 hA ⟨by omega, by omega, by omega, by omega⟩ hG5 (fun s _ => hParA s) hidA hsA.1).mono ?_
  rintro e w6 ⟨rfl, es1, hR6, _⟩
  have z6 := hR6.kept.size
  have hSA6 : SAt (TX Bt L D H) w6 a1 lenA la := (hSA3.below hB35).kept hR6.kept
  have hSB6 : SAt (TX Bt L D H) w6 b2 lenB lb := (hSB3.below hB35).kept hR6.kept
  have HB6 : Hid (Below w.heap.size w w6) := below_kept ((((hB1.trans (hB2.mono z1)).trans (hB3.mono (by omega))).trans (hB35.mono (by omega)))) hR6.kept (by omega) (fun k hk => by have := hX k hk; omega)
  clear hB1 hB2 hB3 hB4 hB5 hB35 hG4 hG4' hG5 hH5 hSA3 hSB3 hT3 hL3 hD3 hH3 hNT hS1 hT2
  go_wp2_with fail
  refine (give_all b2 lenB lenB lb w6 hSB6 hsB).mono ?_
  rintro e w7 ⟨b7, rfl, hG7, hB7⟩
  have z7 := hB7.size
  have hG7' : GAt (TX Bt L D H) w7 b7 lenB lb := hG7.weaken (fun k _ hk hx => hk (by have := hX k hx; omega))
  go_wp2_with fail
  refine (time_any nowB w7 (by have := hok.n0; omega) (by have := hok.n1; omega)).mono ?_
  rintro e w8 ⟨rfl, hB8⟩
  have z8 := hB8.size
  have hB68 : Below w6.heap.size w6 w8 := hB7.trans (hB8.mono z7)
  have hR8 := hR6.below hB68
  have hL8 : ∃ es c, w8.heap[L]? = some (.map es c) := by obtain ⟨_, hh⟩ := hR8.live; exact hh.isMap
  have hD8 : ∃ es c, w8.heap[D]? = some (.map es c) := by obtain ⟨_, _, hh, _⟩ := hR8.due; exact hh.isMap
  have hH8 : ∃ es c, w8.heap[H]? = some (.map es c) := by obtain ⟨c, hh⟩ := hR8.heard; exact ⟨_, c, hh⟩
  have hT8 := hR8.tab
  rw [e5] at hT8
  go_wp2_with fail
  refine (reset_any b7 lenB lenB lb w8 hT8 hL8 hD8 hH8 hA ⟨by omega, by omega, by omega, by omega⟩ (hG7'.kept (Kept.of_below hB8)) (fun s _ => hParB s) hidB hsB.1).mono ?_
  rintro e w9 ⟨rfl, es, hR9, hes⟩
  have z9 := hR9.kept.size
  have hSA9 : SAt (TX Bt L D H) w9 a1 lenA la := (hSA6.below hB68).kept hR9.kept
  have hSB9 : SAt (TX Bt L D H) w9 b2 lenB lb := (hSB6.below hB68).kept hR9.kept
  have HB9 : Hid (Below w.heap.size w w9) := below_kept (HB6.out.trans (hB68.mono HB6.out.size)) hR9.kept (by have := HB6.out.size; omega) (fun k hk => by have := hX k hk; omega)
  clear HB6 hR6 hR8 hT8 hL8 hD8 hH8 hG7 hG7' hB7 hB8 hB68 hSA6 hSB6
  go_wp2_with fail
  refine (ticks_any b2 lenB lenB lb nowB start lo hi tick past w9 hSB9 hsB.1 hok).mono ?_
  rintro e w10 ⟨rfl, hZ10, hB10⟩
  have hR10 := hR9.below hB10
  obtain ⟨ksL, ksD, ksI, ib, hC⟩ := Chk.of hR10 hes
  have hzz : lb.map (tickOf nowB start lo hi tick past) = lb.map (fun s => (upd p nowB s).exp) := List.map_congr_left (fun s _ => by unfold tickOf upd; simp only [e1, e2, e3, e4, e6])
  rw [hzz] at hZ10
  have hCk := check_any (X := fun _ => False) b2 (some ⟨w9.heap.size, 0, none⟩) lenB lenB lenB lb w10 hC ((hSB9.below hB10).weaken (fun _ _ _ h => h)) (hZ10.weaken (fun _ _ _ h => h)) hsB.1 hidB (fun s _ => exp_i64 (hParB s))
  rw [e1, e2, e5, e6] at hCk
  have HCk : Hid _ := hCk
  have HL1 := lastID_any a1 lenA lenA la lid server w10 (hSA9.below hB10)
  have HL2 := lastID_any b2 lenB lenB lb (lastId server lid la) server w10 (hSB9.below hB10)
  have HB10 : Hid (Below w.heap.size w w10) := HB9.out.trans (hB10.mono HB9.out.size)
  clear hCk hR9 hR10 hes hC hSA9 hSB9 hZ10 hB10 HB9 hzz
  go_wp2_with fail
  refine HL1.mono ?_
  rintro e w11 ⟨rfl, hw11⟩
  subst w11
  go_wp2_with fail
  refine HL2.mono ?_
  rintro e w11 ⟨rfl, hw11⟩
  subst w11
  go_wp2_with fail
  refine Calls.mono HCk.out ?_
  rintro e w11 ⟨rfl, hB11⟩
  have HB11 : Hid (Below w.heap.size w w11) := HB10.out.trans (hB11.mono HB10.out.size)
  clear hB11 HB10 HCk HL1 HL2
  go_wp2
  go_ret
  exact ⟨rfl, HB11.out⟩

end Go.Proofs.Qxb6628246a.Se
