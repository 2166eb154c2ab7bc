/-
  The first law, walked whole.
-/
import Derived.Test.Qxb6628246aCheck
namespace Go.Proofs.Qxb6628246a.Se
open Go.RowKit Go.Proofs.Qxb6628246a.Tm

theorem SAt.nil {X : Nat → Prop} {w : World} {len : Nat} {l : List Ses} (h : SAt X w none len l) : len = 0 := by
  rcases Nat.eq_zero_or_pos len with h0 | h0
  · exact h0
  · obtain ⟨b, off, ha, _⟩ := h.cells h0
    cases ha

/-- zzCopy, of nil too. -/
theorem copy_all {X : Nat → Prop} (a : Option Addr) (len cap : Nat) (l : List Ses) (w : World) (h0 : SAt X w a len l) (hsh : Short len l) :
    Calls Try.prog 8 #[.slice a len cap] w fun e w' => ∃ a', e = .returned (.slice a' len len) ∧ SAt (fun b => b < w.heap.size) w' a' len l ∧ Below w.heap.size w w' := by
  cases a with
  | some a0 =>
    refine (copy_any a0 len cap l w h0 hsh).mono ?_
    rintro e w' ⟨rfl, h1, h2⟩
    exact ⟨_, rfl, h1, h2⟩
  | none =>
    obtain rfl := h0.nil
    have hnil : ∀ w', (binOp .eql 22 (.slice none 0 cap) (.slice none 0 0)).run Try.prog w' = .ok (.bool true) w' := fun w' => run_eql_slice_nil w' 22 46 none 0 cap Try.underlying22
    go_enter Try.func8, Try.ntmps8
    go_wp2
    go_ret
    exact ⟨none, rfl, ⟨h0.length, Nat.zero_le _, fun h => absurd h (by omega)⟩, Below.refl _ _⟩

/-- zzGive, of nil too. -/
theorem give_all {X : Nat → Prop} (a : Option Addr) (len cap : Nat) (l : List Ses) (w : World) (h0 : SAt X w a len l) (hsh : Short len l) :
    Calls Try.prog 10 #[.slice a len cap] w fun e w' => ∃ a', e = .returned (.slice a' len len) ∧ GAt (fun b => b < w.heap.size) w' a' len l ∧ Below w.heap.size w w' := by
  cases a with
  | some a0 =>
    refine (give_any a0 len cap l w h0 hsh).mono ?_
    rintro e w' ⟨B, rfl, h1, h2⟩
    exact ⟨_, rfl, h1, h2⟩
  | none =>
    obtain rfl := h0.nil
    have hnil : ∀ w' a', (binOp .eql 22 (.slice a' 0 0) (.slice none 0 0)).run Try.prog w' = .ok (.bool a'.isNone) w' := fun w' a' => run_eql_slice_nil w' 22 46 a' 0 0 Try.underlying22
    have HC : Hid (Calls Try.prog 8 #[.slice none 0 cap] w fun e w' => e = .returned (.slice none 0 0) ∧ w' = w) := by
      have hnil : ∀ w', (binOp .eql 22 (.slice none 0 cap) (.slice none 0 0)).run Try.prog w' = .ok (.bool true) w' := fun w' => run_eql_slice_nil w' 22 46 none 0 cap Try.underlying22
      show Calls Try.prog 8 #[.slice none 0 cap] w fun e w' => e = .returned (.slice none 0 0) ∧ w' = w
      go_enter Try.func8, Try.ntmps8
      go_wp2
      go_ret
      exact ⟨rfl, rfl⟩
    go_enter Try.func10, Try.ntmps10
    go_wp2_with fail
    refine HC.out.mono ?_
    rintro e w1 ⟨rfl, hw1⟩
    subst w1
    go_wp2
    go_ret
    exact ⟨none, rfl, ⟨h0.length, fun h => absurd h (by omega)⟩, Below.refl _ _⟩

theorem ceilDiv_bd {d k : Int} (hk : 1 ≤ k) (d1 : d ≤ 3458764513820540928) : ceilDiv d k ≤ 3458764513820540929 := by
  unfold ceilDiv
  split
  · rename_i h
    have := Int.ediv_le_self (a := d) k (by omega)
    omega
  · by_cases hd : 0 ≤ d
    · rw [Int.tdiv_eq_ediv_of_nonneg hd]
      have := Int.ediv_le_self (a := d) k hd
      omega
    · have := Int.tdiv_nonneg (a := -d) (b := k) (by omega) (by omega)
      rw [Int.neg_tdiv] at this
      omega

theorem due_i64 {d k past : Int} (hk : 1 ≤ k) (d1 : d ≤ 3458764513820540928) (p0 : 0 ≤ past) (p1 : past ≤ 1152921504606846976) : I64 (due d k past) := by
  have h1 := due_pos (d := d) (k := k) p0
  have h2 := ceilDiv_bd hk d1
  refine ⟨by omega, ?_⟩
  unfold due
  split <;> omega

theorem parOK {now start lo hi tick past server : Int} (h : TableOK now start lo hi tick past) (r : Int) : ParOK ⟨lo, hi, start, tick, server, past⟩ now (clamp r lo hi) :=
  ⟨h.n0, h.n1, h.s0, h.s1, (clamp_bd r lo hi h.l0 h.l1 h.h0 h.h1).1, (clamp_bd r lo hi h.l0 h.l1 h.h0 h.h1).2, h.t0, h.t1, h.p0, h.p1⟩

theorem exp_i64 {p : Par} {now : Int} {s : Ses} (h : ParOK p now (clamp s.made p.lo p.hi)) : I64 (upd p now s).exp := by
  obtain ⟨_, h2, h3, _, _, h6, h7, _, h9, h10⟩ := h
  exact due_i64 h7 (by omega) h9 h10

set_option maxRecDepth 100000 in
set_option maxHeartbeats 4000000 in
theorem law3_any {X : Nat → Prop} (a : Option Addr) (len cap : Nat) (l : List Ses) (now start lo hi tick past lid server : Int) (w : World) (h0 : SAt X w a len l) (hid : ∀ s ∈ l, I64 s.id) :
    Calls Try.prog 3 #[.slice a len cap, .int .i64 now, .int .i64 start, .int .i64 lo, .int .i64 hi, .int .i64 tick, .int .i64 past, .int .i64 lid, .int .i64 server] w fun e w' => e = .returned (.bool true) ∧ Below w.heap.size w w' := by
  go_enter Try.func3, Try.ntmps3
  go_wp2_with fail
  refine (bytes5_any a len cap l _ _ _ _ _ _ _ _ w h0).mono ?_
  rintro e w1 ⟨⟨r, rfl⟩, hw1⟩
  subst w1
  cases r
  · go_wp2
    go_ret
    exact ⟨rfl, Below.refl _ _⟩
  go_wp2_with fail
  refine (bytes6_any a len cap l _ w h0).mono ?_
  rintro e w1 ⟨⟨tot, r, rfl, hsh⟩, hw1⟩
  subst w1
  cases r
  · go_wp2
    go_ret
    exact ⟨rfl, Below.refl _ _⟩
  replace hsh := hsh rfl
  go_wp2_with fail
  refine (tableOK_any _ _ _ _ _ _ w).mono ?_
  rintro e w1 ⟨⟨r, rfl, hok⟩, hw1⟩
  subst w1
  cases r
  · go_wp2
    go_ret
    exact ⟨rfl, Below.refl _ _⟩
  replace hok := hok rfl
  go_wp2_with fail
  refine (copy_all a len cap l w h0 hsh).mono ?_
  rintro e w1 ⟨a1, rfl, hS1, hB1⟩
  go_wp2_with fail
  obtain ⟨p, hp⟩ : ∃ p : Par, p = ⟨lo, hi, start, tick, server, past⟩ := ⟨_, rfl⟩
  have e1 : p.lo = lo := by rw [hp]
  have e2 : p.hi = hi := by rw [hp]
  have e3 : p.start = start := by rw [hp]
  have e4 : p.tick = tick := by rw [hp]
  have e5 : p.server = server := by rw [hp]
  have e6 : p.past = past := by rw [hp]
  have hPar : ∀ s : Ses, ParOK p now (clamp s.made p.lo p.hi) := fun s => by rw [e1, e2, hp]; exact parOK hok s.made
  have hNT := newTable_any p lid w1 (by rw [e3]; exact hok.s0) (by rw [e3]; exact hok.s1)
  rw [e1, e2, e3, e4, e5, e6] at hNT
  refine hNT.mono ?_
  rintro e w2 ⟨Bt, L, D, H, rfl, hT2, hL2, hD2, hH2, hA, g1, g2, g3, g4, hB2⟩
  have z1 := hB1.size
  have z2 := hB2.size
  have lt1 := hT2.lt
  have lt2 := hL2.lt
  have lt3 := hD2.lt
  have lt4 : H < w2.heap.size := by obtain ⟨es, c, hh⟩ := hH2; exact (Array.getElem?_eq_some_iff.1 hh).1
  have hS2 : SAt (TX Bt L D H) w2 a1 len l := (hS1.weaken (Y := TX Bt L D H) (fun b hb _ hx => by rcases hx with h | h | h | h <;> omega)).below hB2
  go_wp2_with fail
  refine (give_all a1 len len l w2 hS2 hsh).mono ?_
  rintro e w3 ⟨a3, rfl, hG3, hB3⟩
  have z3 := hB3.size
  have hG3' : GAt (TX Bt L D H) w3 a3 len l := hG3.weaken (fun b _ hb hx => hb (by rcases hx with h | h | h | h <;> omega))
  have hS3 := hS2.below hB3
  go_wp2_with fail
  refine (ticks_any a1 len len l now start lo hi tick past w3 hS3 hsh.1 hok).mono ?_
  rintro e w4 ⟨rfl, hZ4, hB4⟩
  have z4 := hB4.size
  have hZ4' : IAt (TX Bt L D H) w4 (some ⟨w3.heap.size, 0, none⟩) len (l.map (tickOf now start lo hi tick past)) := hZ4.weaken (fun b _ hb hx => hb (by rcases hx with h | h | h | h <;> omega))
  go_wp2_with fail
  refine (time_any now w4 (by have := hok.n0; omega) (by have := hok.n1; omega)).mono ?_
  rintro e w5 ⟨rfl, hB5⟩
  have z5 := hB5.size
  have hB35 : Below w3.heap.size w3 w5 := hB4.trans (hB5.mono z4)
  have hB25 : Below w2.heap.size w2 w5 := hB3.trans (hB35.mono z3)
  have hT5 := hT2.below hB25
  have hL5 := (hL2.below hB25).isMap
  have hD5 := (hD2.below hB25).isMap
  have hH5 : ∃ es c, w5.heap[H]? = some (.map es c) := by obtain ⟨es, c, hh⟩ := hH2; exact ⟨es, c, (hB25.block H lt4).trans hh⟩
  have hG5 : GAt (TX Bt L D H) w5 a3 len l := hG3'.kept (Kept.of_below hB35)
  have hS5 : SAt (TX Bt L D H) w5 a1 len l := hS3.below hB35
  have hZ5 : IAt (TX Bt L D H) w5 (some ⟨w3.heap.size, 0, none⟩) len (l.map (tickOf now start lo hi tick past)) := hZ4'.kept (Kept.of_below hB5)
  go_wp2_with fail
  refine (reset_any a3 len len l w5 hT5 hL5 hD5 hH5 hA ⟨by omega, by omega, by omega, by omega⟩ hG5 (fun s _ => hPar s) hid hsh.1).mono ?_
  rintro e w6 ⟨rfl, es, hR6, hes⟩
  have hS6 := hS5.kept hR6.kept
  have hZ6 := hZ5.kept hR6.kept
  obtain ⟨ksL, ksD, ksI, ib, hC⟩ := Chk.of hR6 hes
  have hzz : l.map (tickOf now start lo hi tick past) = l.map (fun s => (upd p now s).exp) := List.map_congr_left (fun s _ => by unfold tickOf upd; simp only [e1, e2, e3, e4, e6])
  rw [hzz] at hZ6
  have hCk := check_any a1 (some ⟨w3.heap.size, 0, none⟩) len len len l w6 hC hS6 hZ6 hsh.1 hid (fun s _ => exp_i64 (hPar s))
  rw [e1, e2, e5, e6] at hCk
  have HCk : Hid _ := hCk
  have HLast := lastID_any a1 len len l lid server w6 hS6
  have HB6 : Hid (Below w.heap.size w w6) := by
    have b1 : Below w.heap.size w w5 := (hB1.trans (hB2.mono z1)).trans (hB25.mono (by omega))
    refine b1.trans ⟨hR6.kept.os, hR6.kept.tape, hR6.kept.output, hR6.kept.size, fun k hk => hR6.kept.block k (by omega) ?_⟩
    rintro (h | h | h | h) <;> omega
  clear hCk hR6 hes hC hS6 hZ6 hS5 hZ5 hG5 hT5 hL5 hD5 hH5 hB25 hB35 hB5 hB4 hZ4 hZ4' hS3 hG3 hG3' hB3 hS2 hH2 hD2 hL2 hT2 hB2 hNT hS1 hB1 hzz
  go_wp2_with fail
  refine HLast.mono ?_
  rintro e w7 ⟨rfl, hw7⟩
  subst w7
  go_wp2_with fail
  refine Calls.mono HCk.out ?_
  rintro e w7 ⟨rfl, hB7⟩
  have HB7 : Hid (Below w.heap.size w w7) := HB6.out.trans (hB7.mono HB6.out.size)
  clear hB7 HB6 HCk HLast
  go_wp2
  go_ret
  exact ⟨rfl, HB7.out⟩

end Go.Proofs.Qxb6628246a.Se
