/-
  add, walked.
-/
import Derived.Test.Qxb6628246aSched
namespace Go.Proofs.Qxb6628246a.Se
open Go.RowKit Go.Proofs.Qxb6628246a.Tm

/-- What add leaves. -/
structure Added (w w' : World) (Bt L D H sb nL nD nI : Nat) (p : Par) (mu lid id t : Int) (fL fD fI : Int → Option Nat) : Prop where
  tab : TabAt w' Bt L D H p mu lid
  live : ∃ ks, Tab ptrK w' L (nL + 1) ks (fun x => if x = id then some sb else fL x)
  due : ∃ ib ksD' ksI, Tab mapK w' D (nD + 1) ksD' (fun x => if x = t then some ib else fD x) ∧ Tab ptrK w' ib (nI + 1) ksI (fun x => if x = id then some sb else fI x) ∧ (fD t = some ib ∨ fD t = none ∧ w.heap.size ≤ ib)
  exp : w'.cell? ⟨sb, 5, none⟩ = some (.int .i64 t)
  rest : ∀ o, o ≠ 5 → w'.cell? ⟨sb, o, none⟩ = w.cell? ⟨sb, o, none⟩
  kept : Kept (fun b => b = Bt ∨ b = L ∨ b = D ∨ b = sb ∨ fD t = some b) w w'

theorem TabAt.setId {w : World} {Bt L D H : Nat} {p : Par} {mu lid : Int} (h : TabAt w Bt L D H p mu lid) (x : Int) : TabAt (w.setCell ⟨Bt, 9, none⟩ (.int .i64 x)) Bt L D H p mu x := by
  have ho : ∀ o, o ≠ 9 → (w.setCell ⟨Bt, 9, none⟩ (.int .i64 x)).cell? ⟨Bt, o, none⟩ = w.cell? ⟨Bt, o, none⟩ := fun o ho => World.cell?_setCell_other _ _ _ _ (fun e => by injection e with _ e; exact ho e.symm)
  obtain ⟨h1, c0, c1, c2, c3, c4, c5, c6, c7, c9, c10, c11, c12, c13, z7, z9⟩ := h
  refine ⟨by simpa [World.setCell] using h1, ?_, ?_, ?_, ?_, ?_, ?_, ?_, ?_, World.cell?_setCell_same _ _ _ c9, ?_, ?_, ?_, ?_, by rw [World.frozen?_setCell]; exact z7, by rw [World.frozen?_setCell]; exact z9⟩ <;> (rw [ho _ (by decide)]; assumption)

theorem added_close {w W1 W2 w3 : World} {Bt L D H sb nL nD nI : Nat} {p : Par} {mu lid id t : Int} {ks : List Int} {fL fD fI : Int → Option Nat} (h1 : TabAt W1 Bt L D H p mu lid) (hk1 : Kept (fun b => b = Bt) w W1) (hL2 : Tab ptrK W2 L (nL + 1) ks (fun x => if x = id then some sb else fL x))
    (hg2 : (W1.drew).grownBy W2 (some L)) (hS : Scheduled W2 w3 D sb nD nI id t fD fI) (hsl : sb < w.heap.size) (hsb : sb ≠ Bt) (hsL : sb ≠ L) (hLD : L ≠ D) (hBL : Bt ≠ L) (hBD : Bt ≠ D) (hx : ∀ ib, fD t = some ib → ib ≠ L ∧ ib ≠ Bt) :
    Added w w3 Bt L D H sb nL nD nI p mu lid id t fL fD fI := by
  have hk2 : Kept (fun b => b = L) W1 W2 := ((Kept.refl (fun b => b = L) W1).drew).step hg2 (fun k hk => .inl (by injection hk with hk; exact hk.symm))
  have hT2 := h1.kept hk2 hBL
  have hk3 := hS.kept
  have hw1 := hk1.size
  have hw2 := hk2.size
  refine ⟨hT2.kept hk3 ?_, ⟨ks, hL2.kept hk3 ?_⟩, ?_, hS.exp, fun o ho => ?_, ?_⟩
  · rintro (h | h | h)
    · exact hBD h
    · exact hsb h.symm
    · exact (hx _ h).2 rfl
  · rintro (h | h | h)
    · exact hLD h
    · exact hsL h.symm
    · exact (hx _ h).1 rfl
  · obtain ⟨ib, ksD, ksI, a, b, c⟩ := hS.all
    exact ⟨ib, ksD, ksI, a, b, c.elim .inl (fun c => .inr ⟨c.1, by omega⟩)⟩
  · rw [hS.rest o ho, hk2.cell (Nat.lt_of_lt_of_le hsl hw1) hsL, hk1.cell hsl hsb]
  · refine ⟨hk3.os.trans (hk2.os.trans hk1.os), hk3.tape.trans (hk2.tape.trans hk1.tape), hk3.output.trans (hk2.output.trans hk1.output), by have := hk3.size; omega, fun k hk hx => ?_⟩
    rw [hk3.block k (by omega) (fun e => hx (.inr (.inr e))), hk2.block k (by omega) (fun e => hx (.inr (.inl e))), hk1.block k hk (fun e => hx (.inl e))]

set_option maxRecDepth 100000 in
set_option maxHeartbeats 4000000 in
theorem addT_any {Bt L D H nL nD nI : Nat} {p : Par} {mu lid now tmo t : Int} {ksL ksD : List Int} {fL fD fI : Int → Option Nat} (sb : Nat) (s : Ses) (w : World) (h : TabAt w Bt L D H p mu lid) (hL : Tab ptrK w L nL ksL fL) (hD : Tab mapK w D nD ksD fD) (h0 : fD 0 = none) (hP : ParOK p now tmo)
    (s0 : w.cell? ⟨sb, 0, none⟩ = some (.int .i64 s.id)) (s2 : w.cell? ⟨sb, 2, none⟩ = some (.int .i64 tmo)) (s5 : w.cell? ⟨sb, 5, none⟩ = some (.int .i64 0)) (z5 : w.frozen? ⟨sb, 5, none⟩ = false) (hid : I64 s.id) (hsl : sb < w.heap.size) (hsb : sb ≠ Bt) (hLD : L ≠ D)
    (ht : due (now + tmo - p.start) p.tick p.past = t)
    (hI : ∀ ib, fD t = some ib → ib ≠ D ∧ ib ≠ L ∧ ∃ ks, Tab ptrK w ib nI ks fI) (hI0 : fD t = none → fI = fun _ => none) (hn : nI < maxLen) (hnD : nD < maxLen) (hnL : nL < maxLen) :
    Calls Try.prog 24 #[.pointer (some ⟨Bt, 0, none⟩), .pointer (some ⟨sb, 0, none⟩), time now] w fun e w' => e = .returned (.pointer (some ⟨sb, 0, none⟩)) ∧ Added w w' Bt L D H sb nL nD nI p mu (upId p.server lid s) s.id t fL fD fI := by
  have hlt := h.lt
  unfold time
  by_cases h1 : serverOf s.id = p.server
  · have h1b : (serverOf s.id == p.server) = true := beq_iff_eq.2 h1
    go_enter Try.func24, Try.ntmps24
    go_wp2_with fail
    obtain ⟨W, hW⟩ : ∃ W, W = w.alloc (.cells #[.int .u64 (nsec now), .int .i64 (sec now), .pointer none] 38) := ⟨_, rfl⟩
    have hBW : Below w.heap.size w W := by rw [hW]; exact (Below.refl _ _).alloc (Nat.le_refl _) _
    have hz : W.heap.size = w.heap.size + 1 := by rw [hW]; simp
    have e0 : W.cell? ⟨w.heap.size, 0, none⟩ = some (.int .u64 (nsec now)) := by rw [hW]; go_simp
    have e1 : W.cell? ⟨w.heap.size, 1, none⟩ = some (.int .i64 (sec now)) := by rw [hW]; go_simp
    have e2 : W.cell? ⟨w.heap.size, 2, none⟩ = some (.pointer none) := by rw [hW]; go_simp
    rw [← hW]
    clear hW
    have hTW := h.below hBW
    have c6 := hTW.c6
    have c9 := hTW.c9
    have c10 := hTW.c10
    have z9 := hTW.z9
    have s0' : W.cell? ⟨sb, 0, none⟩ = some (.int .i64 s.id) := by rw [hBW.cell hsl]; exact s0
    go_quiet (first | (go_at_call 38; exact Calls.quiet_of_same (serverOf_any _ _)))
    go_wp2_with fail
    go_region
    obtain ⟨W1, hW1⟩ : ∃ W1, W1 = (W.drewN (nq + 1)).setCell ⟨Bt, 9, none⟩ (.int .i64 (max lid s.id)) := ⟨_, rfl⟩
    have HT1 : Hid (TabAt W1 Bt L D H p mu (upId p.server lid s)) := by
      show TabAt W1 Bt L D H p mu (upId p.server lid s)
      have hu : upId p.server lid s = max lid s.id := by unfold upId; split <;> omega
      rw [hu, hW1]
      exact (hTW.block (w' := W.drewN (nq + 1)) (Nat.le_refl _) rfl).setId _
    have HKW : Hid (Kept (fun b => b = Bt) W W1) := by
      show Kept (fun b => b = Bt) W W1
      rw [hW1]
      exact ((Kept.refl (fun b => b = Bt) W).drewN (nq + 1)).set _ _ _ (.inl rfl)
    rw [← hW1]
    clear hW1 c6 c9 c10 z9 s0' hTW
    have hTW1 : TabAt W1 Bt L D H p mu (upId p.server lid s) := HT1.out
    have f0 : W1.cell? ⟨w.heap.size, 0, none⟩ = some (.int .u64 (nsec now)) := by rw [HKW.out.cell (by omega) (by omega)]; exact e0
    have f1 : W1.cell? ⟨w.heap.size, 1, none⟩ = some (.int .i64 (sec now)) := by rw [HKW.out.cell (by omega) (by omega)]; exact e1
    have f2 : W1.cell? ⟨w.heap.size, 2, none⟩ = some (.pointer none) := by rw [HKW.out.cell (by omega) (by omega)]; exact e2
    have hk1 : Kept (fun b => b = Bt) w W1 := (Kept.of_below hBW).trans HKW.out
    have g10 := hTW1.c10
    have g0 : W1.cell? ⟨sb, 0, none⟩ = some (.int .i64 s.id) := by rw [hk1.cell hsl hsb]; exact s0
    have hL1 := hL.kept hk1 (Ne.symm (hL.ne_cell h.c10))
    have hD1 := hD.kept hk1 (Ne.symm (hD.ne_cell h.c10))
    have hBL : Bt ≠ L := hL.ne_cell h.c10
    have hBD : Bt ≠ D := hD.ne_cell h.c10
    have hsL : sb ≠ L := hL.ne_cell s0
    obtain ⟨W2, hrun, hL2, hg2⟩ := hL1.drew.put ptr_ok hnL hid sb
    have hrun' : (Instr.mapUpdate 49 (.map (some L)) (.int .i64 s.id) (.pointer (some ⟨sb, 0, none⟩))).run Try.prog W1.drew = .ok () W2 := hrun
    have hk2 : Kept (fun b => b = L) W1 W2 := ((Kept.refl (fun b => b = L) W1).drew).step hg2 (fun k hk => .inl (by injection hk with hk; exact hk.symm))
    have hz1 := hk1.size
    have hz2 := hk2.size
    have hzw := HKW.out.size
    have hwL : w.heap.size ≠ L := Nat.ne_of_gt hL.lt
    have hsl1 : sb < W1.heap.size := by omega
    have hcs : ∀ o, W2.cell? ⟨sb, o, none⟩ = w.cell? ⟨sb, o, none⟩ := fun o => by rw [hk2.cell hsl1 hsL, hk1.cell hsl hsb]
    have y0 : W2.cell? ⟨w.heap.size, 0, none⟩ = some (.int .u64 (nsec now)) := by rw [hk2.cell (by omega) hwL]; exact f0
    have y1 : W2.cell? ⟨w.heap.size, 1, none⟩ = some (.int .i64 (sec now)) := by rw [hk2.cell (by omega) hwL]; exact f1
    have y2 : W2.cell? ⟨w.heap.size, 2, none⟩ = some (.pointer none) := by rw [hk2.cell (by omega) hwL]; exact f2
    have y3 : W2.cell? ⟨sb, 0, none⟩ = some (.int .i64 s.id) := (hcs 0).trans s0
    have y4 : W2.cell? ⟨Bt, 10, none⟩ = some (.map (some L)) := (hTW1.kept hk2 hBL).c10
    have hIx : ∀ ib, fD t = some ib → ib ≠ L ∧ ib ≠ Bt := fun ib hib => by
      obtain ⟨_, b, ks, c⟩ := hI ib hib
      exact ⟨b, fun e => c.ne_cell h.c10 e.symm⟩
    have HSC : Hid (Calls Try.prog 39 #[.pointer (some ⟨Bt, 0, none⟩), .pointer (some ⟨sb, 0, none⟩), .agg #[.int .u64 (nsec now), .int .i64 (sec now), .pointer none]] W2 fun e w' => e = .returned (.tuple #[]) ∧ Added w w' Bt L D H sb nL nD nI p mu (upId p.server lid s) s.id t fL fD fI) := by
      refine (schedule_any (nI := nI) (fI := fI) sb W2 (hTW1.kept hk2 hBL) (hD1.kept hk2 (Ne.symm hLD)) h0 hP y3 ((hcs 2).trans s2) ((hcs 5).trans s5) ?_ hid (by omega) ht ?_ hI0 hn hnD).mono ?_
      · rw [hk2.frozen hsl1 hsL, hk1.frozen hsl hsb]; exact z5
      · intro ib hib
        obtain ⟨a, b, ks, c⟩ := hI ib hib
        exact ⟨a, ks, (c.kept hk1 (Ne.symm (c.ne_cell h.c10))).kept hk2 b⟩
      · rintro e w3 ⟨rfl, hS⟩
        exact ⟨rfl, added_close hTW1 hk1 hL2 hg2 hS hsl hsb hsL hLD hBL hBD hIx⟩
    clear HT1 HKW hk1 hk2 hg2 hL2 hL1 hD1 hIx hcs hTW1 e0 e1 e2 hrun hI hI0 h0
    go_wp2_with fail
    go_region_held3 (fun w' => w'.cell? ⟨Bt, 10, none⟩ = some (.map (some L)) ∧ w'.cell? ⟨sb, 0, none⟩ = some (.int .i64 s.id)) (go_keep) (fail)
    go_wp2_with fail
    refine HSC.out.mono ?_
    rintro e w3 ⟨rfl, hA⟩
    have HA : Hid (Added w w3 Bt L D H sb nL nD nI p mu (upId p.server lid s) s.id t fL fD fI) := hA
    clear hA HSC
    go_wp2
    go_ret
    exact ⟨rfl, HA.out⟩
  · have h1b : (serverOf s.id == p.server) = false := beq_eq_false_iff_ne.2 h1
    go_enter Try.func24, Try.ntmps24
    go_wp2_with fail
    obtain ⟨W, hW⟩ : ∃ W, W = w.alloc (.cells #[.int .u64 (nsec now), .int .i64 (sec now), .pointer none] 38) := ⟨_, rfl⟩
    have hBW : Below w.heap.size w W := by rw [hW]; exact (Below.refl _ _).alloc (Nat.le_refl _) _
    have hz : W.heap.size = w.heap.size + 1 := by rw [hW]; simp
    have e0 : W.cell? ⟨w.heap.size, 0, none⟩ = some (.int .u64 (nsec now)) := by rw [hW]; go_simp
    have e1 : W.cell? ⟨w.heap.size, 1, none⟩ = some (.int .i64 (sec now)) := by rw [hW]; go_simp
    have e2 : W.cell? ⟨w.heap.size, 2, none⟩ = some (.pointer none) := by rw [hW]; go_simp
    rw [← hW]
    clear hW
    have hTW := h.below hBW
    have c6 := hTW.c6
    have c9 := hTW.c9
    have c10 := hTW.c10
    have z9 := hTW.z9
    have s0' : W.cell? ⟨sb, 0, none⟩ = some (.int .i64 s.id) := by rw [hBW.cell hsl]; exact s0
    go_quiet (first | (go_at_call 38; exact Calls.quiet_of_same (serverOf_any _ _)))
    go_wp2_with fail
    obtain ⟨W1, hW1⟩ : ∃ W1, W1 = W.drewN nq := ⟨_, rfl⟩
    have HT1 : Hid (TabAt W1 Bt L D H p mu (upId p.server lid s)) := by
      show TabAt W1 Bt L D H p mu (upId p.server lid s)
      have hu : upId p.server lid s = lid := if_neg (fun e => h1 e.1)
      rw [hu, hW1]
      exact hTW.block (w' := W.drewN nq) (Nat.le_refl _) rfl
    have HKW : Hid (Kept (fun b => b = Bt) W W1) := by
      show Kept (fun b => b = Bt) W W1
      rw [hW1]
      exact (Kept.refl (fun b => b = Bt) W).drewN nq
    rw [← hW1]
    clear hW1 c6 c9 c10 z9 s0' hTW
    have hTW1 : TabAt W1 Bt L D H p mu (upId p.server lid s) := HT1.out
    have f0 : W1.cell? ⟨w.heap.size, 0, none⟩ = some (.int .u64 (nsec now)) := by rw [HKW.out.cell (by omega) (by omega)]; exact e0
    have f1 : W1.cell? ⟨w.heap.size, 1, none⟩ = some (.int .i64 (sec now)) := by rw [HKW.out.cell (by omega) (by omega)]; exact e1
    have f2 : W1.cell? ⟨w.heap.size, 2, none⟩ = some (.pointer none) := by rw [HKW.out.cell (by omega) (by omega)]; exact e2
    have hk1 : Kept (fun b => b = Bt) w W1 := (Kept.of_below hBW).trans HKW.out
    have g10 := hTW1.c10
    have g0 : W1.cell? ⟨sb, 0, none⟩ = some (.int .i64 s.id) := by rw [hk1.cell hsl hsb]; exact s0
    have hL1 := hL.kept hk1 (Ne.symm (hL.ne_cell h.c10))
    have hD1 := hD.kept hk1 (Ne.symm (hD.ne_cell h.c10))
    have hBL : Bt ≠ L := hL.ne_cell h.c10
    have hBD : Bt ≠ D := hD.ne_cell h.c10
    have hsL : sb ≠ L := hL.ne_cell s0
    obtain ⟨W2, hrun, hL2, hg2⟩ := hL1.drew.put ptr_ok hnL hid sb
    have hrun' : (Instr.mapUpdate 49 (.map (some L)) (.int .i64 s.id) (.pointer (some ⟨sb, 0, none⟩))).run Try.prog W1.drew = .ok () W2 := hrun
    have hk2 : Kept (fun b => b = L) W1 W2 := ((Kept.refl (fun b => b = L) W1).drew).step hg2 (fun k hk => .inl (by injection hk with hk; exact hk.symm))
    have hz1 := hk1.size
    have hz2 := hk2.size
    have hzw := HKW.out.size
    have hwL : w.heap.size ≠ L := Nat.ne_of_gt hL.lt
    have hsl1 : sb < W1.heap.size := by omega
    have hcs : ∀ o, W2.cell? ⟨sb, o, none⟩ = w.cell? ⟨sb, o, none⟩ := fun o => by rw [hk2.cell hsl1 hsL, hk1.cell hsl hsb]
    have y0 : W2.cell? ⟨w.heap.size, 0, none⟩ = some (.int .u64 (nsec now)) := by rw [hk2.cell (by omega) hwL]; exact f0
    have y1 : W2.cell? ⟨w.heap.size, 1, none⟩ = some (.int .i64 (sec now)) := by rw [hk2.cell (by omega) hwL]; exact f1
    have y2 : W2.cell? ⟨w.heap.size, 2, none⟩ = some (.pointer none) := by rw [hk2.cell (by omega) hwL]; exact f2
    have y3 : W2.cell? ⟨sb, 0, none⟩ = some (.int .i64 s.id) := (hcs 0).trans s0
    have y4 : W2.cell? ⟨Bt, 10, none⟩ = some (.map (some L)) := (hTW1.kept hk2 hBL).c10
    have hIx : ∀ ib, fD t = some ib → ib ≠ L ∧ ib ≠ Bt := fun ib hib => by
      obtain ⟨_, b, ks, c⟩ := hI ib hib
      exact ⟨b, fun e => c.ne_cell h.c10 e.symm⟩
    have HSC : Hid (Calls Try.prog 39 #[.pointer (some ⟨Bt, 0, none⟩), .pointer (some ⟨sb, 0, none⟩), .agg #[.int .u64 (nsec now), .int .i64 (sec now), .pointer none]] W2 fun e w' => e = .returned (.tuple #[]) ∧ Added w w' Bt L D H sb nL nD nI p mu (upId p.server lid s) s.id t fL fD fI) := by
      refine (schedule_any (nI := nI) (fI := fI) sb W2 (hTW1.kept hk2 hBL) (hD1.kept hk2 (Ne.symm hLD)) h0 hP y3 ((hcs 2).trans s2) ((hcs 5).trans s5) ?_ hid (by omega) ht ?_ hI0 hn hnD).mono ?_
      · rw [hk2.frozen hsl1 hsL, hk1.frozen hsl hsb]; exact z5
      · intro ib hib
        obtain ⟨a, b, ks, c⟩ := hI ib hib
        exact ⟨a, ks, (c.kept hk1 (Ne.symm (c.ne_cell h.c10))).kept hk2 b⟩
      · rintro e w3 ⟨rfl, hS⟩
        exact ⟨rfl, added_close hTW1 hk1 hL2 hg2 hS hsl hsb hsL hLD hBL hBD hIx⟩
    clear HT1 HKW hk1 hk2 hg2 hL2 hL1 hD1 hIx hcs hTW1 e0 e1 e2 hrun hI hI0 h0
    go_region_held3 (fun w' => w'.cell? ⟨Bt, 10, none⟩ = some (.map (some L)) ∧ w'.cell? ⟨sb, 0, none⟩ = some (.int .i64 s.id)) (go_keep) (fail)
    go_wp2_with fail
    refine HSC.out.mono ?_
    rintro e w3 ⟨rfl, hA⟩
    have HA : Hid (Added w w3 Bt L D H sb nL nD nI p mu (upId p.server lid s) s.id t fL fD fI) := hA
    clear hA HSC
    go_wp2
    go_ret
    exact ⟨rfl, HA.out⟩

end Go.Proofs.Qxb6628246a.Se
