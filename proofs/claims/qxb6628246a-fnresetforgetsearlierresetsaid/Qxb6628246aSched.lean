/-
  unschedule, schedule and add, walked.
-/
import Derived.Test.Qxb6628246aTable
import Derived.WalkSpells
namespace Go.Proofs.Qxb6628246a.Se
open Go.RowKit Go.Proofs.Qxb6628246a.Tm

theorem i64_0 : I64 0 := ⟨by decide, by decide⟩

set_option maxRecDepth 100000 in
/-- unschedule of a session that is in no tick's map (its tick is 0). -/
theorem unschedule_any {Bt L D H nD : Nat} {p : Par} {mu lid id : Int} {ksD : List Int} {fD : Int → Option Nat} (sb : Nat) (w : World) (h : TabAt w Bt L D H p mu lid) (hD : Tab mapK w D nD ksD fD) (h0 : fD 0 = none)
    (s0 : w.cell? ⟨sb, 0, none⟩ = some (.int .i64 id)) (s5 : w.cell? ⟨sb, 5, none⟩ = some (.int .i64 0)) (hid : I64 id) (hsl : sb < w.heap.size) :
    Calls Try.prog 52 #[.pointer (some ⟨Bt, 0, none⟩), .pointer (some ⟨sb, 0, none⟩)] w fun e w' => e = .returned (.tuple #[]) ∧ Tab mapK w' D nD ksD fD ∧ Kept (fun b => b = D) w w' := by
  have g11 := h.c11
  have hl : ∀ n, (Instr.lookup 50 (.map (some D)) (.int .i64 0) false).run Try.prog (w.drewN n) = .ok (.map none) (w.drewN n) := fun n => by
    have hl := (hD.drewN n).look map_ok (k := 0) i64_0
    rw [h0] at hl
    exact hl
  have hdel : ∀ w : World, (Builtin.delete_ #[49, 2] 0 #[.map none, .int .i64 id]).run Try.prog w = .ok (.tuple #[]) w := fun w => Maps.drop_nil law Try.underlying49 (key_of hid) 0
  have hlen : ∀ w : World, (Builtin.len_ #[49] 3 #[.map none]).run Try.prog w = .ok (.int .i64 0) w := fun w => Maps.len_nil Try.underlying49 3
  go_enter Try.func52, Try.ntmps52
  go_wp2
  go_quiet (fail)
  go_wp2
  go_quiet (fail)
  go_wp2
  rename_i n1
  obtain ⟨W, hW⟩ : ∃ W, W = (w.drewN n1).drewN nq := ⟨_, rfl⟩
  have g11' : W.cell? ⟨Bt, 11, none⟩ = some (.map (some D)) := by rw [hW]; exact g11
  have s5' : W.cell? ⟨sb, 5, none⟩ = some (.int .i64 0) := by rw [hW]; exact s5
  have hDW : Tab mapK W D nD ksD fD := by rw [hW]; exact (hD.drewN n1).drewN nq
  have hKW : Kept (fun b => b = D) w W := by rw [hW]; exact ((Kept.refl _ _).drewN n1).drewN nq
  obtain ⟨W', hrun, hT', hg⟩ := hDW.drew.del_none map_ok i64_0 h0 0
  have hrun' : (Builtin.delete_ #[50, 2] 0 #[.map (some D), .int .i64 0]).run Try.prog W.drew = .ok (.tuple #[]) W' := hrun
  have HK : Hid (Kept (fun b => b = D) w W') := hKW.drew.step hg (fun k hk => .inl (by injection hk with hk; exact hk.symm))
  have y11 : W'.cell? ⟨Bt, 11, none⟩ = some (.map (some D)) := by rw [HK.out.cell h.lt (hD.ne_cell g11)]; exact g11
  have y5 : W'.cell? ⟨sb, 5, none⟩ = some (.int .i64 0) := by rw [HK.out.cell hsl (hD.ne_cell s5)]; exact s5
  rw [← hW]
  clear hl hdel hlen hW hg hDW hKW hrun
  go_region_held3 (fun w' => w'.cell? ⟨Bt, 11, none⟩ = some (.map (some D)) ∧ w'.cell? ⟨sb, 5, none⟩ = some (.int .i64 0)) (go_keep) (fail)
  go_wp2
  go_end0
  exact ⟨rfl, hT', HK.out⟩

/-- The bounds under which the table's clock does not wrap. -/
structure ParOK (p : Par) (now tmo : Int) : Prop where
  n0 : -1152921504606846976 ≤ now
  n1 : now ≤ 1152921504606846976
  s0 : -1152921504606846976 ≤ p.start
  s1 : p.start ≤ 1152921504606846976
  o0 : -1152921504606846976 ≤ tmo
  o1 : tmo ≤ 1152921504606846976
  t0 : 1 ≤ p.tick
  t1 : p.tick ≤ 1152921504606846976
  p0 : 0 ≤ p.past
  p1 : p.past ≤ 1152921504606846976

/-- What schedule leaves. -/
structure Scheduled (w w' : World) (D sb nD nI : Nat) (id t : Int) (fD fI : Int → Option Nat) : Prop where
  all : ∃ ib ksD' ksI, Tab mapK w' D (nD + 1) ksD' (fun x => if x = t then some ib else fD x) ∧ Tab ptrK w' ib (nI + 1) ksI (fun x => if x = id then some sb else fI x) ∧ (fD t = some ib ∨ fD t = none ∧ w.heap.size ≤ ib)
  exp : w'.cell? ⟨sb, 5, none⟩ = some (.int .i64 t)
  rest : ∀ o, o ≠ 5 → w'.cell? ⟨sb, o, none⟩ = w.cell? ⟨sb, o, none⟩
  kept : Kept (fun b => b = D ∨ b = sb ∨ fD t = some b) w w'

theorem sched_close {w w4 W' : World} {D sb nD nI ib : Nat} {id t x5 : Int} {fD fI : Int → Option Nat} {ksD ksI : List Int} (hK4 : Kept (fun b => b = D ∨ fD t = some b) w w4) (hD4 : Tab mapK w4 D (nD + 1) ksD (fun x => if x = t then some ib else fD x))
    (hI4 : Tab ptrK W' ib (nI + 1) ksI (fun x => if x = id then some sb else fI x)) (hg : (w4.drew).grownBy W' (some ib)) (hib : ib ≠ D) (hor : fD t = some ib ∨ fD t = none ∧ w.heap.size ≤ ib) (hsl : sb < w.heap.size) (hsD : sb ≠ D) (hsI : sb ≠ ib) (s5 : w.cell? ⟨sb, 5, none⟩ = some (.int .i64 x5)) :
    Scheduled w (W'.setCell ⟨sb, 5, none⟩ (.int .i64 t)) D sb nD nI id t fD fI := by
  have hsx : ¬ (sb = D ∨ fD t = some sb) := by
    rintro (h | h)
    · exact hsD h
    · rcases hor with h1 | h1
      · rw [h1] at h; injection h with h; exact hsI h.symm
      · rw [h1.1] at h; cases h
  have k1 : Kept (fun b => b = ib) w4 W' := ((Kept.refl (fun b => b = ib) w4).drew).step hg (fun k hk => .inl (by injection hk with hk; exact hk.symm))
  have hsl4 : sb < w4.heap.size := Nat.lt_of_lt_of_le hsl hK4.size
  have hc : ∀ o, W'.cell? ⟨sb, o, none⟩ = w.cell? ⟨sb, o, none⟩ := fun o => by rw [k1.cell hsl4 hsI, hK4.cell hsl hsx]
  have k2 : Kept (fun b => b = sb) W' (W'.setCell ⟨sb, 5, none⟩ (.int .i64 t)) := (Kept.refl _ _).set _ _ _ (.inl rfl)
  have w1 : Kept (fun b => b = D ∨ b = sb ∨ fD t = some b) w W' := by
    refine ⟨k1.os.trans hK4.os, k1.tape.trans hK4.tape, k1.output.trans hK4.output, Nat.le_trans hK4.size k1.size, fun k hk hx => ?_⟩
    rw [k1.block k (Nat.lt_of_lt_of_le hk hK4.size) (fun e => ?_), hK4.block k hk (fun e => hx (e.elim .inl (fun e => .inr (.inr e))))]
    subst e
    rcases hor with h1 | h1
    · exact hx (.inr (.inr h1))
    · omega
  refine ⟨⟨ib, ksD, ksI, (hD4.kept k1 (Ne.symm hib)).kept k2 (Ne.symm hsD), hI4.kept k2 (Ne.symm hsI), hor⟩, ?_, fun o ho => ?_, w1.set _ _ _ (.inl (.inr (.inl rfl)))⟩
  · exact World.cell?_setCell_same _ _ _ ((hc 5).trans s5)
  · rw [World.cell?_setCell_other _ _ _ _ (fun e => by injection e with _ e; exact ho e.symm), hc]

set_option maxRecDepth 100000 in
set_option maxHeartbeats 4000000 in
/-- schedule of a session that is in no tick's map. -/
theorem schedule_any {Bt L D H nD nI : Nat} {p : Par} {mu lid id now tmo t : Int} {ksD : List Int} {fD fI : Int → Option Nat} (sb : Nat) (w : World) (h : TabAt w Bt L D H p mu lid) (hD : Tab mapK w D nD ksD fD) (h0 : fD 0 = none) (hP : ParOK p now tmo)
    (s0 : w.cell? ⟨sb, 0, none⟩ = some (.int .i64 id)) (s2 : w.cell? ⟨sb, 2, none⟩ = some (.int .i64 tmo)) (s5 : w.cell? ⟨sb, 5, none⟩ = some (.int .i64 0)) (z5 : w.frozen? ⟨sb, 5, none⟩ = false) (hid : I64 id) (hsl : sb < w.heap.size)
    (ht : due (now + tmo - p.start) p.tick p.past = t)
    (hI : ∀ ib, fD t = some ib → ib ≠ D ∧ ∃ ks, Tab ptrK w ib nI ks fI) (hI0 : fD t = none → fI = fun _ => none) (hn : nI < maxLen) (hnD : nD < maxLen) :
    Calls Try.prog 39 #[.pointer (some ⟨Bt, 0, none⟩), .pointer (some ⟨sb, 0, none⟩), time now] w fun e w' => e = .returned (.tuple #[]) ∧ Scheduled w w' D sb nD nI id t fD fI := by
  obtain ⟨hP1, hP2, hP3, hP4, hP5, hP6, hP7, hP8, hP9, hP10⟩ := hP
  have HADD : Hid (∀ W, Calls Try.prog 18 #[.agg #[.int .u64 (nsec now), .int .i64 (sec now), .pointer none], .int .i64 tmo] W fun e w' => e = .returned (time (now + tmo)) ∧ Below W.heap.size W w') := fun W => add_any now tmo W (by omega) (by omega) (by omega) (by omega)
  have HSUB : Hid (∀ W, Calls Try.prog 51 #[time (now + tmo), .agg #[.int .u64 (nsec p.start), .int .i64 (sec p.start), .pointer none]] W fun e w' => e = .returned (.int .i64 (now + tmo - p.start)) ∧ Below W.heap.size W w') := fun W => sub_any (now + tmo) p.start W (by omega) (by omega) (by omega) (by omega)
  have hlt := h.lt
  have c2 := h.c2
  have c3 := h.c3
  have c4 := h.c4
  unfold time
  go_enter Try.func39, Try.ntmps39
  go_wp2_with fail
  have hw0 : ¬ sb = w.heap.size := by omega
  have hw1 : ¬ Bt = w.heap.size := by omega
  have hw0' : ¬ w.heap.size = sb := by omega
  have hw1' : ¬ w.heap.size = Bt := by omega
  obtain ⟨W, hW⟩ : ∃ W, W = w.alloc (.cells #[.int .u64 (nsec now), .int .i64 (sec now), .pointer none] 38) := ⟨_, rfl⟩
  have hBW : Below w.heap.size w W := by rw [hW]; exact (Below.refl _ _).alloc (Nat.le_refl _) _
  have hz : w.heap.size + 1 = W.heap.size := by rw [hW]; simp
  have e0 : W.cell? ⟨w.heap.size, 0, none⟩ = some (.int .u64 (nsec now)) := by rw [hW]; go_simp
  have e1 : W.cell? ⟨w.heap.size, 1, none⟩ = some (.int .i64 (sec now)) := by rw [hW]; go_simp
  have e2 : W.cell? ⟨w.heap.size, 2, none⟩ = some (.pointer none) := by rw [hW]; go_simp
  have s2' : W.cell? ⟨sb, 2, none⟩ = some (.int .i64 tmo) := by rw [hBW.cell hsl]; exact s2
  have c2' : W.cell? ⟨Bt, 2, none⟩ = some (.int .u64 (nsec p.start)) := by rw [hBW.cell hlt]; exact c2
  have c3' : W.cell? ⟨Bt, 3, none⟩ = some (.int .i64 (sec p.start)) := by rw [hBW.cell hlt]; exact c3
  have c4' : W.cell? ⟨Bt, 4, none⟩ = some (.pointer none) := by rw [hBW.cell hlt]; exact c4
  rw [← hW]
  clear hW
  go_region_held3 (fun w' => w'.cell? ⟨w.heap.size, 0, none⟩ = some (.int .u64 (nsec now)) ∧ w'.cell? ⟨w.heap.size, 1, none⟩ = some (.int .i64 (sec now)) ∧ w'.cell? ⟨w.heap.size, 2, none⟩ = some (.pointer none) ∧ w'.cell? ⟨sb, 2, none⟩ = some (.int .i64 tmo) ∧ w'.cell? ⟨Bt, 2, none⟩ = some (.int .u64 (nsec p.start)) ∧ w'.cell? ⟨Bt, 3, none⟩ = some (.int .i64 (sec p.start)) ∧ w'.cell? ⟨Bt, 4, none⟩ = some (.pointer none))
    (first | go_keep | (go_split_ands; refine ⟨?_, ?_, ?_, ?_, ?_, ?_, ?_⟩ <;> first | (rw [hB2.cell (by simp; omega)]; assumption) | (rw [hB1.cell (by simp; omega)]; assumption)))
    (first
      | (go_at_call 18; refine (HADD.out _).mono ?_; rintro e w1 ⟨rfl, hB1⟩; have hz1 : W.heap.size ≤ w1.heap.size := hB1.size)
      | (go_at_call 51; refine (HSUB.out _).mono ?_; rintro e w2 ⟨rfl, hB2⟩))
  have hB : Below w.heap.size w w2 := (hBW.drew.trans (hB1.mono (by show w.heap.size ≤ W.heap.size; omega))).trans (hB2.mono (by omega))
  clear hBW hB1 hB2 hz hz1 e0 e1 e2 s2' c2' c3' c4' HADD HSUB
  have HB : Hid (Below w.heap.size w w2) := hB
  have hT2 : TabAt w2 Bt L D H p mu lid := h.below hB
  have hD2 := hD.below hB
  have hsz2 := hB.size
  have d5 : w2.cell? ⟨Bt, 5, none⟩ = some (.int .i64 p.tick) := hT2.c5
  have d11 : w2.cell? ⟨Bt, 11, none⟩ = some (.map (some D)) := hT2.c11
  have d12 : w2.cell? ⟨Bt, 12, none⟩ = some (.int .i64 p.past) := hT2.c12
  have u0 : w2.cell? ⟨sb, 0, none⟩ = some (.int .i64 id) := by rw [hB.cell hsl]; exact s0
  have u5 : w2.cell? ⟨sb, 5, none⟩ = some (.int .i64 0) := by rw [hB.cell hsl]; exact s5
  have v5 : w2.frozen? ⟨sb, 5, none⟩ = false := by rw [hB.frozen hsl]; exact z5
  obtain ⟨d, hd⟩ : ∃ d, d = now + tmo - p.start := ⟨_, rfl⟩
  have hd0 : -3458764513820540928 ≤ d := by omega
  have hd1 : d ≤ 3458764513820540928 := by omega
  obtain ⟨q, hq⟩ : ∃ q, (d + p.tick - 1).tdiv p.tick = q := ⟨_, rfl⟩
  have hmx : max q (p.past + 1) = t := by rw [← hq, ← ht, ← hd, ← due_eq (by omega) (by omega)]; split <;> omega
  rw [← hd] at ht ⊢
  have htk : (p.tick != 0) = true := by simp; omega
  have htk' : (p.tick == 0) = false := by simp; omega
  have hqs : (-9223372036854775808 ≤ q ∧ q ≤ 9223372036854775807) := by
    have := Int.natAbs_tdiv_le_natAbs (d + p.tick - 1) p.tick
    rw [hq] at this
    omega
  clear hB hd
  go_wp2
  go_quiet (fail)
  go_wp2_with fail
  have hTn := hT2.block (w' := w2.drewN nq) (Nat.le_refl _) rfl
  refine (unschedule_any sb _ hTn (hD2.drewN nq) h0 u0 u5 hid (Nat.lt_of_lt_of_le hsl hsz2)).mono ?_
  rintro e w3 ⟨rfl, hD3, hK3⟩
  have hK : Kept (fun b => b = D) w w3 := ((Kept.of_below HB.out).drewN nq).trans hK3
  have hsD : sb ≠ D := hD.ne_cell s0
  have hbD : Bt ≠ D := hD.ne_cell h.c11
  have ht64 : I64 t := ⟨by omega, by omega⟩
  have d11' : w3.cell? ⟨Bt, 11, none⟩ = some (.map (some D)) := by rw [hK.cell hlt hbD]; exact h.c11
  have hnil : ∀ (w : World) (r : Option Nat), (binOp .eql 49 (.map r) (.map none)).run Try.prog w = .ok (.bool r.isNone) w := fun w r => run_eql_map_nil w _ _ _ r Try.underlying49
  have hl3 := hD3.look map_ok ht64
  clear hK3 hTn hT2 hD2 HB u0 u5 v5 d5 d11 d12 hmx hq ht htk htk' hd0 hd1 hsz2
  cases hft : fD t with
  | some ib =>
    rw [hft] at hl3
    have hl3' : (Instr.lookup 50 (.map (some D)) (.int .i64 t) false).run Try.prog w3 = .ok (.map (some ib)) w3 := hl3
    obtain ⟨hib, ks, hIb⟩ := hI ib hft
    have hK4 : Kept (fun b => b = D ∨ fD t = some b) w w3 := ⟨hK.os, hK.tape, hK.output, hK.size, fun k hk hx => hK.block k hk (fun e => hx (.inl e))⟩
    have hor : fD t = some ib ∨ fD t = none ∧ w.heap.size ≤ ib := .inl hft
    have hI3 := hIb.kept hK hib
    have hfx : (fun x => if x = t then some ib else fD x) = fD := funext fun x => by by_cases hx : x = t; rw [if_pos hx, hx, hft]; rw [if_neg hx]
    have hD4 : Tab mapK w3 D (nD + 1) ksD (fun x => if x = t then some ib else fD x) := by rw [hfx]; exact hD3.mono (Nat.le_succ _)
    have hsx : ¬ (sb = D ∨ fD t = some sb) := fun e => e.elim hsD (fun e => by rw [hft] at e; injection e with e; exact hIb.ne_cell s0 e.symm)
    have hbx : ¬ (Bt = D ∨ fD t = some Bt) := fun e => e.elim hbD (fun e => by rw [hft] at e; injection e with e; exact hIb.ne_cell h.c11 e.symm)
    have hl4 : ∀ (W : World) (ks : List Int) (n : Nat), Tab mapK W D n ks (fun x => if x = t then some ib else fD x) → (Instr.lookup 50 (.map (some D)) (.int .i64 t) false).run Try.prog W = .ok (.map (some ib)) W := fun W ks n hT => by
      have hl := hT.look map_ok ht64
      rw [if_pos rfl] at hl
      exact hl
    have q0 := hl4 _ _ _ hD4
    have q1 := hl4 _ _ _ hD4.drew
    obtain ⟨W', hrun, hI5, hg⟩ := (hI3).drew.put ptr_ok hn hid sb
    have hrun' : (Instr.mapUpdate 49 (.map (some ib)) (.int .i64 id) (.pointer (some ⟨sb, 0, none⟩))).run Try.prog w3.drew = .ok () W' := hrun
    have hk5 : Kept (fun b => b = ib) w3 W' := ((Kept.refl (fun b => b = ib) w3).drew).step hg (fun k hk => .inl (by injection hk with hk; exact hk.symm))
    have q2 := hl4 _ _ _ (hD4.kept hk5 (Ne.symm hib))
    have r0 : w3.cell? ⟨sb, 0, none⟩ = some (.int .i64 id) := by rw [hK4.cell hsl hsx]; exact s0
    have r1 : w3.cell? ⟨sb, 5, none⟩ = some (.int .i64 0) := by rw [hK4.cell hsl hsx]; exact s5
    have r2 : w3.frozen? ⟨sb, 5, none⟩ = false := by rw [hK4.frozen hsl hsx]; exact z5
    have r3 : w3.cell? ⟨Bt, 11, none⟩ = some (.map (some D)) := by rw [hK4.cell hlt hbx]; exact h.c11
    have hsI : sb ≠ ib := (hI3).ne_cell r0
    have hbI : Bt ≠ ib := (hI3).ne_cell r3
    have hsl4 : sb < w3.heap.size := Nat.lt_of_lt_of_le hsl hK4.size
    have hlt4 : Bt < w3.heap.size := Nat.lt_of_lt_of_le hlt hK4.size
    have r4 : W'.cell? ⟨sb, 0, none⟩ = some (.int .i64 id) := by rw [hk5.cell hsl4 hsI]; exact r0
    have r5 : W'.cell? ⟨sb, 5, none⟩ = some (.int .i64 0) := by rw [hk5.cell hsl4 hsI]; exact r1
    have r6 : W'.frozen? ⟨sb, 5, none⟩ = false := by rw [hk5.frozen hsl4 hsI]; exact r2
    have r7 : W'.cell? ⟨Bt, 11, none⟩ = some (.map (some D)) := by rw [hk5.cell hlt4 hbI]; exact r3
    have HC : Hid (Scheduled w (W'.setCell ⟨sb, 5, none⟩ (.int .i64 t)) D sb nD nI id t fD fI) := sched_close hK4 hD4 hI5 hg hib hor hsl hsD hsI s5
    clear hl4 hrun hg hk5 hI5
    clear hfx hD4 hI3 hIb hI hI0 hor hK4 hK hl3 hft
    go_wp2
    go_region_held3 (fun w' => w'.cell? ⟨Bt, 11, none⟩ = some (.map (some D)) ∧ w'.cell? ⟨sb, 0, none⟩ = some (.int .i64 id) ∧ (Instr.lookup 50 (.map (some D)) (.int .i64 t) false).run Try.prog w' = .ok (.map (some ib)) w') (go_keep) (fail)
    go_wp2
    go_end0
    exact ⟨rfl, HC.out⟩
  | none =>
    rw [hft] at hl3
    have hl3' : (Instr.lookup 50 (.map (some D)) (.int .i64 t) false).run Try.prog w3 = .ok (.map none) w3 := hl3
    have hmm := @run_makeMap Try.prog
    have hB3 : Below w3.heap.size w3 (w3.alloc (.map #[] 0)) := (Below.refl _ _).alloc (Nat.le_refl _) _
    have hib : w3.heap.size ≠ D := Nat.ne_of_gt hD3.lt
    obtain ⟨w4, hput, hD4', hg4⟩ := (hD3.below hB3).put map_ok hnD ht64 w3.heap.size
    have hput' : (Instr.mapUpdate 50 (.map (some D)) (.int .i64 t) (.map (some w3.heap.size))).run Try.prog (w3.alloc (.map #[] 0)) = .ok () w4 := hput
    have hD4 : Tab mapK w4 D (nD + 1) (if t ∈ ksD then ksD else ksD ++ [t]) (fun x => if x = t then some w3.heap.size else fD x) := hD4'
    have hk4 : Kept (fun b => b = D) w3 w4 := (Kept.of_below hB3).step hg4 (fun k hk => .inl (by injection hk with hk; exact hk.symm))
    have hk4' : Kept (fun b => b = D) (w3.alloc (.map #[] 0)) w4 := (Kept.refl _ _).step hg4 (fun k hk => .inl (by injection hk with hk; exact hk.symm))
    have hKK := hK.trans hk4
    have hK4 : Kept (fun b => b = D ∨ fD t = some b) w w4 := ⟨hKK.os, hKK.tape, hKK.output, hKK.size, fun k hk hx => hKK.block k hk (fun e => hx (.inl e))⟩
    have hor : fD t = some w3.heap.size ∨ fD t = none ∧ w.heap.size ≤ w3.heap.size := .inr ⟨hft, hK.size⟩
    have hI3 : Tab ptrK w4 w3.heap.size nI [] fI := by rw [hI0 hft]; exact (((Tab.made ptrK w3).kept hk4' hib).mono (Nat.zero_le _))
    have hsx : ¬ (sb = D ∨ fD t = some sb) := fun e => e.elim hsD (fun e => by rw [hft] at e; cases e)
    have hbx : ¬ (Bt = D ∨ fD t = some Bt) := fun e => e.elim hbD (fun e => by rw [hft] at e; cases e)
    have hl4 : ∀ (W : World) (ks : List Int) (n : Nat), Tab mapK W D n ks (fun x => if x = t then some w3.heap.size else fD x) → (Instr.lookup 50 (.map (some D)) (.int .i64 t) false).run Try.prog W = .ok (.map (some w3.heap.size)) W := fun W ks n hT => by
      have hl := hT.look map_ok ht64
      rw [if_pos rfl] at hl
      exact hl
    have q0 := hl4 _ _ _ hD4
    have q1 := hl4 _ _ _ hD4.drew
    obtain ⟨W', hrun, hI5, hg⟩ := (hI3).drew.put ptr_ok hn hid sb
    have hrun' : (Instr.mapUpdate 49 (.map (some w3.heap.size)) (.int .i64 id) (.pointer (some ⟨sb, 0, none⟩))).run Try.prog w4.drew = .ok () W' := hrun
    have hk5 : Kept (fun b => b = w3.heap.size) w4 W' := ((Kept.refl (fun b => b = w3.heap.size) w4).drew).step hg (fun k hk => .inl (by injection hk with hk; exact hk.symm))
    have q2 := hl4 _ _ _ (hD4.kept hk5 (Ne.symm hib))
    have r0 : w4.cell? ⟨sb, 0, none⟩ = some (.int .i64 id) := by rw [hK4.cell hsl hsx]; exact s0
    have r1 : w4.cell? ⟨sb, 5, none⟩ = some (.int .i64 0) := by rw [hK4.cell hsl hsx]; exact s5
    have r2 : w4.frozen? ⟨sb, 5, none⟩ = false := by rw [hK4.frozen hsl hsx]; exact z5
    have r3 : w4.cell? ⟨Bt, 11, none⟩ = some (.map (some D)) := by rw [hK4.cell hlt hbx]; exact h.c11
    have hsI : sb ≠ w3.heap.size := (hI3).ne_cell r0
    have hbI : Bt ≠ w3.heap.size := (hI3).ne_cell r3
    have hsl4 : sb < w4.heap.size := Nat.lt_of_lt_of_le hsl hK4.size
    have hlt4 : Bt < w4.heap.size := Nat.lt_of_lt_of_le hlt hK4.size
    have r4 : W'.cell? ⟨sb, 0, none⟩ = some (.int .i64 id) := by rw [hk5.cell hsl4 hsI]; exact r0
    have r5 : W'.cell? ⟨sb, 5, none⟩ = some (.int .i64 0) := by rw [hk5.cell hsl4 hsI]; exact r1
    have r6 : W'.frozen? ⟨sb, 5, none⟩ = false := by rw [hk5.frozen hsl4 hsI]; exact r2
    have r7 : W'.cell? ⟨Bt, 11, none⟩ = some (.map (some D)) := by rw [hk5.cell hlt4 hbI]; exact r3
    have HC : Hid (Scheduled w (W'.setCell ⟨sb, 5, none⟩ (.int .i64 t)) D sb nD nI id t fD fI) := sched_close hK4 hD4 hI5 hg hib hor hsl hsD hsI s5
    clear hl4 hrun hg hk5 hI5
    clear hput hD4' hg4 hk4 hk4' hKK hB3 hD4 hI3 hI hI0 hor hK4 hK hl3 hft
    go_wp2
    go_region_held3 (fun w' => w'.cell? ⟨Bt, 11, none⟩ = some (.map (some D)) ∧ w'.cell? ⟨sb, 0, none⟩ = some (.int .i64 id) ∧ (Instr.lookup 50 (.map (some D)) (.int .i64 t) false).run Try.prog w' = .ok (.map (some w3.heap.size)) w') (go_keep) (fail)
    go_wp2
    go_end0
    exact ⟨rfl, HC.out⟩

end Go.Proofs.Qxb6628246a.Se
