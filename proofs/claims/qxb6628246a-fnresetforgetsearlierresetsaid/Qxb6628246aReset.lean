/-
  Reset, walked.
-/
import Derived.Test.Qxb6628246aInv
import Derived.Test.Qxb6628246aLocks
namespace Go.Proofs.Qxb6628246a.Se
open Go.RowKit Go.Proofs.Qxb6628246a.Tm Go.MuLone

theorem RInv.rebase {w W wr : World} {Bt L D H : Nat} {p : Par} {mu lid : Int} {es : Es} (h : RInv W wr Bt L D H p mu lid es) (hB : Below w.heap.size w W) : RInv w wr Bt L D H p mu lid es := by
  have hs := hB.size
  refine ⟨h.tab, h.live, ?_, fun e he => ?_, h.heard, (Kept.of_below hB).trans h.kept⟩
  · obtain ⟨ks, ib, a, b⟩ := h.due
    exact ⟨ks, ib, a, fun t ht => by obtain ⟨c, d⟩ := b t ht; exact ⟨Nat.le_trans hs c, d⟩⟩
  · obtain ⟨a, b⟩ := h.ses e he
    exact ⟨Nat.le_trans hs a, b⟩

theorem TabAt.setMu {w : World} {Bt L D H : Nat} {p : Par} {mu lid : Int} (h : TabAt w Bt L D H p mu lid) (x : Int) : TabAt (w.setCell ⟨Bt, 7, none⟩ (.int .i32 x)) Bt L D H p x lid := by
  have ho : ∀ o, o ≠ 7 → (w.setCell ⟨Bt, 7, none⟩ (.int .i32 x)).cell? ⟨Bt, o, none⟩ = w.cell? ⟨Bt, o, none⟩ := fun o ho => World.cell?_setCell_other _ _ _ _ (fun e => by injection e with _ e; exact ho e.symm)
  obtain ⟨h1, c0, c1, c2, c3, c4, c5, c6, c7, c9, c10, c11, c12, c13, z7, z9⟩ := h
  refine ⟨by simpa [World.setCell] using h1, ?_, ?_, ?_, ?_, ?_, ?_, ?_, World.cell?_setCell_same _ _ _ c7, ?_, ?_, ?_, ?_, ?_, by rw [World.frozen?_setCell]; exact z7, by rw [World.frozen?_setCell]; exact z9⟩ <;> (rw [ho _ (by decide)]; assumption)

set_option maxRecDepth 100000 in
set_option maxHeartbeats 4000000 in
theorem reset_any {Bt L D H : Nat} {p : Par} {lid now : Int} (a : Option Addr) (len cap : Nat) (l : List Ses) (w : World) (h : TabAt w Bt L D H p 0 lid) (hmL : ∃ es c, w.heap[L]? = some (.map es c)) (hmD : ∃ es c, w.heap[D]? = some (.map es c)) (hmH : ∃ es c, w.heap[H]? = some (.map es c)) (hA : Apart Bt L D H)
    (hlt : Bt < w.heap.size ∧ L < w.heap.size ∧ D < w.heap.size ∧ H < w.heap.size) (hG : GAt (TX Bt L D H) w a len l) (hP : ∀ s ∈ l, ParOK p now (clamp s.made p.lo p.hi)) (hid : ∀ s ∈ l, I64 s.id) (hl4 : len ≤ 4096) :
    Calls Try.prog 12 #[.pointer (some ⟨Bt, 0, none⟩), .slice a len cap, time now] w fun e w' => e = .returned (.tuple #[]) ∧ ∃ es, RInv w w' Bt L D H p 0 (lastId p.server lid l) es ∧ es.reverse.map (·.1) = l.map (upd p now) := by
  have c61 := cells61
  unfold time
  go_enter_defers Try.func12, Try.ntmps12
  go_wp2_with fail
  obtain ⟨W, hW⟩ : ∃ W, W = w.alloc (.cells #[.int .u64 (nsec now), .int .i64 (sec now), .pointer none] 38) := ⟨_, rfl⟩
  have hBW : Below w.heap.size w W := by rw [hW]; exact (Below.refl _ _).alloc (Nat.le_refl _) _
  have hz : W.heap.size = w.heap.size + 1 := by rw [hW]; simp
  have e0 : W.cell? ⟨w.heap.size, 0, none⟩ = some (.int .u64 (nsec now)) := by rw [hW]; go_simp
  have e1 : W.cell? ⟨w.heap.size, 1, none⟩ = some (.int .i64 (sec now)) := by rw [hW]; go_simp
  have e2 : W.cell? ⟨w.heap.size, 2, none⟩ = some (.pointer none) := by rw [hW]; go_simp
  rw [← hW]
  clear hW
  have hTW := h.below hBW
  refine (lock_free Lk.muLib ⟨Bt, 7, none⟩ _ hTW.c7 hTW.z7).mono ?_
  rintro e w1 ⟨rfl, hw1⟩
  obtain ⟨l1, l2, l3, l4⟩ := hlt
  have hT1 : TabAt w1 Bt L D H p 1 lid := by rw [hw1]; exact hTW.setMu 1
  have hk1 : Kept (TX Bt L D H) W w1 := by rw [hw1]; exact (Kept.refl (TX Bt L D H) W).set _ _ _ (.inl (.inl rfl))
  have hm1 : ∀ b, b < w.heap.size → b ≠ Bt → w1.heap[b]? = w.heap[b]? := fun b hb hne => by
    rw [hw1, Below.heap_setCell _ _ _ _ (fun e => hne e), hBW.block b hb]
  clear hw1 hTW
  obtain ⟨eL, cL, hmL⟩ := hmL
  obtain ⟨eD, cD, hmD⟩ := hmD
  obtain ⟨eH, cH, hmH⟩ := hmH
  obtain ⟨w2, hr2, ht2, hc2, hg2⟩ := clear_any ptrK ((hm1 L l2 (Ne.symm hA.tl)).trans hmL) 49 61 Try.underlying49 0
  obtain ⟨w3, hr3, ht3, hc3, hg3⟩ := clear_any mapK ((hg2.block D (by have := hk1.size; omega) (fun e => by injection e with e; exact hA.ld e.symm)).trans ((hm1 D l3 (Ne.symm hA.td)).trans hmD)) 50 49 Try.underlying50 0
  obtain ⟨w4, hr4, ht4, hc4, hg4⟩ := clear_any mapK ((hg3.block H (by have := hk1.size; have := hg2.size; omega) (fun e => by injection e with e; exact hA.dh e.symm)).trans ((hg2.block H (by have := hk1.size; omega) (fun e => by injection e with e; exact hA.lh e.symm)).trans ((hm1 H l4 (Ne.symm hA.th)).trans hmH))) 51 38 Try.underlying51 0
  have s1 := hk1.size
  have s2 := hg2.size
  have s3 := hg3.size
  have s4 := hg4.size
  have k2 : Kept (fun b => b = L) w1 w2 := (Kept.refl _ _).step hg2 (fun k hk => .inl (by injection hk with hk; exact hk.symm))
  have k3 : Kept (fun b => b = D) w2 w3 := (Kept.refl _ _).step hg3 (fun k hk => .inl (by injection hk with hk; exact hk.symm))
  have k4 : Kept (fun b => b = H) w3 w4 := (Kept.refl _ _).step hg4 (fun k hk => .inl (by injection hk with hk; exact hk.symm))
  have hT2 := hT1.kept k2 hA.tl
  have hT3 := hT2.kept k3 hA.td
  have hT4 := hT3.kept k4 hA.th
  have hR0 : RInv W w4 Bt L D H p 1 lid [] := by
    refine ⟨hT4, ⟨[], (ht2.kept k3 hA.ld).kept k4 hA.lh⟩, ⟨[], (fun _ => 0), ht3.kept k4 hA.dh, fun t ht => absurd ht (by simp [hasT])⟩, fun e he => absurd he (by simp), ⟨_, hc4⟩, ?_⟩
    refine ⟨k4.os.trans (k3.os.trans (k2.os.trans hk1.os)), k4.tape.trans (k3.tape.trans (k2.tape.trans hk1.tape)), k4.output.trans (k3.output.trans (k2.output.trans hk1.output)), by omega, fun k hk hx => ?_⟩
    rw [k4.block k (by omega) (fun e => hx (.inr (.inr (.inr e)))), k3.block k (by omega) (fun e => hx (.inr (.inr (.inl e)))), k2.block k (by omega) (fun e => hx (.inr (.inl e))), hk1.block k hk hx]
  have g10 := hT1.c10
  have g11 := hT2.c11
  have g13 := hT3.c13
  have HR0 : Hid (RInv W w4 Bt L D H p 1 lid []) := hR0
  clear hR0 hT1 hT2 hT3 hT4 k2 k3 k4 hk1 hm1 ht2 ht3 ht4 hc2 hc3 hc4 hg2 hg3 hg4 hmL hmD hmH s1 s2 s3 s4
  go_wp2_with fail
  go_loopw [29] (fun ti wr => ∃ (k : Nat) (es : Es), k ≤ len ∧ ti = .int .i64 k ∧ Hid (RInv W wr Bt L D H p 1 (lastId p.server lid (l.take k)) es ∧ es.reverse.map (·.1) = (l.take k).map (upd p now))) (fun ti _ => len - (intOf ti).toNat)
  case atStart => exact ⟨0, [], Nat.zero_le _, rfl, ⟨HR0.out, rfl⟩⟩
  case round =>
    obtain ⟨k, es, hk, rfl, HR⟩ := hrel
    clear HR0 hr2 hr3 hr4 g10 g11 g13
    by_cases hkl : (k : Int) < (len : Int)
    · obtain ⟨gb, goff, rfl, hglt, hgx, hgc⟩ := hG.cells (by omega)
      have hkl' : k < l.length := by rw [hG.length]; omega
      obtain ⟨s, hs⟩ : ∃ s, l[k]? = some s := ⟨_, List.getElem?_eq_getElem hkl'⟩
      obtain ⟨sb, pv, hgp, hSes⟩ := hgc k s hs
      have hR := HR.out.1
      have hKw : Kept (TX Bt L D H) w wr := (Kept.of_below hBW).trans hR.kept
      have f0 : wr.cell? ⟨gb, goff + k, none⟩ = some (.pointer (some ⟨sb, 0, none⟩)) := by rw [hKw.cell hglt hgx]; exact hgp
      have hS' := hSes.kept hKw
      have f1 := hS'.id
      have f2 := hS'.pw
      have f3 := hS'.made
      have f4 := hS'.server
      have c0 := hR.tab.c0
      have c1 := hR.tab.c1
      have hwx : ¬ TX Bt L D H w.heap.size := by rintro (h | h | h | h) <;> omega
      have y0 : wr.cell? ⟨w.heap.size, 0, none⟩ = some (.int .u64 (nsec now)) := by rw [hR.kept.cell (by omega) hwx]; exact e0
      have y1 : wr.cell? ⟨w.heap.size, 1, none⟩ = some (.int .i64 (sec now)) := by rw [hR.kept.cell (by omega) hwx]; exact e1
      have y2 : wr.cell? ⟨w.heap.size, 2, none⟩ = some (.pointer none) := by rw [hR.kept.cell (by omega) hwx]; exact e2
      rw [Nat.zero_add] at f2 f3 f4
      have q0 : sb < wr.heap.size := hS'.lt
      have q1 : Bt < wr.heap.size := hR.tab.lt
      have q2 : w.heap.size < wr.heap.size := by have := hR.kept.size; omega
      have hmem : s ∈ l := List.mem_of_getElem? hs
      obtain ⟨pa, pl, pc, rfl, hpw⟩ : ∃ pa pl pc, pv = .slice pa pl pc ∧ PwAt (TX Bt L D H) wr (.slice pa pl pc) s.pw := by
        obtain ⟨pa, pl, pc, rfl, hpw⟩ := hS'.bytes
        exact ⟨pa, pl, pc, rfl, pa, pl, pc, rfl, hpw⟩
      have hel : es.length = k := by
        have := congrArg List.length HR.out.2
        rw [List.length_map, List.length_reverse, List.length_map, List.length_take] at this
        omega
      have hWz := hR.kept.size
      have HADD : Hid (∀ m, Calls Try.prog 24 #[.pointer (some ⟨Bt, 0, none⟩), .pointer (some ⟨wr.heap.size, 0, none⟩), .agg #[.int .u64 (nsec now), .int .i64 (sec now), .pointer none]] ((wr.alloc (.cells #[.int .i64 s.id, .slice pa pl pc, .int .i64 (clamp s.made p.lo p.hi), .int .i64 s.made, .int .i64 s.server, .int .i64 0] 67)).drewN m)
          fun e w' => e = .returned (.pointer (some ⟨wr.heap.size, 0, none⟩)) ∧ Hid (RInv W w' Bt L D H p 1 (upId p.server (lastId p.server lid (l.take k)) s) ((upd p now s, wr.heap.size) :: es)) ∧ w'.cell? ⟨sb, 0, none⟩ = some (.int .i64 s.id) ∧ w'.cell? ⟨sb, 1, none⟩ = some (.slice pa pl pc) ∧ w'.cell? ⟨sb, 3, none⟩ = some (.int .i64 s.made) ∧ w'.cell? ⟨sb, 4, none⟩ = some (.int .i64 s.server) ∧ w'.cell? ⟨Bt, 0, none⟩ = some (.int .i64 p.lo) ∧ w'.cell? ⟨Bt, 1, none⟩ = some (.int .i64 p.hi) ∧ w'.cell? ⟨w.heap.size, 0, none⟩ = some (.int .u64 (nsec now)) ∧ w'.cell? ⟨w.heap.size, 1, none⟩ = some (.int .i64 (sec now)) ∧ w'.cell? ⟨w.heap.size, 2, none⟩ = some (.pointer none)) := by
        intro m
        have hBm : Below wr.heap.size wr (wr.drewN m) := below_drewN (Below.refl _ _) m
        refine (add_step (W := wr.drewN m) s (.slice pa pl pc) (hR.below hBm) hA ⟨by omega, by omega, by omega, by omega⟩ (hP s hmem) (hid s hmem) (hpw.below hBm) (by rw [hel]; unfold maxLen; omega)).mono ?_
        rintro e w' ⟨rfl, hR', _⟩
        have hsW : sb < w.heap.size := hSes.lt
        have hcs : ∀ o, w'.cell? ⟨sb, o, none⟩ = wr.cell? ⟨sb, o, none⟩ := fun o => by rw [hR'.kept.cell (by omega) hSes.out, hR.kept.cell (by omega) hSes.out]
        have hcw : ∀ o, w'.cell? ⟨w.heap.size, o, none⟩ = wr.cell? ⟨w.heap.size, o, none⟩ := fun o => by rw [hR'.kept.cell (by omega) hwx, hR.kept.cell (by omega) hwx]
        exact ⟨rfl, hR', (hcs _).trans f1, (hcs _).trans f2, (hcs _).trans f3, (hcs _).trans f4, hR'.tab.c0, hR'.tab.c1, (hcw _).trans y0, (hcw _).trans y1, (hcw _).trans y2⟩
      have hnb : ¬ sb = wr.heap.size := by omega
      have hnb' : ¬ wr.heap.size = sb := by omega
      have hnt : ¬ Bt = wr.heap.size := by omega
      have hnt' : ¬ wr.heap.size = Bt := by omega
      have hnw : ¬ w.heap.size = wr.heap.size := by omega
      have hnw' : ¬ wr.heap.size = w.heap.size := by omega
      clear hgp hSes hgc hKw hpw hS' hR
      go_wp2_with fail
      go_region_held3 (fun w' => w'.cell? ⟨sb, 0, none⟩ = some (.int .i64 s.id) ∧ w'.cell? ⟨sb, 1, none⟩ = some (.slice pa pl pc) ∧ w'.cell? ⟨sb, 3, none⟩ = some (.int .i64 s.made) ∧ w'.cell? ⟨sb, 4, none⟩ = some (.int .i64 s.server) ∧ w'.cell? ⟨Bt, 0, none⟩ = some (.int .i64 p.lo) ∧ w'.cell? ⟨Bt, 1, none⟩ = some (.int .i64 p.hi) ∧ w'.cell? ⟨w.heap.size, 0, none⟩ = some (.int .u64 (nsec now)) ∧ w'.cell? ⟨w.heap.size, 1, none⟩ = some (.int .i64 (sec now)) ∧ w'.cell? ⟨w.heap.size, 2, none⟩ = some (.pointer none))
        (go_keep)
        (first
          | (go_at_call 25; refine (negotiate_cells (lo := p.lo) (hi := p.hi) s.made wr.drew c0 c1).mono ?_; rintro e w' ⟨rfl, n, rfl⟩)
          | (go_at_call 24; refine (HADD.out _).mono ?_; rintro e wn ⟨rfl, HRn, n1, n2, n3, n4, n5, n6, n7, n8, n9⟩))
      have HN : Hid (RInv W wn Bt L D H p 1 (lastId p.server lid (l.take (k + 1))) ((upd p now s, wr.heap.size) :: es) ∧ ((upd p now s, wr.heap.size) :: es).reverse.map (·.1) = (l.take (k + 1)).map (upd p now)) := by
        refine ⟨?_, ?_⟩
        · rw [lastId_snoc hs]; exact HRn.out
        · rw [List.reverse_cons, List.map_append, HR.out.2, List.take_add_one, hs]
          simp
      clear HRn HR HADD hs hmem
      go_wp2
      refine ⟨⟨k + 1, _, by omega, by go_num, HN⟩, ?_⟩
      simp [intOf]
      omega
    · obtain rfl : k = len := by omega
      have hlk : l.take k = l := List.take_of_length_le (by rw [hG.length]; exact Nat.le_refl _)
      rw [hlk] at HR
      have hR := HR.out.1
      have g7 := hR.tab.c7
      have z7 := hR.tab.z7
      have HE : Hid (∃ es, RInv w (wr.setCell ⟨Bt, 7, none⟩ (.int .i32 0)) Bt L D H p 0 (lastId p.server lid l) es ∧ es.reverse.map (·.1) = l.map (upd p now)) := by
        refine ⟨es, ?_, HR.out.2⟩
        have hk7 : Kept (fun b => b = Bt) wr (wr.setCell ⟨Bt, 7, none⟩ (.int .i32 0)) := (Kept.refl _ _).set _ _ _ (.inl rfl)
        have hrb := hR.rebase hBW
        refine ⟨hR.tab.setMu 0, ?_, ?_, fun e he => ?_, ?_, hrb.kept.set _ _ _ (.inl (.inl rfl))⟩
        · obtain ⟨ks, hh⟩ := hrb.live
          exact ⟨ks, hh.kept hk7 (Ne.symm hA.tl)⟩
        · obtain ⟨ks, ib, hh, hi⟩ := hrb.due
          refine ⟨ks, ib, hh.kept hk7 (Ne.symm hA.td), fun t ht => ?_⟩
          obtain ⟨b1, ⟨ks', b2⟩, b3⟩ := hi t ht
          exact ⟨b1, ⟨ks', b2.kept hk7 (by show ¬ _ = _; omega)⟩, b3⟩
        · obtain ⟨b1, b2, pv, b3⟩ := hrb.ses e he
          refine ⟨b1, b2, pv, b3.weaken (Y := TX Bt L D H) (fun _ _ h => h) |>.kept ((Kept.refl _ _).set _ _ _ (.inl (.inl rfl)))⟩
        · obtain ⟨c, hc⟩ := hrb.heard
          exact ⟨c, (hk7.block H (by have := hrb.kept.size; omega) (Ne.symm hA.th)).trans hc⟩
      clear hR HR
      go_wp2_with fail
      refine leaves_cons (f := 23) (args := #[.pointer (some ⟨Bt, 7, none⟩)]) (by simp) (by simp [go_sem]) ?_
      refine (unlock_deferred Lk.muLib ⟨Bt, 7, none⟩ .returning _ g7 z7).mono ?_
      rintro e u' w'' ⟨rfl, rfl, rfl⟩
      obtain ⟨es', hE1, hE2⟩ := HE.out
      exact ⟨_, results_none rfl _ _ _, rfl, es', hE1, by rw [← List.map_reverse]; exact hE2⟩

end Go.Proofs.Qxb6628246a.Se
