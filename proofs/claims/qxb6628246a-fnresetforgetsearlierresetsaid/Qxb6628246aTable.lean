/-
  The table: its cells, ZZtime, ZZnewTable, negotiate, and the readers.
-/
import Derived.Test.Qxb6628246aGive
import Derived.Lib.MinMax
import Derived.Carry
namespace Go.Proofs.Qxb6628246a.Se
open Go.RowKit Go.Proofs.Qxb6628246a.Tm

theorem Tab.mono {K : Kind} {w : World} {B n m : Nat} {ks : List Int} {f : Int → Option Nat} (h : Tab K w B n ks f) (hm : n ≤ m) : Tab K w B m ks f := by
  obtain ⟨D, ⟨es, clock, h1, h2, h3, h4⟩, hf⟩ := h
  exact ⟨D, ⟨es, clock, h1, h2, Nat.le_trans h3 hm, h4⟩, hf⟩

theorem clamp_max (r lo hi : Int) : min (max r lo) hi = clamp r lo hi := by
  unfold clamp
  split <;> split <;> omega

theorem time0 : time 0 = .agg #[.int .u64 0, .int .i64 0, .pointer none] := rfl

theorem add0_any (d : Int) (w : World) (d0 : -4611686018427387904 ≤ d) (d1 : d ≤ 4611686018427387904) :
    Calls Try.prog 18 #[.agg #[.int .u64 0, .int .i64 0, .pointer none], .int .i64 d] w fun e w' => e = .returned (time d) ∧ Below w.heap.size w w' := by
  have h := add_any 0 d w (by omega) (by omega) d0 d1
  rw [time0, Int.zero_add] at h
  exact h

/-- ZZtime. -/
theorem time_any (n : Int) (w : World) (n0 : -4611686018427387904 ≤ n) (n1 : n ≤ 4611686018427387904) :
    Calls Try.prog 13 #[.int .i64 n] w fun e w' => e = .returned (time n) ∧ Below w.heap.size w w' := by
  go_enter Try.func13, Try.ntmps13
  go_wp2_with fail
  refine (add0_any n _ n0 n1).mono ?_
  rintro e w1 ⟨rfl, hB1⟩
  have hs := hB1.size
  have hc0 : w1.cell? ⟨w.heap.size, 0, none⟩ = some (.int .u64 0) := by rw [hB1.cell (by simp)]; go_simp
  have hc1 : w1.cell? ⟨w.heap.size, 1, none⟩ = some (.int .i64 0) := by rw [hB1.cell (by simp)]; go_simp
  have hc2 : w1.cell? ⟨w.heap.size, 2, none⟩ = some (.pointer none) := by rw [hB1.cell (by simp)]; go_simp
  have hz0 : w1.frozen? ⟨w.heap.size, 0, none⟩ = false := by rw [hB1.frozen (by simp)]; go_simp
  have hz1 : w1.frozen? ⟨w.heap.size, 1, none⟩ = false := by rw [hB1.frozen (by simp)]; go_simp
  have hz2 : w1.frozen? ⟨w.heap.size, 2, none⟩ = false := by rw [hB1.frozen (by simp)]; go_simp
  have HB : Hid (Below w.heap.size w w1) := ((Below.refl _ _).alloc (Nat.le_refl _) _).trans (hB1.mono (by simp))
  clear hB1
  simp at hs
  unfold time
  go_wp2
  refine bodyPost_ret (v := .agg #[.int .u64 (nsec n), .int .i64 (sec n), .pointer none]) (by simp [results, Try.results13, go_sem, hc0, hc1, hc2]) rfl ⟨rfl, ?_⟩
  exact ((HB.out.setCell (p := ⟨w.heap.size, 0, none⟩) (Nat.le_refl _) _).setCell (p := ⟨w.heap.size, 1, none⟩) (Nat.le_refl _) _).setCell (p := ⟨w.heap.size, 2, none⟩) (Nat.le_refl _) _

/-- A table's own numbers. -/
structure Par where
  lo : Int
  hi : Int
  start : Int
  tick : Int
  server : Int
  past : Int

/-- A TABLE AT BLOCK Bt: its maps are the blocks L (live), D (due), H (heard); mu: its lock's state word. -/
structure TabAt (w : World) (Bt L D H : Nat) (p : Par) (mu lid : Int) : Prop where
  lt : Bt < w.heap.size
  c0 : w.cell? ⟨Bt, 0, none⟩ = some (.int .i64 p.lo)
  c1 : w.cell? ⟨Bt, 1, none⟩ = some (.int .i64 p.hi)
  c2 : w.cell? ⟨Bt, 2, none⟩ = some (.int .u64 (nsec p.start))
  c3 : w.cell? ⟨Bt, 3, none⟩ = some (.int .i64 (sec p.start))
  c4 : w.cell? ⟨Bt, 4, none⟩ = some (.pointer none)
  c5 : w.cell? ⟨Bt, 5, none⟩ = some (.int .i64 p.tick)
  c6 : w.cell? ⟨Bt, 6, none⟩ = some (.int .i64 p.server)
  c7 : w.cell? ⟨Bt, 7, none⟩ = some (.int .i32 mu)
  c9 : w.cell? ⟨Bt, 9, none⟩ = some (.int .i64 lid)
  c10 : w.cell? ⟨Bt, 10, none⟩ = some (.map (some L))
  c11 : w.cell? ⟨Bt, 11, none⟩ = some (.map (some D))
  c12 : w.cell? ⟨Bt, 12, none⟩ = some (.int .i64 p.past)
  c13 : w.cell? ⟨Bt, 13, none⟩ = some (.map (some H))
  z7 : w.frozen? ⟨Bt, 7, none⟩ = false
  z9 : w.frozen? ⟨Bt, 9, none⟩ = false

theorem TabAt.block {w w' : World} {Bt L D H : Nat} {p : Par} {mu lid : Int} (h : TabAt w Bt L D H p mu lid) (hs : w.heap.size ≤ w'.heap.size) (hb : w'.heap[Bt]? = w.heap[Bt]?) : TabAt w' Bt L D H p mu lid := by
  have hc : ∀ k, w'.cell? ⟨Bt, k, none⟩ = w.cell? ⟨Bt, k, none⟩ := fun k => World.cell?_of_block (w := w) hb
  have hz : ∀ k, w'.frozen? ⟨Bt, k, none⟩ = w.frozen? ⟨Bt, k, none⟩ := fun k => World.frozen?_of_block (w := w) hb
  obtain ⟨h1, c0, c1, c2, c3, c4, c5, c6, c7, c9, c10, c11, c12, c13, z7, z9⟩ := h
  refine ⟨Nat.lt_of_lt_of_le h1 hs, ?_, ?_, ?_, ?_, ?_, ?_, ?_, ?_, ?_, ?_, ?_, ?_, ?_, ?_, ?_⟩ <;> first | (rw [hc]; assumption) | (rw [hz]; assumption)

theorem TabAt.kept {X : Nat → Prop} {w w' : World} {Bt L D H : Nat} {p : Par} {mu lid : Int} (h : TabAt w Bt L D H p mu lid) (hk : Kept X w w') (hx : ¬ X Bt) : TabAt w' Bt L D H p mu lid := h.block hk.size (hk.block Bt h.lt hx)
theorem TabAt.below {w w' : World} {Bt L D H : Nat} {p : Par} {mu lid : Int} (h : TabAt w Bt L D H p mu lid) (hk : Below w.heap.size w w') : TabAt w' Bt L D H p mu lid := h.block hk.size (hk.block Bt h.lt)

/-- negotiate. -/
theorem negotiate_cells {Bt : Nat} {lo hi : Int} (r : Int) (w : World) (g0 : w.cell? ⟨Bt, 0, none⟩ = some (.int .i64 lo)) (g1 : w.cell? ⟨Bt, 1, none⟩ = some (.int .i64 hi)) :
    Calls Try.prog 25 #[.pointer (some ⟨Bt, 0, none⟩), .int .i64 r] w fun e w' => e = .returned (.int .i64 (clamp r lo hi)) ∧ ∃ n, w' = w.drewN n := by
  rw [← clamp_max]
  go_enter Try.func25, Try.ntmps25
  go_wp2
  go_quiet (fail)
  go_wp2
  go_ret
  exact ⟨rfl, _, rfl⟩

/-- The three maps of a table, apart. -/
structure Apart (Bt L D H : Nat) : Prop where
  tl : Bt ≠ L
  td : Bt ≠ D
  th : Bt ≠ H
  ld : L ≠ D
  lh : L ≠ H
  dh : D ≠ H

/-- ZZnewTable. -/
theorem newTable_any (p : Par) (lid : Int) (w : World) (n0 : -1152921504606846976 ≤ p.start) (n1 : p.start ≤ 1152921504606846976) :
    Calls Try.prog 9 #[.int .i64 p.lo, .int .i64 p.hi, .int .i64 p.start, .int .i64 p.tick, .int .i64 p.server, .int .i64 p.past, .int .i64 lid] w fun e w' => ∃ Bt L D H, e = .returned (.pointer (some ⟨Bt, 0, none⟩)) ∧ TabAt w' Bt L D H p 0 lid ∧
      Tab ptrK w' L 0 [] (fun _ => none) ∧ Tab mapK w' D 0 [] (fun _ => none) ∧ (∃ es c, w'.heap[H]? = some (.map es c)) ∧ Apart Bt L D H ∧ w.heap.size ≤ Bt ∧ w.heap.size ≤ L ∧ w.heap.size ≤ D ∧ w.heap.size ≤ H ∧ Below w.heap.size w w' := by
  have hmm := @run_makeMap Try.prog
  go_enter Try.func9, Try.ntmps9
  go_wp2_with fail
  refine (add0_any p.start _ (by omega) (by omega)).mono ?_
  rintro e w1 ⟨rfl, hB1⟩
  have hs := hB1.size
  have HT : Hid (∀ a1 a2 a3 a4 : World, a1 = w1.alloc (.map #[] 0) → a2 = a1.alloc (.map #[] 0) → a3 = a2.alloc (.map #[] 0) →
      a4 = a3.alloc (.cells #[.int .i64 p.lo, .int .i64 p.hi, .int .u64 (nsec p.start), .int .i64 (sec p.start), .pointer none, .int .i64 p.tick, .int .i64 p.server, .int .i32 0, .int .u32 0, .int .i64 lid, .map (some w1.heap.size), .map (some (w1.heap.size + 1)), .int .i64 p.past, .map (some (w1.heap.size + 1 + 1))] 60) →
      TabAt a4 (w1.heap.size + 1 + 1 + 1) w1.heap.size (w1.heap.size + 1) (w1.heap.size + 1 + 1) p 0 lid ∧
      Tab ptrK a4 w1.heap.size 0 [] (fun _ => none) ∧ Tab mapK a4 (w1.heap.size + 1) 0 [] (fun _ => none) ∧ (∃ es c, a4.heap[w1.heap.size + 1 + 1]? = some (.map es c)) ∧ Below w.heap.size w a4) := by
    intro a1 a2 a3 a4 h1 h2 h3 h4
    have z1 : a1.heap.size = w1.heap.size + 1 := by rw [h1]; simp
    have z2 : a2.heap.size = w1.heap.size + 1 + 1 := by rw [h2]; simp [z1]
    have z3 : a3.heap.size = w1.heap.size + 1 + 1 + 1 := by rw [h3]; simp [z2]
    have b1 : Below w1.heap.size w1 a1 := by rw [h1]; exact (Below.refl _ _).alloc (Nat.le_refl _) _
    have b2 : Below a1.heap.size a1 a2 := by rw [h2]; exact (Below.refl _ _).alloc (Nat.le_refl _) _
    have b3 : Below a2.heap.size a2 a3 := by rw [h3]; exact (Below.refl _ _).alloc (Nat.le_refl _) _
    have b4 : Below a3.heap.size a3 a4 := by rw [h4]; exact (Below.refl _ _).alloc (Nat.le_refl _) _
    have t1 : Tab ptrK a1 w1.heap.size 0 [] (fun _ => none) := by rw [h1]; exact Tab.made ptrK w1
    have t2 : Tab mapK a2 (w1.heap.size + 1) 0 [] (fun _ => none) := by have := Tab.made mapK a1; rw [← h2, z1] at this; exact this
    have t3 : Tab mapK a3 (w1.heap.size + 1 + 1) 0 [] (fun _ => none) := by have := Tab.made mapK a2; rw [← h3, z2] at this; exact this
    have hB4 : Below w.heap.size w a4 := (((hB1.trans (b1.mono hs)).trans (b2.mono (by omega))).trans (b3.mono (by omega))).trans (b4.mono (by omega))
    refine ⟨?_, ((t1.below b2).below b3).below b4, (t2.below b3).below b4, (t3.below b4).isMap, hB4⟩
    rw [← z3]
    refine ⟨by rw [h4]; simp, ?_, ?_, ?_, ?_, ?_, ?_, ?_, ?_, ?_, ?_, ?_, ?_, ?_, ?_, ?_⟩ <;> rw [h4] <;> go_simp
  clear hB1
  unfold time
  go_wp2
  go_ret
  obtain ⟨k1, k2, k3, k4, k5⟩ := HT.out _ _ _ _ rfl rfl rfl rfl
  exact ⟨_, _, _, _, rfl, k1, k2, k3, k4, ⟨by omega, by omega, by omega, by omega, by omega, by omega⟩, by omega, by omega, by omega, by omega, k5⟩

end Go.Proofs.Qxb6628246a.Se
