/-
  time.fmtInt and time.fmtFrac, walked: they write digits into the buffer and nothing else, and stay inside it.
-/
import Derived.Test.Qxb6628281aFmtRows
import Derived.WalkKit
import Derived.ProofKit
namespace Go.Proofs.Qxb6628281aFmt.Du
open Go.RowKit

/-- BLOCK B IS A BUFFER OF 32 BYTES THAT MAY BE WRITTEN. -/
def Buf (w : World) (B : Nat) : Prop := ∀ i, i < 32 → (∃ c : Int, 0 ≤ c ∧ c ≤ 255 ∧ w.cell? ⟨B, i, none⟩ = some (.int .u8 c)) ∧ w.frozen? ⟨B, i, none⟩ = false

/-- w' IS w BUT FOR BLOCK B. -/
structure Wrote (B : Nat) (w w' : World) : Prop where
  os : w'.os = w.os
  tape : w'.tape = w.tape
  output : w'.output = w.output
  size : w'.heap.size = w.heap.size
  block : ∀ k, k ≠ B → w'.heap[k]? = w.heap[k]?

theorem Wrote.refl (B : Nat) (w : World) : Wrote B w w := ⟨rfl, rfl, rfl, rfl, fun _ _ => rfl⟩
theorem Wrote.trans {B : Nat} {a b c : World} (h : Wrote B a b) (k : Wrote B b c) : Wrote B a c :=
  ⟨k.os.trans h.os, k.tape.trans h.tape, k.output.trans h.output, k.size.trans h.size, fun i hi => (k.block i hi).trans (h.block i hi)⟩
theorem Wrote.set {B : Nat} {a w : World} (h : Wrote B a w) (o : Nat) (v : Value) : Wrote B a (w.setCell ⟨B, o, none⟩ v) :=
  h.trans ⟨rfl, rfl, rfl, by simp [World.setCell], fun k hk => Below.heap_setCell _ _ _ _ hk⟩

theorem Buf.set {w : World} {B : Nat} (h : Buf w B) (o : Nat) (c : Int) (h0 : 0 ≤ c) (h1 : c ≤ 255) : Buf (w.setCell ⟨B, o, none⟩ (.int .u8 c)) B := by
  intro i hi
  obtain ⟨⟨x, x0, x1, hx⟩, hf⟩ := h i hi
  refine ⟨?_, by rw [World.frozen?_setCell]; exact hf⟩
  by_cases e : i = o
  · subst e
    exact ⟨c, h0, h1, by go_simp⟩
  · refine ⟨x, x0, x1, ?_⟩
    rw [World.cell?_setCell_other w ⟨B, o, none⟩ ⟨B, i, none⟩ _ (by intro h; injection h with _ h; exact e h.symm)]
    exact hx

theorem ret_int {k : IntKind} {a b : Int} (h : a = b) : Ending.returned (.int k a) = .returned (.int k b) := by rw [h]

theorem ret_frac {n a b : Int} (h : a = b) : Ending.returned (.tuple #[.int .i64 n, .int .u64 a]) = .returned (.tuple #[.int .i64 n, .int .u64 b]) := by rw [h]

theorem cells5 : Tryf.prog.cellsOf 5 = 1 := by kernel_rfl

/-- One digit less. -/
theorem ten_step {x : Int} {j : Nat} (h : x < 10 ^ j) (hx : 0 < x) : ∃ i, j = i + 1 ∧ x / 10 < 10 ^ i := by
  cases j with
  | zero => simp at h; omega
  | succ i =>
    refine ⟨i, rfl, ?_⟩
    rw [Int.pow_succ] at h
    generalize (10 : Int) ^ i = t at *
    omega

set_option maxHeartbeats 1000000 in
theorem fmtInt_any (B L C d : Nat) (v : Int) (w : World) (hB : Buf w B) (h0 : 0 ≤ v) (hv : v < 10 ^ d) (hu : v ≤ 18446744073709551615) (hd : 1 ≤ d) (hdL : d ≤ L) (hL : L ≤ 32) :
    Calls Tryf.prog 16 #[.slice (some ⟨B, 0, none⟩) L C, .int .u64 v] w fun e w' => ∃ n : Nat, e = .returned (.int .i64 n) ∧ L ≤ n + d ∧ n ≤ L ∧ Wrote B w w' ∧ Buf w' B := by
  have c5 := cells5
  by_cases hz : v = 0
  · subst hz
    obtain ⟨⟨c, c0, c1, hc⟩, hf⟩ := hB (L - 1) (by omega)
    have e1 : (L : Int) - 1 = ((L - 1 : Nat) : Int) := by omega
    have hlt : ((L - 1 : Nat) : Int) < (L : Int) := by omega
    go_enter Tryf.func16, Tryf.ntmps16
    go_wp2
    go_ret
    exact ⟨L - 1, ret_int rfl, by omega, by omega, (Wrote.refl _ _).set _ _, hB.set _ _ (by omega) (by omega)⟩
  · have HV : Hid (v < 10 ^ d) := hv
    clear hv
    have hp : 0 < v := by omega
    have hz' : (v == 0) = false := beq_eq_false_iff_ne.2 hz
    go_enter Tryf.func16, Tryf.ntmps16
    go_wp2
    go_loopw [1, 5] (fun tv tn wr => ∃ (x : Int) (n j : Nat), tv = .int .u64 x ∧ tn = .int .i64 n ∧ 0 ≤ x ∧ x ≤ 18446744073709551615 ∧ Hid (x < 10 ^ j) ∧ n + d = L + j ∧ j ≤ d ∧ Wrote B w wr ∧ Buf wr B) (fun tv _ _ => (intOf tv).toNat)
    case atStart => exact ⟨v, L, d, rfl, rfl, h0, hu, HV, rfl, Nat.le_refl _, Wrote.refl _ _, hB⟩
    case round =>
      obtain ⟨x, n, j, rfl, rfl, x0, xu, HX, hn, hj, hW, hBr⟩ := hrel
      by_cases hx : 0 < x
      · obtain ⟨i, rfl, hi⟩ := ten_step HX.out hx
        have HI : Hid (x / 10 < 10 ^ i) := hi
        clear hi HX
        obtain ⟨m, rfl⟩ : ∃ m, n = m + 1 := ⟨n - 1, by omega⟩
        obtain ⟨⟨c, c0, c1, hc⟩, hf⟩ := hBr m (by omega)
        have e1 : ((m + 1 : Nat) : Int) - 1 = (m : Int) := by omega
        have hmL : (m : Int) < (L : Int) := by omega
        have hx10 : 0 ≤ x % 10 := by omega
        have hx11 : x % 10 ≤ 9 := by omega
        go_wp2
        refine ⟨⟨x / 10, m, i, rfl, rfl, by omega, by omega, HI, by omega, by omega, hW.set _ _, hBr.set _ _ (by omega) (by omega)⟩, ?_⟩
        simp [intOf]
        omega
      · go_wp2
        go_ret
        exact ⟨n, rfl, by omega, by omega, hW, hBr⟩

set_option maxHeartbeats 1000000 in
theorem fmtFrac_any (B L C p : Nat) (v : Int) (w : World) (hB : Buf w B) (h0 : 0 ≤ v) (hu : v ≤ 18446744073709551615) (hp : p ≤ 9) (hpL : p + 1 ≤ L) (hL : L ≤ 32) :
    Calls Tryf.prog 15 #[.slice (some ⟨B, 0, none⟩) L C, .int .u64 v, .int .i64 p] w fun e w' => ∃ n : Nat, e = .returned (.tuple #[.int .i64 n, .int .u64 (v / 10 ^ p)]) ∧ L ≤ n + (p + 1) ∧ n ≤ L ∧ Wrote B w w' ∧ Buf w' B := by
  have c5 := cells5
  go_enter Tryf.func15, Tryf.ntmps15
  go_wp2
  go_loopw [1, 8, 9, 10] (fun tv tn tp ti wr => ∃ (x : Int) (n i : Nat) (pr : Bool), tv = .int .u64 x ∧ tn = .int .i64 n ∧ tp = .bool pr ∧ ti = .int .i64 i ∧ Hid (x = v / 10 ^ i) ∧ 0 ≤ x ∧ x ≤ 18446744073709551615 ∧ L ≤ n + i ∧ n ≤ L ∧ i ≤ p ∧ Wrote B w wr ∧ Buf wr B) (fun _ _ _ ti _ => p - (intOf ti).toNat)
  case atStart => exact ⟨v, L, 0, false, rfl, rfl, rfl, rfl, (by show _ = _; simp), h0, hu, by omega, Nat.le_refl _, Nat.zero_le _, Wrote.refl _ _, hB⟩
  case round =>
    obtain ⟨x, n, i, pr, rfl, rfl, rfl, rfl, HX, x0, xu, hn, hnL, hi, hW, hBr⟩ := hrel
    by_cases hip : (i : Int) < (p : Int)
    · have HX' : Hid (x / 10 = v / 10 ^ (i + 1)) := by
        show _ = _
        rw [HX.out, Int.pow_succ, Int.ediv_ediv_of_nonneg (by exact Int.pow_nonneg (by omega))]
      clear HX
      obtain ⟨m, rfl⟩ : ∃ m, n = m + 1 := ⟨n - 1, by omega⟩
      obtain ⟨⟨c, c0, c1, hc⟩, hf⟩ := hBr m (by omega)
      have e1 : ((m + 1 : Nat) : Int) - 1 = (m : Int) := by omega
      have hmL : (m : Int) < (L : Int) := by omega
      have hx10 : 0 ≤ x % 10 := by omega
      have hx11 : x % 10 ≤ 9 := by omega
      cases pr
      · by_cases hd : x % 10 = 0
        · have hd' : (x % 10 != 0) = false := by simp [hd]
          clear hd
          go_wp2
          refine ⟨⟨x / 10, m + 1, i + 1, false, rfl, rfl, rfl, by go_num, HX', by omega, by omega, by omega, by omega, by omega, hW, hBr⟩, ?_⟩
          simp [intOf]
          omega
        · have hd' : (x % 10 != 0) = true := by simp [hd]
          clear hd
          go_wp2
          refine ⟨⟨x / 10, m, i + 1, true, rfl, rfl, rfl, by go_num, HX', by omega, by omega, by omega, by omega, by omega, hW.set _ _, hBr.set _ _ (by omega) (by omega)⟩, ?_⟩
          simp [intOf]
          omega
      · go_wp2
        refine ⟨⟨x / 10, m, i + 1, true, rfl, rfl, rfl, by go_num, HX', by omega, by omega, by omega, by omega, by omega, hW.set _ _, hBr.set _ _ (by omega) (by omega)⟩, ?_⟩
        simp [intOf]
        omega
    · have hip' : i = p := by omega
      subst hip'
      cases pr
      · go_wp2
        go_ret2
        exact ⟨n, ret_frac HX.out, by omega, by omega, hW, hBr⟩
      · obtain ⟨m, rfl⟩ : ∃ m, n = m + 1 := ⟨n - 1, by omega⟩
        obtain ⟨⟨c, c0, c1, hc⟩, hf⟩ := hBr m (by omega)
        have e1 : ((m + 1 : Nat) : Int) - 1 = (m : Int) := by omega
        have hmL : (m : Int) < (L : Int) := by omega
        go_wp2
        go_ret2
        exact ⟨m, ret_frac HX.out, by omega, by omega, hW.set _ _, hBr.set _ _ (by omega) (by omega)⟩

end Go.Proofs.Qxb6628281aFmt.Du
