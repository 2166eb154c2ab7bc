/-
  zzB1Build, walked: the table that it lays.
-/
import Derived.Test.Qxb6628193aAnswer
import Derived.Deep.RegionHeld3
namespace Go.Proofs.Qxb6628193a.Rf
open Go.RowKit

/-- What the table holds after k rounds. -/
def tabTo (ks ms ss : List ByteArray) : Nat → ByteArray → Option (ByteArray × ByteArray)
  | 0 => fun _ => none
  | k + 1 => fun x => if x = ks.getD k ByteArray.empty then some (at' ms k, at' ss k) else tabTo ks ms ss k x

set_option maxHeartbeats 1000000 in
theorem build_any (a0 : Option Addr) (len0 cap0 : Nat) (ss0 : List ByteArray) (a1 : Option Addr) (len1 cap1 : Nat) (ss1 : List ByteArray) (a2 : Option Addr) (len2 cap2 : Nat) (ss2 : List ByteArray)
    (w : World) (h0 : Lies w a0 len0 ss0) (h1 : Lies w a1 len1 ss1) (h2 : Lies w a2 len2 ss2) (hsm : len0 ≤ 1048576) :
    Calls Try.prog 7 #[.slice a0 len0 cap0, .slice a1 len1 cap1, .slice a2 len2 cap2] w fun e w' => e = .returned (.map (some w.heap.size)) ∧ Tab w' w.heap.size len0 (tabTo ss0 ss1 ss2 len0) ∧ Below w.heap.size w w' := by
  have c9 := cells9
  have hmm := @run_makeMap Try.prog
  go_enter Try.func7, Try.ntmps7
  go_wp2
  go_loopw [8] (fun i wr => ∃ k : Nat, k ≤ len0 ∧ i = .int .i64 k ∧ Tab wr w.heap.size k (tabTo ss0 ss1 ss2 k) ∧ Below w.heap.size w wr) (fun i _ => len0 - (intOf i).toNat)
  case atStart => exact ⟨0, Nat.zero_le _, rfl, Tab.made w, (Below.refl _ _).alloc (Nat.le_refl _) _⟩
  case round =>
    obtain ⟨k, hk, rfl, hT, hB⟩ := hrel
    by_cases hkl : (k : Int) < (len0 : Int)
    · obtain ⟨b0, off0, rfl, hlt, hc⟩ := h0.cells (by omega)
      have hck : wr.cell? ⟨b0, off0 + k, none⟩ = some (.string (ss0.getD k ByteArray.empty)) := by
        rw [hB.cell (p := ⟨b0, off0 + k, none⟩) hlt]; exact hc k (by omega)
      have hck0 := hc k (by omega)
      clear hc
      have hks : (ss0.getD k ByteArray.empty).size ≤ maxLen := by
        have : k < ss0.length := by rw [h0.length]; omega
        rw [List.getD_eq_getElem?_getD, List.getElem?_eq_getElem this]
        exact h0.small _ (List.getElem_mem this)
      have l1 : Lies wr.drew a1 len1 ss1 := (h1.below hB).below ((Below.refl _ _).drew)
      have l2 : Lies wr.drew a2 len2 ss2 := (h2.below hB).below ((Below.refl _ _).drew)
      obtain ⟨w1, hupd, hT1, hg1⟩ := hT.drew.put (by unfold maxLen; omega) hks (at' ss1 k) (at' ss2 k)
      have HT1 : Hid (Tab w1 w.heap.size (k + 1) (tabTo ss0 ss1 ss2 (k + 1))) := hT1
      have hB1 : Below w.heap.size w w1 := hB.drew.grown hg1 (by have := hB.size; simpa using this) (fun j hj => by cases hj; exact Nat.le_refl _)
      have hck1 : w1.cell? ⟨b0, off0 + k, none⟩ = some (.string (ss0.getD k ByteArray.empty)) := by
        rw [hB1.cell (p := ⟨b0, off0 + k, none⟩) hlt]; exact hck0
      clear hT1 hg1 hks hck0
      generalize ss0.getD k ByteArray.empty = key at hck hupd hck1
      have hk0 : (0 : Int) ≤ (k : Int) := by omega
      go_wp2
      go_region_held3 (fun w' => w'.cell? ⟨b0, off0 + k, none⟩ = some (.string key)) (go_keep)
        (first
          | (go_at_call_of 10 a1; refine (at_any a1 len1 cap1 ss1 _ _ ?_).mono ?_; exact l1; rintro e w' ⟨rfl, rfl⟩)
          | (go_at_call_of 10 a2; refine (at_any a2 len2 cap2 ss2 _ _ ?_).mono ?_; exact l2; rintro e w' ⟨rfl, rfl⟩))
      go_wp2
      go_roundw
      case rel => exact ⟨k + 1, by omega, by go_num, HT1.out, hB1⟩
      case measure => simp [intOf]; omega
    · have hke : k = len0 := by omega
      subst hke
      go_wp2
      go_ret
      exact ⟨rfl, hT, hB⟩

end Go.Proofs.Qxb6628193a.Rf
