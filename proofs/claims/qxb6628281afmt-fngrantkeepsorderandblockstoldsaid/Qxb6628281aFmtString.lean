/-
  (time.Duration).String, walked: it returns a string, and writes nothing that was there.
-/
import Derived.Test.Qxb6628281aFmtFormat
import Derived.Deep.Slices
namespace Go.Proofs.Qxb6628281aFmt.Du
open Go.RowKit

theorem format_any (B : Nat) (d : Int) (w : World) (hB : Buf w B) (h0 : -9223372036854775808 ≤ d) (h1 : d ≤ 9223372036854775807) :
    Calls Tryf.prog 14 #[.int .i64 d, .pointer (some ⟨B, 0, none⟩)] w fun e w' => ∃ n : Nat, n ≤ 32 ∧ e = .returned (.int .i64 n) ∧ Wrote B w w' ∧ Buf w' B := by
  by_cases hd : d < 0
  · obtain ⟨u, hu⟩ : ∃ u, u = -d := ⟨_, rfl⟩
    by_cases c1 : u < 1000
    · exact format_neg_nano B d u w hB hd hu (by omega) (by omega) (by omega) c1
    by_cases c2 : u < 1000000
    · exact format_neg_micro B d u w hB hd hu (by omega) (by omega) (by omega) c2
    by_cases c3 : u < 1000000000
    · exact format_neg_milli B d u w hB hd hu (by omega) (by omega) (by omega) c3
    by_cases c4 : u / 1000000000 < 60
    · exact format_neg_sec B d u w hB hd hu (by omega) (by omega) (by omega) c4
    by_cases c5 : u / 1000000000 < 3600
    · exact format_neg_min B d u w hB hd hu (by omega) (by omega) (by omega) ⟨by omega, c5⟩
    · exact format_neg_hour B d u w hB hd hu (by omega) (by omega) (by omega) (by omega)
  · by_cases c0 : d = 0
    · exact format_pos_zero B d w hB (by omega) (by omega) c0
    by_cases c1 : d < 1000
    · exact format_pos_nano B d w hB (by omega) (by omega) (by omega) c1
    by_cases c2 : d < 1000000
    · exact format_pos_micro B d w hB (by omega) (by omega) (by omega) c2
    by_cases c3 : d < 1000000000
    · exact format_pos_milli B d w hB (by omega) (by omega) (by omega) c3
    by_cases c4 : d / 1000000000 < 60
    · exact format_pos_sec B d w hB (by omega) (by omega) (by omega) c4
    by_cases c5 : d / 1000000000 < 3600
    · exact format_pos_min B d w hB (by omega) (by omega) (by omega) ⟨by omega, c5⟩
    · exact format_pos_hour B d w hB (by omega) (by omega) (by omega) (by omega)

/-- It returns a short string. -/
def Text (e : Ending) : Prop := ∃ s : ByteArray, s.size ≤ 32 ∧ e = .returned (.string s)

theorem buf_new (w : World) : Buf (w.alloc (.cells (Array.replicate 32 (.int .u8 0)) 39)) w.heap.size := by
  intro i hi
  have hb : (w.alloc (.cells (Array.replicate 32 (.int .u8 0)) 39)).heap[w.heap.size]? = some (.cells (Array.replicate 32 (.int .u8 0)) 39) := (MapKept.heap_alloc w _).1
  refine ⟨⟨0, by omega, by omega, ?_⟩, ?_⟩
  · unfold World.cell?
    rw [hb]
    simp [hi]
  · rw [frozen?_alloc_cells]
    simp [World.frozen?]

theorem push_size (ns : List Int) : ∀ s : ByteArray, (ns.foldl (fun r n => r.push (UInt8.ofNat n.toNat)) s).size = s.size + ns.length := by
  induction ns with
  | nil => intro s; rfl
  | cons n ns ih => intro s; rw [List.foldl_cons, ih]; simp [ByteArray.size_push]; omega

/-- 'string(buf[o:o+l])'. -/
theorem to_string {w : World} {B : Nat} (hB : Buf w B) (o l : Nat) (hn : o + l ≤ 32) : ∃ s : ByteArray, s.size ≤ 32 ∧ ∀ cap, (convert 42 9 (.slice (some ⟨B, o, none⟩) l cap)).run Tryf.prog w = .ok (.string s) w := by
  obtain ⟨f, hf⟩ := Deep.choose_lt (fun i (hi : i < 32) => (hB i hi).1)
  obtain ⟨ns, hns⟩ : ∃ ns : List Int, ns = (List.range l).map fun j => f (o + j) := ⟨_, rfl⟩
  have hl : ns.length = l := by rw [hns]; simp
  have hload : (loadCells ⟨B, o, none⟩ l).run Tryf.prog w = .ok (ns.map (Value.int .u8)).toArray w := by
    have := run_loadCells_list (P := Tryf.prog) w ⟨B, o, none⟩ (ns.map (Value.int .u8)) (by
      intro j v hv
      have hj : j < l := by
        have := (List.getElem?_eq_some_iff.1 hv).1
        simpa [hl] using this
      rw [hns] at hv
      simp [hj] at hv
      subst hv
      rw [WideShapes.add_plain]
      exact (hf (o + j) (by omega)).2.2)
    rwa [List.length_map, hl] at this
  refine ⟨ns.foldl (fun r n => r.push (UInt8.ofNat n.toNat)) ByteArray.empty, ?_, fun cap => ?_⟩
  · rw [push_size, hl]
    simp
    omega
  · rw [run_convert_bytes_string w 42 9 5 _ _ _ Tryf.underlying42 Tryf.underlying5 Tryf.underlying9]
    exact run_bytesToString w _ _ _ ns hload

set_option maxHeartbeats 1000000 in
theorem string_any (d : Int) (w : World) (h0 : -9223372036854775808 ≤ d) (h1 : d ≤ 9223372036854775807) :
    Calls Tryf.prog 12 #[.int .i64 d] w fun e w' => Text e ∧ Below w.heap.size w w' := by
  have c5 := cells5
  go_enter Tryf.func12, Tryf.ntmps12
  go_wp2_with fail
  refine (format_any w.heap.size d _ (buf_new w) h0 h1).mono ?_
  rintro e w1 ⟨n, hn, rfl, hW, hB⟩
  have hni : (n : Int) ≤ 32 := by omega
  have hBel : Below w.heap.size w w1 := ((Below.refl _ _).alloc (Nat.le_refl _) (.cells (Array.replicate 32 (.int .u8 0)) 39)).trans ⟨hW.os, hW.tape, hW.output, Nat.le_of_eq hW.size.symm, fun k hk => hW.block k (by omega)⟩
  clear hW
  by_cases h32 : 32 = n
  · subst h32
    obtain ⟨s, hs, hconv⟩ := to_string hB 0 0 (by omega)
    go_wp2
    go_ret
    exact ⟨⟨s, hs, rfl⟩, hBel⟩
  · obtain ⟨s, hs, hconv⟩ := to_string hB n (32 - n) (by omega)
    go_wp2
    go_ret
    exact ⟨⟨s, hs, rfl⟩, hBel⟩

end Go.Proofs.Qxb6628281aFmt.Du
