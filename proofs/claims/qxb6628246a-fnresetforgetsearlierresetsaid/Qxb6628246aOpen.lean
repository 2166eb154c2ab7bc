/-
  From what a row knows of a []SessionIn to what the walk wants of it.
-/
import Derived.Test.Qxb6628246aLaw3
import Derived.OpenShut
import Derived.ShutString
import Derived.ChangeOld
import Derived.Deep.Slices
namespace Go.Proofs.Qxb6628246a.Se
open Go.ChangeShapes Go.WideShapes Go.RowKit

theorem cells44 : Try.prog.cellsOf 44 = 1 := by kernel_rfl
theorem cells3 : Try.prog.cellsOf 3 = 1 := by kernel_rfl

theorem lt_of_cell {w : World} {a : Addr} {v : Value} (h : w.cell? a = some v) : a.block < w.heap.size := by
  rcases Nat.lt_or_ge a.block w.heap.size with h1 | h1
  · exact h1
  · have : w.heap[a.block]? = none := Array.getElem?_eq_none h1
    simp [World.cell?, this] at h

theorem i64_of {n : Int} (h : (Lit.int .i64 n).wf = true) : I64 n := by
  simp [Lit.wf, IntKind.min, IntKind.max, IntKind.signed, IntKind.bits] at h
  exact ⟨by omega, by omega⟩

theorem u8_of {n : Int} (h : (Lit.int .u8 n).wf = true) : 0 ≤ n ∧ n ≤ 255 := by
  simp [Lit.wf, IntKind.min, IntKind.max, IntKind.signed, IntKind.bits] at h
  exact ⟨by omega, by omega⟩

theorem six {α : Type} : ∀ {cs : List α}, cs.length = 6 → ∃ a b c d e f, cs = [a, b, c, d, e, f]
  | [a, b, c, d, e, f], _ => ⟨a, b, c, d, e, f, rfl⟩

section
variable {H : Type} {enc : TypeId × Value → H} {W : World}

theorem pw_of {fuel : Nat} {c : Value} {x : DataW H × List MemPlace} (h : DataW.trod enc Try.prog W 0 (fun _ => true) true fuel 44 [c] = some x) : ∃ bs, PwAt (fun _ => False) W c bs := by
  rcases open_ints Try.underlying44 Try.underlying5 cells5 h with ⟨hc, _⟩ | ⟨a, len, cap, zs, hc, _, hl, hm, hz, _, hcell, hwf⟩
  · injection hc with hc
    subst hc
    exact ⟨[], none, 0, 0, rfl, rfl, by simp, by omega, fun h => absurd h (by omega)⟩
  · injection hc with hc
    subst hc
    simp only [if_true] at hz
    refine ⟨zs.take len, some a, len, cap, rfl, ?_, fun c hc => u8_of (hwf c (List.mem_of_mem_take hc)), by omega, fun h0 => ?_⟩
    · rw [List.length_take]; omega
    · obtain ⟨b, off, spot⟩ := a
      have h00 := hcell 0 (by omega)
      have hspot : spot = none := by simpa [Addr.add] using World.cell?_spot h00
      subst hspot
      refine ⟨b, off, rfl, ?_, fun h => h, fun i hi => ?_⟩
      · have := lt_of_cell h00
        simpa [Addr.add] using this
      · have := hcell i (by omega)
        rw [add_plain] at this
        rw [this]
        simp only [List.getD_eq_getElem?_getD, List.getElem?_take, hi, if_true]

theorem ses_of {fuel : Nat} {cs : List Value} {x : DataW H × List MemPlace} (h : DataW.trod enc Try.prog W 0 (fun _ => true) true fuel 46 cs = some x) :
    ∃ (s : Ses) (pv : Value), cs = [.int .i64 s.id, pv, .int .i64 s.tmo, .int .i64 s.made, .int .i64 s.server, .int .i64 s.exp] ∧ PwAt (fun _ => False) W pv s.pw ∧ I64 s.id := by
  obtain ⟨xs, n, rfl, rfl, hl, hxl, hf⟩ := DataW.trod_struct Try.underlying46 h
  rw [cells46] at hl
  have hx6 : xs.length = 6 := hxl
  obtain ⟨c0, c1, c2, c3, c4, c5, rfl⟩ := six hl
  have f0 : DataW.trod enc Try.prog W 0 (fun _ => true) true n 2 [c0] = some (xs[0]'(by omega)) := by
    have h := hf 0 { name := "ID", type := 2, offset := 0, embedded := false, tag := "", pkgPath := "", byteOffset := 0 } rfl
    rw [List.getElem?_eq_getElem (by omega)] at h
    have e : (({ name := "ID", type := 2, offset := 0, embedded := false, tag := "", pkgPath := "", byteOffset := 0 } : Field).type) = 2 := rfl
    rw [e, cells2] at h
    exact h
  have f1 : DataW.trod enc Try.prog W 0 (fun _ => true) true n 44 [c1] = some (xs[1]'(by omega)) := by
    have h := hf 1 { name := "Passwd", type := 44, offset := 1, embedded := false, tag := "", pkgPath := "", byteOffset := 8 } rfl
    rw [List.getElem?_eq_getElem (by omega)] at h
    have e : (({ name := "Passwd", type := 44, offset := 1, embedded := false, tag := "", pkgPath := "", byteOffset := 8 } : Field).type) = 44 := rfl
    rw [e, cells44] at h
    exact h
  have f2 : DataW.trod enc Try.prog W 0 (fun _ => true) true n 2 [c2] = some (xs[2]'(by omega)) := by
    have h := hf 2 { name := "Timeout", type := 2, offset := 2, embedded := false, tag := "", pkgPath := "", byteOffset := 32 } rfl
    rw [List.getElem?_eq_getElem (by omega)] at h
    have e : (({ name := "Timeout", type := 2, offset := 2, embedded := false, tag := "", pkgPath := "", byteOffset := 32 } : Field).type) = 2 := rfl
    rw [e, cells2] at h
    exact h
  have f3 : DataW.trod enc Try.prog W 0 (fun _ => true) true n 2 [c3] = some (xs[3]'(by omega)) := by
    have h := hf 3 { name := "Made", type := 2, offset := 3, embedded := false, tag := "", pkgPath := "", byteOffset := 40 } rfl
    rw [List.getElem?_eq_getElem (by omega)] at h
    have e : (({ name := "Made", type := 2, offset := 3, embedded := false, tag := "", pkgPath := "", byteOffset := 40 } : Field).type) = 2 := rfl
    rw [e, cells2] at h
    exact h
  have f4 : DataW.trod enc Try.prog W 0 (fun _ => true) true n 3 [c4] = some (xs[4]'(by omega)) := by
    have h := hf 4 { name := "Server", type := 3, offset := 4, embedded := false, tag := "", pkgPath := "", byteOffset := 48 } rfl
    rw [List.getElem?_eq_getElem (by omega)] at h
    have e : (({ name := "Server", type := 3, offset := 4, embedded := false, tag := "", pkgPath := "", byteOffset := 48 } : Field).type) = 3 := rfl
    rw [e, cells3] at h
    exact h
  have f5 : DataW.trod enc Try.prog W 0 (fun _ => true) true n 2 [c5] = some (xs[5]'(by omega)) := by
    have h := hf 5 { name := "ExpiresAt", type := 2, offset := 5, embedded := false, tag := "", pkgPath := "", byteOffset := 56 } rfl
    rw [List.getElem?_eq_getElem (by omega)] at h
    have e : (({ name := "ExpiresAt", type := 2, offset := 5, embedded := false, tag := "", pkgPath := "", byteOffset := 56 } : Field).type) = 2 := rfl
    rw [e, cells2] at h
    exact h
  obtain ⟨n0, e0, _, w0⟩ := DataW.trod_int Try.underlying2 f0
  obtain ⟨n2, e2, _, _⟩ := DataW.trod_int Try.underlying2 f2
  obtain ⟨n3, e3, _, _⟩ := DataW.trod_int Try.underlying2 f3
  obtain ⟨n4, e4, _, _⟩ := DataW.trod_int Try.underlying3 f4
  obtain ⟨n5, e5, _, _⟩ := DataW.trod_int Try.underlying2 f5
  obtain ⟨bs, hbs⟩ := pw_of f1
  simp at e0 e2 e3 e4 e5
  subst e0 e2 e3 e4 e5
  exact ⟨⟨n0, bs, n2, n3, n4, n5⟩, c1, rfl, hbs, i64_of w0⟩

theorem lies_of {a : Option Addr} {len cap : Nat} {d : DataW H} {p : List MemPlace} (h : DataW.Trod enc Try.prog W 0 (fun _ => true) true 22 (.slice a len cap) d p) : ∃ l, SAt (fun _ => False) W a len l ∧ ∀ s ∈ l, I64 s.id := by
  obtain ⟨fuel, hf⟩ := h
  rcases Deep.open_slice Try.underlying22 hf with ⟨hcs, _⟩ | ⟨x, l, c, m, n, D, Pl, hcs, _, hl, hm, hmm, _, hel⟩
  · simp [Value.cells] at hcs
    obtain ⟨rfl, rfl, rfl⟩ := hcs
    exact ⟨[], ⟨rfl, by omega, fun h => absurd h (by omega)⟩, by simp⟩
  · simp [Value.cells] at hcs
    obtain ⟨rfl, rfl, rfl⟩ := hcs
    simp only [if_true] at hmm
    rw [cells46] at hel
    rcases Nat.eq_zero_or_pos len with h0 | h0
    · subst h0
      exact ⟨[], ⟨rfl, by omega, fun h => absurd h (by omega)⟩, by simp⟩
    obtain ⟨b, off, spot⟩ := x
    have hsp : spot = none := by
      obtain ⟨cs, hc, ht⟩ := hel 0 (by omega)
      obtain ⟨s, pv, rfl, _⟩ := ses_of ht
      obtain ⟨_, _, hcc⟩ := World.cells?_some hc
      simpa [Addr.add] using World.cell?_spot (hcc 0 (by omega))
    subst hsp
    have hall : ∀ i, i < len → ∃ s : Ses, I64 s.id ∧ ∃ pv, SesAt (fun _ => False) W b (off + i * 6) s pv := fun i hi => by
      obtain ⟨cs, hc, ht⟩ := hel i (by omega)
      obtain ⟨s, pv, rfl, hpw, hid⟩ := ses_of ht
      obtain ⟨_, _, hcc⟩ := World.cells?_some hc
      simp only [add_plain] at hcc
      have c0 := hcc 0 (by omega)
      have c1 := hcc 1 (by omega)
      have c2 := hcc 2 (by omega)
      have c3 := hcc 3 (by omega)
      have c4 := hcc 4 (by omega)
      have c5 := hcc 5 (by omega)
      exact ⟨s, hid, pv, ⟨lt_of_cell (a := ⟨b, off + i * 6 + 0, none⟩) c0, fun h => h, c0, c1, c2, c3, c4, c5, hpw⟩⟩
    have hch : ∃ f : Nat → Ses, ∀ i, i < len → I64 (f i).id ∧ ∃ pv, SesAt (fun _ => False) W b (off + i * 6) (f i) pv := by
      have : Inhabited Ses := ⟨⟨0, [], 0, 0, 0, 0⟩⟩
      exact Deep.choose_lt hall
    obtain ⟨f, hf'⟩ := hch
    refine ⟨(List.range len).map f, ⟨by simp, by omega, fun _ => ⟨b, off, rfl, fun i s hs => ?_⟩⟩, fun s hs => ?_⟩
    · rw [List.getElem?_map] at hs
      obtain ⟨j, hj, rfl⟩ := Option.map_eq_some_iff.1 hs
      obtain ⟨hjl, rfl⟩ := List.getElem?_eq_some_iff.1 hj
      rw [List.length_range] at hjl
      obtain ⟨_, pv, hp⟩ := hf' i hjl
      rw [List.getElem_range]
      exact ⟨pv, hp⟩
    · obtain ⟨i, hi, rfl⟩ := List.mem_map.1 hs
      exact (hf' i (List.mem_range.1 hi)).1

end

end Go.Proofs.Qxb6628246a.Se
