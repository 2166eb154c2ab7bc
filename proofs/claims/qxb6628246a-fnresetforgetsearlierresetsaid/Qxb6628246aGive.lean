/-
  zzGive, walked: sessions of the project's own type, in new memory.
-/
import Derived.Test.Qxb6628246aTicks
namespace Go.Proofs.Qxb6628246a.Se
open Go.RowKit

theorem info61 : (Try.prog.info? 61).map (fun i => (i.zero, i.size, i.bytes)) = some (some (.pointer none), 1, 8) := by kernel_rfl

/-- ZZnewSession. -/
theorem newSession_any (id tmo made server exp : Int) (pa : Option Addr) (pl pc : Nat) (w : World) :
    Calls Try.prog 19 #[.int .i64 id, .slice pa pl pc, .int .i64 tmo, .int .i64 made, .int .i64 server, .int .i64 exp] w fun e w' => e = .returned (.pointer (some ⟨w.heap.size, 0, none⟩)) ∧
      w' = w.alloc (.cells #[.int .i64 id, .slice pa pl pc, .int .i64 tmo, .int .i64 made, .int .i64 server, .int .i64 exp] 67) := by
  go_enter Try.func19, Try.ntmps19
  go_wp2
  go_ret
  exact ⟨rfl, rfl⟩

/-- A []*session.Session in memory. -/
structure GAt (X : Nat → Prop) (w : World) (a : Option Addr) (len : Nat) (l : List Ses) : Prop where
  length : l.length = len
  cells : 0 < len → ∃ b off, a = some ⟨b, off, none⟩ ∧ b < w.heap.size ∧ ¬ X b ∧ ∀ (i : Nat) (s : Ses), l[i]? = some s → ∃ sb pv, w.cell? ⟨b, off + i, none⟩ = some (.pointer (some ⟨sb, 0, none⟩)) ∧ SesAt X w sb 0 s pv

theorem GAt.kept {X : Nat → Prop} {w w' : World} {a : Option Addr} {len : Nat} {l : List Ses} (h : GAt X w a len l) (hk : Kept X w w') : GAt X w' a len l := by
  refine ⟨h.length, fun h0 => ?_⟩
  obtain ⟨b, off, ha, hlt, hx, hc⟩ := h.cells h0
  refine ⟨b, off, ha, Nat.lt_of_lt_of_le hlt hk.size, hx, fun i s hs => ?_⟩
  obtain ⟨sb, pv, h1, h2⟩ := hc i s hs
  exact ⟨sb, pv, by rw [hk.cell hlt hx]; exact h1, h2.kept hk⟩

theorem GAt.weaken {X Y : Nat → Prop} {w : World} {a : Option Addr} {len : Nat} {l : List Ses} (h : GAt X w a len l) (hxy : ∀ b, b < w.heap.size → ¬ X b → ¬ Y b) : GAt Y w a len l := by
  refine ⟨h.length, fun h0 => ?_⟩
  obtain ⟨b, off, ha, hlt, hx, hc⟩ := h.cells h0
  refine ⟨b, off, ha, hlt, hxy b hlt hx, fun i s hs => ?_⟩
  obtain ⟨sb, pv, h1, h2⟩ := hc i s hs
  exact ⟨sb, pv, h1, h2.weaken hxy⟩

/-- What holds after k rounds of zzGive: w: the world when it was called; w1: behind the copy. -/
structure GiveTo (w w1 wr : World) (len k : Nat) (l : List Ses) : Prop where
  bel : Below w1.heap.size w1 wr
  row : ∀ j, j < len → (wr.cell? ⟨w1.heap.size, j, none⟩).isSome = true ∧ wr.frozen? ⟨w1.heap.size, j, none⟩ = false
  lt : w1.heap.size < wr.heap.size
  got : ∀ (i : Nat) (s : Ses), i < k → l[i]? = some s → ∃ sb pv, wr.cell? ⟨w1.heap.size, i, none⟩ = some (.pointer (some ⟨sb, 0, none⟩)) ∧ SesAt (fun b => b < w.heap.size ∨ b = w1.heap.size) wr sb 0 s pv

theorem GiveTo.next {w w1 wr : World} {len k : Nat} {l : List Ses} {s : Ses} {pa : Option Addr} {pl pc : Nat} (h : GiveTo w w1 wr len k l) (hw : w.heap.size ≤ w1.heap.size) (hk : k < len) (hs : l[k]? = some s)
    (hp : PwAt (fun b => b < w.heap.size ∨ b = w1.heap.size) wr (.slice pa pl pc) s.pw) :
    GiveTo w w1 (((wr.alloc (.cells #[.int .i64 s.id, .slice pa pl pc, .int .i64 s.tmo, .int .i64 s.made, .int .i64 s.server, .int .i64 s.exp] 67)).setCell ⟨w1.heap.size, k, none⟩ (.pointer (some ⟨wr.heap.size, 0, none⟩))).drew) len (k + 1) l := by
  have hlt := h.lt
  obtain ⟨wa, hwa⟩ : ∃ x, x = wr.alloc (.cells #[.int .i64 s.id, .slice pa pl pc, .int .i64 s.tmo, .int .i64 s.made, .int .i64 s.server, .int .i64 s.exp] 67) := ⟨_, rfl⟩
  have hBa : Below wr.heap.size wr wa := by rw [hwa]; exact (Below.refl _ _).alloc (Nat.le_refl _) _
  have hza : wa.heap.size = wr.heap.size + 1 := by rw [hwa]; simp
  have hnew : SesAt (fun b => b < w.heap.size ∨ b = w1.heap.size) wa wr.heap.size 0 s (.slice pa pl pc) :=
    ⟨by omega, by omega, by rw [hwa]; go_simp, by rw [hwa]; go_simp, by rw [hwa]; go_simp, by rw [hwa]; go_simp, by rw [hwa]; go_simp, by rw [hwa]; go_simp, hp.below hBa⟩
  have hrow : ∀ j, j < len → (wa.cell? ⟨w1.heap.size, j, none⟩).isSome = true ∧ wa.frozen? ⟨w1.heap.size, j, none⟩ = false := fun j hj => by
    rw [hBa.cell (p := ⟨w1.heap.size, j, none⟩) hlt, hBa.frozen (p := ⟨w1.heap.size, j, none⟩) hlt]; exact h.row j hj
  rw [← hwa]
  clear hwa
  have hK : Kept (fun b => b < w.heap.size ∨ b = w1.heap.size) wa ((wa.setCell ⟨w1.heap.size, k, none⟩ (.pointer (some ⟨wr.heap.size, 0, none⟩))).drew) := ((Kept.refl _ _).set _ _ _ (.inl (.inr rfl))).drew
  refine ⟨?_, fun j hj => ⟨?_, ?_⟩, ?_, fun i s' hi hs' => ?_⟩
  · exact ((h.bel.trans (hBa.mono (by omega))).setCell (p := ⟨w1.heap.size, k, none⟩) (Nat.le_refl _) _).drew
  · rw [drew_cell]
    obtain ⟨u, hu⟩ := Option.isSome_iff_exists.1 (hrow j hj).1
    obtain ⟨u', hu'⟩ := cell?_setCell_some (p := ⟨w1.heap.size, k, none⟩) (x := .pointer (some ⟨wr.heap.size, 0, none⟩)) hu
    rw [hu']; rfl
  · rw [drew_frozen, World.frozen?_setCell]; exact (hrow j hj).2
  · have := hK.size
    omega
  · by_cases e : i = k
    · subst e
      rw [hs] at hs'
      cases hs'
      obtain ⟨u, hu⟩ := Option.isSome_iff_exists.1 (hrow i hk).1
      exact ⟨wr.heap.size, _, by rw [drew_cell]; exact World.cell?_setCell_same _ _ _ hu, hnew.kept hK⟩
    · obtain ⟨sb, pv, h1, h2⟩ := h.got i s' (by omega) hs'
      refine ⟨sb, pv, ?_, (h2.below hBa).kept hK⟩
      rw [drew_cell, World.cell?_setCell_other _ _ _ _ (fun e' => by injection e' with _ e'; exact e e'.symm), hBa.cell (p := ⟨w1.heap.size, i, none⟩) hlt]
      exact h1

set_option maxRecDepth 100000 in
set_option maxHeartbeats 4000000 in
theorem give_any {X : Nat → Prop} (a0 : Addr) (len cap : Nat) (l : List Ses) (w : World) (h0 : SAt X w (some a0) len l) (hsh : Short len l) :
    Calls Try.prog 10 #[.slice (some a0) len cap] w fun e w' => ∃ B, e = .returned (.slice (some ⟨B, 0, none⟩) len len) ∧ GAt (fun b => b < w.heap.size) w' (some ⟨B, 0, none⟩) len l ∧ Below w.heap.size w w' := by
  have c46 := cells46
  have c61 := cells61
  go_enter Try.func10, Try.ntmps10
  go_wp2_with fail
  refine (copy_any a0 len cap l _ h0 hsh).mono ?_
  rintro e w1 ⟨rfl, hS1, hB1⟩
  have hl4 := hsh.1
  obtain ⟨i0, hi0, hz0, hz1, hz2⟩ := info_parts info61
  have hmake := run_make (P := Try.prog) w1 30 61 i0 _ Try.underlying30 hi0 hz0 .i64 .i64 (len : Int) (len : Int) (by omega) (Int.le_refl _) (by rw [hz2]; omega) (by omega)
  rw [hz1, Int.toNat_natCast, Nat.mul_one] at hmake
  have hnil : ∀ w', (binOp .eql 22 (.slice (some ⟨w.heap.size, 0, none⟩) len len) (.slice none 0 0)).run Try.prog w' = .ok (.bool false) w' := fun w' => run_eql_slice_nil w' 22 46 (some _) len len Try.underlying22
  have hstart : GiveTo w w1 (w1.alloc (.cells (madeCells #[.pointer none] len) 61)) len 0 l :=
    ⟨(Below.refl _ _).alloc (Nat.le_refl _) _, fun j hj => made_cell w1 _ 61 j (by rw [size_madeCells]; exact hj), by simp, fun i s hi => absurd hi (by omega)⟩
  have hws := hB1.size
  go_wp2_with fail
  go_loopw [5] (fun ti wr => ∃ k : Nat, k ≤ len ∧ ti = .int .i64 k ∧ GiveTo w w1 wr len k l) (fun ti _ => len - (intOf ti).toNat)
  case atStart => exact ⟨0, Nat.zero_le _, rfl, hstart⟩
  case round =>
    obtain ⟨k, hk, rfl, hC⟩ := hrel
    clear hstart hmake hnil
    have hl4' : (len : Int) ≤ 4096 := by omega
    have hk0 : (0 : Int) ≤ (k : Int) := by omega
    by_cases hkl : (k : Int) < (len : Int)
    · obtain ⟨b, off, s, pa, pl, pc, ha, hs, hp0, _⟩ := hS1.at (k := k) (by omega)
      injection ha with ha
      injection ha with ha1 ha2
      subst ha1 ha2
      have hlt := hp0.lt
      have hne : ¬ w.heap.size = w1.heap.size := by omega
      have hne' : ¬ w1.heap.size = w.heap.size := by omega
      have hwl := hC.lt
      have hp := hp0.below hC.bel
      have hpw : PwAt (fun b => b < w.heap.size ∨ b = w1.heap.size) wr (.slice pa pl pc) s.pw := (hp0.bytes.weaken (fun b hb hx => by omega)).below hC.bel
      have hn0 := hC.next hws (by omega) hs hpw
      rw [World.setCell_alloc_past _ _ _ _ hwl] at hn0
      have HN : Hid (GiveTo w w1 _ len (k + 1) l) := hn0
      clear hn0
      obtain ⟨_, _, g0, g1, g2, g3, g4, g5, gb⟩ := hp
      obtain ⟨x0, y0⟩ := Option.isSome_iff_exists.1 (hC.row k (by omega)).1
      have z0 := (hC.row k (by omega)).2
      rw [Nat.zero_add] at g0 g1 g2 g3 g4 g5
      clear hs hpw gb
      go_wp2
      go_region_held3 (fun w' => w'.cell? ⟨w.heap.size, k * 6, none⟩ = some (.int .i64 s.id) ∧ w'.cell? ⟨w.heap.size, k * 6 + 1, none⟩ = some (.slice pa pl pc) ∧ w'.cell? ⟨w.heap.size, k * 6 + 2, none⟩ = some (.int .i64 s.tmo) ∧ w'.cell? ⟨w.heap.size, k * 6 + 3, none⟩ = some (.int .i64 s.made) ∧ w'.cell? ⟨w.heap.size, k * 6 + 4, none⟩ = some (.int .i64 s.server) ∧ w'.cell? ⟨w.heap.size, k * 6 + 5, none⟩ = some (.int .i64 s.exp))
        (go_keep) ((go_at_call 19; refine (newSession_any _ _ _ _ _ _ _ _ _).mono ?_; rintro e w' ⟨rfl, rfl⟩))
      go_wp2
      refine ⟨⟨k + 1, by omega, by go_num, HN.out⟩, ?_⟩
      simp [intOf]
      omega
    · obtain rfl : k = len := by omega
      go_wp2
      go_ret
      refine ⟨w1.heap.size, rfl, ⟨h0.length, fun _ => ⟨_, _, rfl, hC.lt, by omega, fun i s hs => ?_⟩⟩, hB1.trans (hC.bel.mono hws)⟩
      obtain ⟨sb, pv, h1, h2⟩ := hC.got i s (by have h1 := (List.getElem?_eq_some_iff.1 hs).1; rw [h0.length] at h1; exact h1) hs
      exact ⟨sb, pv, by rw [Nat.zero_add]; exact h1, h2.weaken (fun b _ hb => by omega)⟩

end Go.Proofs.Qxb6628246a.Se
