/-
  zzCopy, walked: a copy in new memory.
-/
import Derived.Test.Qxb6628246aBytes
import Derived.Lib.LazyBuf
import Derived.Laws.MakeOwn
import Derived.Deep.RegionHeld3
namespace Go.Proofs.Qxb6628246a.Se
open Go.RowKit

theorem info46 : (Try.prog.info? 46).map (fun i => (i.zero, i.size, i.bytes)) = some (some (.agg #[.int .i64 0, .slice none 0 0, .int .i64 0, .int .i64 0, .int .i64 0, .int .i64 0]), 6, 64) := by kernel_rfl
theorem info5 : (Try.prog.info? 5).map (fun i => (i.zero, i.size, i.bytes)) = some (some (.int .u8 0), 1, 1) := by kernel_rfl

/-- A new row. -/
theorem made_cell (w : World) (cs : Array Value) (e : TypeId) (j : Nat) (hj : j < cs.size) : ((w.alloc (.cells cs e)).cell? ⟨w.heap.size, j, none⟩).isSome = true ∧ (w.alloc (.cells cs e)).frozen? ⟨w.heap.size, j, none⟩ = false := by
  have hb : (w.alloc (.cells cs e)).heap[w.heap.size]? = some (.cells cs e) := (MapKept.heap_alloc w _).1
  refine ⟨?_, ?_⟩
  · unfold World.cell?
    rw [hb]
    simp [hj]
  · rw [frozen?_alloc_cells]
    simp [World.frozen?]

theorem size5 : (Try.prog.info? 5).map (·.size) = some 1 := by kernel_rfl

theorem below_setCells {B g : Nat} : ∀ (vs : List Value) (o : Nat) {w0 w : World}, Below B w0 w → B ≤ g → Below B w0 (w.setCells g o vs)
  | [], _, _, _, h, _ => h
  | v :: vs, o, _, _, h, hg => below_setCells vs (o + 1) (h.setCell (p := ⟨g, o, none⟩) hg v) hg

/-- 'copy(p, ss[i].Passwd)', p just made. -/
theorem copy_bytes {X : Nat → Prop} (w : World) (pa : Addr) (pl pc : Nat) (bs : List Int) (h : PwAt X w (.slice (some pa) pl pc) bs) (ty : TypeId) :
    ∃ wc, (Builtin.copy_ #[44, 44] ty #[.slice (some ⟨w.heap.size, 0, none⟩) pl pl, .slice (some pa) pl pc]).run Try.prog (w.alloc (.cells (madeCells #[.int .u8 0] pl) 5)) = .ok (.int .i64 pl) wc ∧
      Below w.heap.size w wc ∧ PwAt (fun b => b < w.heap.size) wc (.slice (some ⟨w.heap.size, 0, none⟩) pl pl) bs := by
  obtain ⟨a, len, cap, hv, hl, hr, hm, hc⟩ := h
  injection hv with hv1 hv2 hv3
  subst hv1 hv2 hv3
  have hB := (Below.refl w.heap.size w).alloc (Nat.le_refl _) (.cells (madeCells #[.int .u8 0] pl) 5)
  by_cases h0 : 0 < pl
  · obtain ⟨b, off, ha, hlt, hx, hcell⟩ := hc h0
    injection ha with ha
    subst ha
    have hl' : (bs.map (Value.int .u8)).length = pl := by rw [List.length_map]; exact hl
    have hnew := fun j (hj : j < pl) => made_cell w (madeCells #[.int .u8 0] pl) 5 j (by rw [size_madeCells]; exact hj)
    have hrun := run_copy_cells (P := Try.prog) (w.alloc (.cells (madeCells #[.int .u8 0] pl) 5)) 44 44 ty 5 w.heap.size 0 pl pl ⟨b, off, none⟩ pl pc (bs.map (Value.int .u8)) Try.underlying44 size5 (by rw [hl']; simp)
      (by
        intro j v hv
        rw [WideShapes.add_plain]
        have hj : j < pl := by have := (List.getElem?_eq_some_iff.1 hv).1; omega
        rw [hB.cell (p := ⟨b, off + j, none⟩) hlt, hcell j hj]
        rw [List.getElem?_map, Option.map_eq_some_iff] at hv
        obtain ⟨c, hc1, rfl⟩ := hv
        rw [List.getD_eq_getElem?_getD, hc1]
        rfl)
      (by intro j hj; rw [Nat.zero_add]; exact (hnew j (by omega)).1) (by intro j hj; rw [Nat.zero_add]; exact (hnew j (by omega)).2)
      (by intro v hv; obtain ⟨c, _, rfl⟩ := List.mem_map.1 hv; rfl)
    rw [hl'] at hrun
    refine ⟨_, hrun, below_setCells _ _ hB (Nat.le_refl _), _, _, _, rfl, hl, hr, hm, fun _ => ⟨w.heap.size, 0, rfl, ?_, Nat.lt_irrefl _, fun i hi => ?_⟩⟩
    · have h1 := (below_setCells (g := w.heap.size) (bs.map (Value.int .u8)) 0 (Below.refl w.heap.size (w.alloc (.cells (madeCells #[.int .u8 0] pl) 5))) (Nat.le_refl _)).size
      simp at h1
      omega
    · rw [World.cell?_setCells_in w.heap.size (bs.map (Value.int .u8)) 0 _ (by intro j hj; rw [Nat.zero_add]; exact (hnew j (by omega)).1) i (by omega)]
      rw [List.getElem_map, List.getD_eq_getElem?_getD, List.getElem?_eq_getElem (by omega)]
      rfl
  · obtain rfl : pl = 0 := by omega
    have hrun := run_copy_none (P := Try.prog) (w.alloc (.cells (madeCells #[.int .u8 0] 0) 5)) 44 44 ty 5 (some ⟨w.heap.size, 0, none⟩) (some pa) 0 0 0 pc Try.underlying44 size5 rfl
    exact ⟨_, hrun, hB, _, _, _, rfl, hl, hr, by simp, fun h => absurd h (by omega)⟩

/-- Six cells stored. -/
def put6 (w : World) (B o : Nat) (v0 v1 v2 v3 v4 v5 : Value) : World :=
  (((((w.setCell ⟨B, o, none⟩ v0).setCell ⟨B, o + 1, none⟩ v1).setCell ⟨B, o + 2, none⟩ v2).setCell ⟨B, o + 3, none⟩ v3).setCell ⟨B, o + 4, none⟩ v4).setCell ⟨B, o + 5, none⟩ v5

theorem far6 (w : World) (B o : Nat) (v0 v1 v2 v3 v4 v5 : Value) {b p : Nat} (h : ¬ b = B) :
    ((((((w.setCell ⟨B, o, none⟩ v0).setCell ⟨B, o + 1, none⟩ v1).setCell ⟨B, o + 2, none⟩ v2).setCell ⟨B, o + 3, none⟩ v3).setCell ⟨B, o + 4, none⟩ v4).setCell ⟨B, o + 5, none⟩ v5).drew.cell? ⟨b, p, none⟩ = w.cell? ⟨b, p, none⟩ := by
  have hne : ∀ q, (⟨B, q, none⟩ : Addr) ≠ ⟨b, p, none⟩ := fun q e => h (by injection e with e _; exact e.symm)
  show World.cell? _ _ = _
  rw [show ∀ x : World, x.drew.cell? ⟨b, p, none⟩ = x.cell? ⟨b, p, none⟩ from fun _ => rfl]
  simp only [World.cell?_setCell_other _ _ _ _ (hne _)]

theorem put6_other (w : World) (B o : Nat) (v0 v1 v2 v3 v4 v5 : Value) {b p : Nat} (h : ¬ b = B ∨ p < o ∨ o + 6 ≤ p) : (put6 w B o v0 v1 v2 v3 v4 v5).cell? ⟨b, p, none⟩ = w.cell? ⟨b, p, none⟩ := by
  have hne : ∀ q, o ≤ q → q < o + 6 → (⟨B, q, none⟩ : Addr) ≠ ⟨b, p, none⟩ := fun q h1 h2 e => by
    injection e with e1 e2
    omega
  unfold put6
  rw [World.cell?_setCell_other _ _ _ _ (hne _ (by omega) (by omega)), World.cell?_setCell_other _ _ _ _ (hne _ (by omega) (by omega)), World.cell?_setCell_other _ _ _ _ (hne _ (by omega) (by omega)), World.cell?_setCell_other _ _ _ _ (hne _ (by omega) (by omega)), World.cell?_setCell_other _ _ _ _ (hne _ (by omega) (by omega)), World.cell?_setCell_other _ _ _ _ (hne _ (by omega) (by omega))]

theorem put6_frozen (w : World) (B o : Nat) (v0 v1 v2 v3 v4 v5 : Value) (a : Addr) : (put6 w B o v0 v1 v2 v3 v4 v5).frozen? a = w.frozen? a := by
  unfold put6
  simp only [World.frozen?_setCell]

theorem put6_size (w : World) (B o : Nat) (v0 v1 v2 v3 v4 v5 : Value) : (put6 w B o v0 v1 v2 v3 v4 v5).heap.size = w.heap.size := by
  simp [put6, World.setCell]

theorem put6_block (w : World) (B o : Nat) (v0 v1 v2 v3 v4 v5 : Value) {k : Nat} (h : k ≠ B) : (put6 w B o v0 v1 v2 v3 v4 v5).heap[k]? = w.heap[k]? := by
  unfold put6
  rw [Below.heap_setCell _ _ _ _ h, Below.heap_setCell _ _ _ _ h, Below.heap_setCell _ _ _ _ h, Below.heap_setCell _ _ _ _ h, Below.heap_setCell _ _ _ _ h, Below.heap_setCell _ _ _ _ h]

theorem put6_some (w : World) (B o : Nat) (v0 v1 v2 v3 v4 v5 : Value) {q : Addr} (h : (w.cell? q).isSome = true) : ((put6 w B o v0 v1 v2 v3 v4 v5).cell? q).isSome = true := by
  have step : ∀ (x : World) (p : Addr) (v : Value), (x.cell? q).isSome = true → ((x.setCell p v).cell? q).isSome = true := fun x p v hx => by
    obtain ⟨u, hu⟩ := Option.isSome_iff_exists.1 hx
    obtain ⟨u', hu'⟩ := cell?_setCell_some (p := p) (x := v) hu
    rw [hu']; rfl
  exact step _ _ _ (step _ _ _ (step _ _ _ (step _ _ _ (step _ _ _ (step _ _ _ h)))))

/-- The stored cells themselves. -/
theorem put6_same (w : World) (B o : Nat) (v0 v1 v2 v3 v4 v5 : Value) (h : ∀ j, j < 6 → (w.cell? ⟨B, o + j, none⟩).isSome = true) :
    (put6 w B o v0 v1 v2 v3 v4 v5).cell? ⟨B, o, none⟩ = some v0 ∧ (put6 w B o v0 v1 v2 v3 v4 v5).cell? ⟨B, o + 1, none⟩ = some v1 ∧ (put6 w B o v0 v1 v2 v3 v4 v5).cell? ⟨B, o + 2, none⟩ = some v2 ∧
    (put6 w B o v0 v1 v2 v3 v4 v5).cell? ⟨B, o + 3, none⟩ = some v3 ∧ (put6 w B o v0 v1 v2 v3 v4 v5).cell? ⟨B, o + 4, none⟩ = some v4 ∧ (put6 w B o v0 v1 v2 v3 v4 v5).cell? ⟨B, o + 5, none⟩ = some v5 := by
  have key : put6 w B o v0 v1 v2 v3 v4 v5 = w.setCells B o [v0, v1, v2, v3, v4, v5] := rfl
  have hin := fun j hj => World.cell?_setCells_in B [v0, v1, v2, v3, v4, v5] o w (fun i hi => h i hi) j hj
  rw [key]
  exact ⟨hin 0 (by simp), hin 1 (by simp), hin 2 (by simp), hin 3 (by simp), hin 4 (by simp), hin 5 (by simp)⟩

/-- What holds after k rounds of zzCopy: the new row B; its first k sessions. -/
structure CopyTo (w wr : World) (B len k : Nat) (l : List Ses) : Prop where
  bel : Below w.heap.size w wr
  row : ∀ j, j < len * 6 → (wr.cell? ⟨B, j, none⟩).isSome = true ∧ wr.frozen? ⟨B, j, none⟩ = false
  lt : B < wr.heap.size
  ge : w.heap.size ≤ B
  ses : ∀ (i : Nat) (s : Ses), i < k → l[i]? = some s → ∃ pv, SesAt (fun b => b < w.heap.size) wr B (i * 6) s pv ∧ PwAt (fun b => b ≤ B) wr pv s.pw

theorem drew_size (x : World) : x.drew.heap.size = x.heap.size := rfl
theorem drew_cell (x : World) (a : Addr) : x.drew.cell? a = x.cell? a := rfl
theorem drew_frozen (x : World) (a : Addr) : x.drew.frozen? a = x.frozen? a := rfl
theorem drew_block (x : World) (k : Nat) : x.drew.heap[k]? = x.heap[k]? := rfl

theorem CopyTo.below {w wr wc : World} {B len k : Nat} {l : List Ses} (h : CopyTo w wr B len k l) (hb : Below wr.heap.size wr wc) : CopyTo w wc B len k l :=
  ⟨h.bel.trans (hb.mono h.bel.size), fun j hj => by rw [hb.cell (p := ⟨B, j, none⟩) h.lt, hb.frozen (p := ⟨B, j, none⟩) h.lt]; exact h.row j hj, Nat.lt_of_lt_of_le h.lt hb.size, h.ge,
    fun i s hi hs => by obtain ⟨pv, hp, hq⟩ := h.ses i s hi hs; exact ⟨pv, hp.below hb, hq.below hb⟩⟩

theorem PwAt.put6 {w : World} {v : Value} {bs : List Int} {B : Nat} (h : PwAt (fun b => b ≤ B) w v bs) (o : Nat) (v0 v1 v2 v3 v4 v5 : Value) :
    PwAt (fun b => b ≤ B) (Se.put6 w B o v0 v1 v2 v3 v4 v5).drew v bs := by
  obtain ⟨a, len, cap, rfl, hl, hr, hm, hc⟩ := h
  refine ⟨a, len, cap, rfl, hl, hr, hm, fun h0 => ?_⟩
  obtain ⟨b, off, rfl, hlt, hx, hcell⟩ := hc h0
  have hne : b ≠ B := fun e => hx (by omega)
  refine ⟨b, off, rfl, ?_, hx, fun i hi => ?_⟩
  · rw [drew_size, put6_size]; exact hlt
  · rw [drew_cell, put6_other _ _ _ _ _ _ _ _ _ (.inl hne)]; exact hcell i hi

/-- One round more. -/
theorem CopyTo.next {w wr : World} {B len k : Nat} {l : List Ses} {s : Ses} {pv : Value} (h : CopyTo w wr B len k l) (hk : k < len) (hs : l[k]? = some s) (hp : PwAt (fun b => b ≤ B) wr pv s.pw) :
    CopyTo w (put6 wr B (k * 6) (.int .i64 s.id) pv (.int .i64 s.tmo) (.int .i64 s.made) (.int .i64 s.server) (.int .i64 s.exp)).drew B len (k + 1) l := by
  have hge := h.ge
  have hB : Below w.heap.size w (put6 wr B (k * 6) (.int .i64 s.id) pv (.int .i64 s.tmo) (.int .i64 s.made) (.int .i64 s.server) (.int .i64 s.exp)).drew :=
    Below.drew (by unfold put6; exact (((((h.bel.setCell hge _).setCell hge _).setCell hge _).setCell hge _).setCell hge _).setCell hge _)
  refine ⟨hB, fun j hj => ⟨?_, ?_⟩, ?_, hge, fun i s' hi hs' => ?_⟩
  · rw [drew_cell]; exact put6_some _ _ _ _ _ _ _ _ _ (h.row j hj).1
  · rw [drew_frozen, put6_frozen]; exact (h.row j hj).2
  · rw [drew_size, put6_size]; exact h.lt
  · by_cases e : i = k
    · subst e
      rw [hs] at hs'
      cases hs'
      have hq := hp.put6 (i * 6) (.int .i64 s.id) pv (.int .i64 s.tmo) (.int .i64 s.made) (.int .i64 s.server) (.int .i64 s.exp)
      obtain ⟨c0, c1, c2, c3, c4, c5⟩ := put6_same wr B (i * 6) (.int .i64 s.id) pv (.int .i64 s.tmo) (.int .i64 s.made) (.int .i64 s.server) (.int .i64 s.exp) (fun j hj => (h.row _ (by omega)).1)
      refine ⟨pv, ⟨?_, by omega, ?_, ?_, ?_, ?_, ?_, ?_, hq.weaken (fun b _ hb => by omega)⟩, hq⟩
      · rw [drew_size, put6_size]; exact h.lt
      all_goals rw [drew_cell]
      · exact c0
      · exact c1
      · exact c2
      · exact c3
      · exact c4
      · exact c5
    · obtain ⟨pv', hp', hq'⟩ := h.ses i s' (by omega) hs'
      have hq := hq'.put6 (k * 6) (.int .i64 s.id) pv (.int .i64 s.tmo) (.int .i64 s.made) (.int .i64 s.server) (.int .i64 s.exp)
      have hc : ∀ j, j < 6 → (put6 wr B (k * 6) (.int .i64 s.id) pv (.int .i64 s.tmo) (.int .i64 s.made) (.int .i64 s.server) (.int .i64 s.exp)).drew.cell? ⟨B, i * 6 + j, none⟩ = wr.cell? ⟨B, i * 6 + j, none⟩ := fun j hj => by
        rw [drew_cell]
        exact put6_other _ _ _ _ _ _ _ _ _ (.inr (by omega))
      refine ⟨pv', ⟨?_, by omega, (hc 0 (by omega)).trans hp'.id, (hc 1 (by omega)).trans hp'.pw, (hc 2 (by omega)).trans hp'.tmo, (hc 3 (by omega)).trans hp'.made, (hc 4 (by omega)).trans hp'.server, (hc 5 (by omega)).trans hp'.exp, hq.weaken (fun b _ hb => by omega)⟩, hq⟩
      rw [drew_size, put6_size]; exact h.lt

set_option maxRecDepth 100000 in
set_option maxHeartbeats 4000000 in
theorem copy_any {X : Nat → Prop} (a0 : Addr) (len cap : Nat) (l : List Ses) (w : World) (h0 : SAt X w (some a0) len l) (hsh : Short len l) :
    Calls Try.prog 8 #[.slice (some a0) len cap] w fun e w' => e = .returned (.slice (some ⟨w.heap.size, 0, none⟩) len len) ∧ SAt (fun b => b < w.heap.size) w' (some ⟨w.heap.size, 0, none⟩) len l ∧ Below w.heap.size w w' := by
  have c46 := cells46
  obtain ⟨i0, hi, hz0, hz1, hz2⟩ := info_parts info46
  have hmake := run_make (P := Try.prog) w 22 46 i0 _ Try.underlying22 hi hz0 .i64 .i64 (len : Int) (len : Int) (by omega) (Int.le_refl _) (by rw [hz2]; have := hsh.1; omega) (by have := hsh.1; omega)
  rw [hz1, Int.toNat_natCast] at hmake
  have hnil : ∀ w, (binOp .eql 22 (.slice (some a0) len cap) (.slice none 0 0)).run Try.prog w = .ok (.bool false) w := fun w => run_eql_slice_nil w 22 46 (some a0) len cap Try.underlying22
  go_enter Try.func8, Try.ntmps8
  go_wp2_with fail
  have hstart : CopyTo w (w.alloc (.cells (madeCells #[.int .i64 0, .slice none 0 0, .int .i64 0, .int .i64 0, .int .i64 0, .int .i64 0] (len * 6)) 46)) w.heap.size len 0 l :=
    ⟨(Below.refl _ _).alloc (Nat.le_refl _) _, fun j hj => made_cell w _ 46 j (by rw [size_madeCells]; exact hj), by simp, Nat.le_refl _, fun i s hi => absurd hi (by omega)⟩
  go_loopw [4] (fun ti wr => ∃ k : Nat, k ≤ len ∧ ti = .int .i64 k ∧ CopyTo w wr w.heap.size len k l) (fun ti _ => len - (intOf ti).toNat)
  case atStart => exact ⟨0, Nat.zero_le _, rfl, hstart⟩
  case round =>
    obtain ⟨k, hk, rfl, hC⟩ := hrel
    clear hstart hmake hnil
    by_cases hkl : (k : Int) < (len : Int)
    · obtain ⟨b, off, s, pa, pl, pc, ha, hs, hp0, hpl⟩ := h0.at (k := k) (by omega)
      injection ha with ha
      subst ha
      have hpl1 : s.pw.length ≤ 1048576 := hsh.2 s (List.mem_of_getElem? hs)
      have hlt := hp0.lt
      have hne : ¬ b = w.heap.size := by omega
      have hne' : ¬ w.heap.size = b := by omega
      have hp := hp0.below hC.bel
      have hl4 : (len : Int) ≤ 4096 := by have := hsh.1; omega
      have hk0 : (0 : Int) ≤ (k : Int) := by omega
      cases pa with
      | none =>
        have hn : ∀ w, (binOp .neq 44 (.slice none pl pc) (.slice none 0 0)).run Try.prog w = .ok (.bool false) w := fun w => run_neq_slice_nil w 44 5 none pl pc Try.underlying44
        have hpz : PwAt (fun b => b ≤ w.heap.size) wr (.slice none 0 0) s.pw := by
          obtain ⟨a, l', c, hv, hl, hr, _, hc⟩ := hp.bytes
          injection hv with h1 h2 h3
          have : l' = 0 := by
            by_cases h : 0 < l'
            · obtain ⟨_, _, he, _⟩ := hc h
              rw [← h1] at he
              cases he
            · omega
          exact ⟨none, 0, 0, rfl, by omega, hr, by simp, fun h => absurd h (by omega)⟩
        have HN : Hid (CopyTo w _ w.heap.size len (k + 1) l) := hC.next (by omega) hs hpz
        obtain ⟨_, _, g0, g1, g2, g3, g4, g5, gb⟩ := hp
        obtain ⟨x0, y0⟩ := Option.isSome_iff_exists.1 (hC.row (k * 6) (by omega)).1
        obtain ⟨x1, y1⟩ := Option.isSome_iff_exists.1 (hC.row (k * 6 + 1) (by omega)).1
        obtain ⟨x2, y2⟩ := Option.isSome_iff_exists.1 (hC.row (k * 6 + 2) (by omega)).1
        obtain ⟨x3, y3⟩ := Option.isSome_iff_exists.1 (hC.row (k * 6 + 3) (by omega)).1
        obtain ⟨x4, y4⟩ := Option.isSome_iff_exists.1 (hC.row (k * 6 + 4) (by omega)).1
        obtain ⟨x5, y5⟩ := Option.isSome_iff_exists.1 (hC.row (k * 6 + 5) (by omega)).1
        have z0 := (hC.row (k * 6) (by omega)).2
        have z1 := (hC.row (k * 6 + 1) (by omega)).2
        have z2 := (hC.row (k * 6 + 2) (by omega)).2
        have z3 := (hC.row (k * 6 + 3) (by omega)).2
        have z4 := (hC.row (k * 6 + 4) (by omega)).2
        have z5 := (hC.row (k * 6 + 5) (by omega)).2
        clear hs hpz gb
        go_wp2
        go_region_held3 (fun w' => w'.cell? ⟨b, off + k * 6, none⟩ = some (.int .i64 s.id) ∧ w'.cell? ⟨b, off + k * 6 + 2, none⟩ = some (.int .i64 s.tmo) ∧ w'.cell? ⟨b, off + k * 6 + 3, none⟩ = some (.int .i64 s.made) ∧ w'.cell? ⟨b, off + k * 6 + 4, none⟩ = some (.int .i64 s.server) ∧ w'.cell? ⟨b, off + k * 6 + 5, none⟩ = some (.int .i64 s.exp))
          (go_keep) (fail)
        go_wp2
        refine ⟨⟨k + 1, by omega, by go_num, HN.out⟩, ?_⟩
        simp [intOf]
        omega
      | some pa =>
        have hn : ∀ w, (binOp .neq 44 (.slice (some pa) pl pc) (.slice none 0 0)).run Try.prog w = .ok (.bool true) w := fun w => run_neq_slice_nil w 44 5 (some pa) pl pc Try.underlying44
        obtain ⟨j0, hj, hj0, hj1, hj2⟩ := info_parts info5
        have hmk := run_make (P := Try.prog) wr 44 5 j0 _ Try.underlying44 hj hj0 .i64 .i64 (pl : Int) (pl : Int) (by omega) (Int.le_refl _) (by rw [hj2]; omega) (by omega)
        rw [hj1, Int.toNat_natCast, Nat.mul_one] at hmk
        obtain ⟨wc, hcp, hBc, hPc⟩ := copy_bytes wr pa pl pc s.pw hp.bytes 3
        have hCc := hC.below hBc
        have hPw : PwAt (fun b => b ≤ w.heap.size) wc (.slice (some ⟨wr.heap.size, 0, none⟩) pl pl) s.pw := hPc.weaken (fun b _ hb => by have := hC.lt; omega)
        have HN : Hid (CopyTo w _ w.heap.size len (k + 1) l) := hCc.next (by omega) hs hPw
        have hpc := hp.below hBc
        obtain ⟨_, _, _, g1, _, _, _, _, _⟩ := hp
        obtain ⟨_, _, f0, f1, f2, f3, f4, f5, gb⟩ := hpc
        have g1' : (wr.alloc (.cells (madeCells #[.int .u8 0] pl) 5)).cell? ⟨b, off + k * 6 + 1, none⟩ = some (.slice (some pa) pl pc) := by
          rw [((Below.refl wr.heap.size wr).alloc (Nat.le_refl _) (.cells (madeCells #[.int .u8 0] pl) 5)).cell (p := ⟨b, off + k * 6 + 1, none⟩) (by have := hC.bel.size; simp; omega)]
          exact g1
        obtain ⟨x0, y0⟩ := Option.isSome_iff_exists.1 (hCc.row (k * 6) (by omega)).1
        obtain ⟨x1, y1⟩ := Option.isSome_iff_exists.1 (hCc.row (k * 6 + 1) (by omega)).1
        obtain ⟨x2, y2⟩ := Option.isSome_iff_exists.1 (hCc.row (k * 6 + 2) (by omega)).1
        obtain ⟨x3, y3⟩ := Option.isSome_iff_exists.1 (hCc.row (k * 6 + 3) (by omega)).1
        obtain ⟨x4, y4⟩ := Option.isSome_iff_exists.1 (hCc.row (k * 6 + 4) (by omega)).1
        obtain ⟨x5, y5⟩ := Option.isSome_iff_exists.1 (hCc.row (k * 6 + 5) (by omega)).1
        have z0 := (hCc.row (k * 6) (by omega)).2
        have z1 := (hCc.row (k * 6 + 1) (by omega)).2
        have z2 := (hCc.row (k * 6 + 2) (by omega)).2
        have z3 := (hCc.row (k * 6 + 3) (by omega)).2
        have z4 := (hCc.row (k * 6 + 4) (by omega)).2
        have z5 := (hCc.row (k * 6 + 5) (by omega)).2
        clear hs hPw hPc gb hCc hBc
        go_wp2
        go_region_held3 (fun w' => w'.cell? ⟨b, off + k * 6, none⟩ = some (.int .i64 s.id) ∧ w'.cell? ⟨b, off + k * 6 + 2, none⟩ = some (.int .i64 s.tmo) ∧ w'.cell? ⟨b, off + k * 6 + 3, none⟩ = some (.int .i64 s.made) ∧ w'.cell? ⟨b, off + k * 6 + 4, none⟩ = some (.int .i64 s.server) ∧ w'.cell? ⟨b, off + k * 6 + 5, none⟩ = some (.int .i64 s.exp))
          (go_keep) (fail)
        go_wp2
        refine ⟨⟨k + 1, by omega, by go_num, HN.out⟩, ?_⟩
        simp [intOf]
        omega
    · obtain rfl : k = len := by omega
      go_wp2
      go_ret
      refine ⟨rfl, ⟨h0.length, h0.le, fun _ => ⟨_, _, rfl, fun i s hs => ?_⟩⟩, hC.bel⟩
      obtain ⟨pv, hp, _⟩ := hC.ses i s (by have := (List.getElem?_eq_some_iff.1 hs).1; have := h0.length; omega) hs
      exact ⟨pv, by rw [Nat.zero_add]; exact hp⟩

end Go.Proofs.Qxb6628246a.Se
