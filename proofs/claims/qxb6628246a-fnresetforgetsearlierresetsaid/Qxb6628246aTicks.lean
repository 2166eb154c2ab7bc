/-
  zzTicks and zzLastID, walked.
-/
import Derived.Test.Qxb6628246aCopy
namespace Go.Proofs.Qxb6628246a.Se
open Go.RowKit

theorem info2 : (Try.prog.info? 2).map (fun i => (i.zero, i.size, i.bytes)) = some (some (.int .i64 0), 1, 8) := by kernel_rfl

/-- A []int64 in memory. -/
structure IAt (X : Nat → Prop) (w : World) (a : Option Addr) (len : Nat) (z : List Int) : Prop where
  length : z.length = len
  cells : 0 < len → ∃ b off, a = some ⟨b, off, none⟩ ∧ b < w.heap.size ∧ ¬ X b ∧ ∀ (i : Nat) (x : Int), z[i]? = some x → w.cell? ⟨b, off + i, none⟩ = some (.int .i64 x)

theorem IAt.kept {X : Nat → Prop} {w w' : World} {a : Option Addr} {len : Nat} {z : List Int} (h : IAt X w a len z) (hk : Kept X w w') : IAt X w' a len z := by
  refine ⟨h.length, fun h0 => ?_⟩
  obtain ⟨b, off, ha, hlt, hx, hc⟩ := h.cells h0
  exact ⟨b, off, ha, Nat.lt_of_lt_of_le hlt hk.size, hx, fun i x hi => by rw [hk.cell hlt hx]; exact hc i x hi⟩

theorem IAt.weaken {X Y : Nat → Prop} {w : World} {a : Option Addr} {len : Nat} {z : List Int} (h : IAt X w a len z) (hxy : ∀ b, b < w.heap.size → ¬ X b → ¬ Y b) : IAt Y w a len z := by
  refine ⟨h.length, fun h0 => ?_⟩
  obtain ⟨b, off, ha, hlt, hx, hc⟩ := h.cells h0
  exact ⟨b, off, ha, hlt, hxy b hlt hx, hc⟩

/-- The tick at which a session is due. -/
def tickOf (now start lo hi tick past : Int) (s : Ses) : Int := due (now + clamp s.made lo hi - start) tick past

/-- What holds after k rounds of zzTicks. -/
structure TicksTo (w wr : World) (B len k : Nat) (z : List Int) : Prop where
  bel : Below w.heap.size w wr
  row : ∀ j, j < len → (wr.cell? ⟨B, j, none⟩).isSome = true ∧ wr.frozen? ⟨B, j, none⟩ = false
  lt : B < wr.heap.size
  got : ∀ (i : Nat) (x : Int), i < k → z[i]? = some x → wr.cell? ⟨B, i, none⟩ = some (.int .i64 x)

theorem TicksTo.next {w wr : World} {len k : Nat} {z : List Int} {x : Int} (h : TicksTo w wr w.heap.size len k z) (hk : k < len) (hx : z[k]? = some x) : TicksTo w (wr.setCell ⟨w.heap.size, k, none⟩ (.int .i64 x)) w.heap.size len (k + 1) z := by
  refine ⟨h.bel.setCell (p := ⟨w.heap.size, k, none⟩) (Nat.le_refl _) _, fun j hj => ⟨?_, by rw [World.frozen?_setCell]; exact (h.row j hj).2⟩, by simpa [World.setCell] using h.lt, fun i y hi hy => ?_⟩
  · obtain ⟨u, hu⟩ := Option.isSome_iff_exists.1 (h.row j hj).1
    obtain ⟨u', hu'⟩ := cell?_setCell_some (p := ⟨w.heap.size, k, none⟩) (x := .int .i64 x) hu
    rw [hu']; rfl
  · by_cases e : i = k
    · subst e
      rw [hx] at hy
      cases hy
      obtain ⟨u, hu⟩ := Option.isSome_iff_exists.1 (h.row i hk).1
      exact World.cell?_setCell_same _ _ _ hu
    · rw [World.cell?_setCell_other _ _ _ _ (fun e' => by injection e' with _ e'; exact e e'.symm)]
      exact h.got i y (by omega) hy

set_option maxRecDepth 100000 in
set_option maxHeartbeats 4000000 in
theorem ticks_any {X : Nat → Prop} (a0 : Option Addr) (len cap : Nat) (l : List Ses) (now start lo hi tick past : Int) (w : World) (h0 : SAt X w a0 len l) (hl4 : len ≤ 4096) (hT : TableOK now start lo hi tick past) :
    Calls Try.prog 11 #[.slice a0 len cap, .int .i64 now, .int .i64 start, .int .i64 lo, .int .i64 hi, .int .i64 tick, .int .i64 past] w fun e w' =>
      e = .returned (.slice (some ⟨w.heap.size, 0, none⟩) len len) ∧ IAt (fun b => b < w.heap.size) w' (some ⟨w.heap.size, 0, none⟩) len (l.map (tickOf now start lo hi tick past)) ∧ Below w.heap.size w w' := by
  have c46 := cells46
  have c2 := cells2
  obtain ⟨i0, hi0, hz0, hz1, hz2⟩ := info_parts info2
  have hmake := run_make (P := Try.prog) w 32 2 i0 _ Try.underlying32 hi0 hz0 .i64 .i64 (len : Int) (len : Int) (by omega) (Int.le_refl _) (by rw [hz2]; omega) (by omega)
  rw [hz1, Int.toNat_natCast, Nat.mul_one] at hmake
  have hstart : TicksTo w (w.alloc (.cells (madeCells #[.int .i64 0] len) 2)) w.heap.size len 0 (l.map (tickOf now start lo hi tick past)) :=
    ⟨(Below.refl _ _).alloc (Nat.le_refl _) _, fun j hj => made_cell w _ 2 j (by rw [size_madeCells]; exact hj), by simp, fun i s hi => absurd hi (by omega)⟩
  go_enter Try.func11, Try.ntmps11
  go_wp2_with fail
  go_loopw [16] (fun ti wr => ∃ k : Nat, k ≤ len ∧ ti = .int .i64 k ∧ TicksTo w wr w.heap.size len k (l.map (tickOf now start lo hi tick past))) (fun ti _ => len - (intOf ti).toNat)
  case atStart => exact ⟨0, Nat.zero_le _, rfl, hstart⟩
  case round =>
    obtain ⟨k, hk, rfl, hC⟩ := hrel
    clear hstart hmake
    have hl4' : (len : Int) ≤ 4096 := by omega
    by_cases hkl : (k : Int) < (len : Int)
    · obtain ⟨b, off, s, pa, pl, pc, rfl, hs, hp0, _⟩ := h0.at (k := k) (by omega)
      have hp := hp0.below hC.bel
      have hgm := hp.made
      have hcb := clamp_bd s.made lo hi hT.l0 hT.l1 hT.h0 hT.h1
      obtain ⟨n0, n1, s0, s1, _, _, _, _, t0, t1, p0, p1⟩ := hT
      have HX : Hid (tickOf now start lo hi tick past s = due (now + clamp s.made lo hi - start) tick past) := rfl
      have hx : (l.map (tickOf now start lo hi tick past))[k]? = some (tickOf now start lo hi tick past s) := by rw [List.getElem?_map, hs]; rfl
      have HN : Hid (TicksTo w _ w.heap.size len (k + 1) _) := hC.next (by omega) hx
      obtain ⟨u, hu⟩ := Option.isSome_iff_exists.1 (hC.row k (by omega)).1
      have hfz := (hC.row k (by omega)).2
      clear hs hx
      have HCL := fun w => clamp_any s.made lo hi w
      generalize clamp s.made lo hi = c at hcb HX HCL
      have HCL' : Hid (∀ w, _) := HCL
      clear HCL
      obtain ⟨cb0, cb1⟩ := hcb
      go_wp2_with fail
      refine (HCL'.out _).mono ?_
      rintro e w1 ⟨rfl, rfl⟩
      go_wp2_with fail
      refine (ceilDiv_any (now + c - start) tick _ (by omega) (by omega) (by omega)).mono ?_
      rintro e w2 ⟨rfl, rfl⟩
      have HX2 := HX.out
      rw [HX2] at HN
      unfold due at HN
      clear HX HX2
      generalize ceilDiv (now + c - start) tick = a at HN
      by_cases hap : a ≤ past
      · rw [if_pos hap] at HN
        go_wp2
        refine ⟨⟨k + 1, by omega, by go_num, HN.out⟩, ?_⟩
        simp [intOf]
        omega
      · rw [if_neg hap] at HN
        go_wp2
        refine ⟨⟨k + 1, by omega, by go_num, HN.out⟩, ?_⟩
        simp [intOf]
        omega
    · obtain rfl : k = len := by omega
      go_wp2
      go_ret
      refine ⟨rfl, ⟨by rw [List.length_map]; exact h0.length, fun _ => ⟨_, _, rfl, hC.lt, Nat.lt_irrefl _, fun i x hx => ?_⟩⟩, hC.bel⟩
      rw [Nat.zero_add]
      exact hC.got i x (by have h1 := (List.getElem?_eq_some_iff.1 hx).1; rw [List.length_map, h0.length] at h1; exact h1) hx

/-- One step of zzLastID. -/
def upId (server : Int) (lid : Int) (s : Ses) : Int := if serverOf s.id = server ∧ lid < s.id then s.id else lid
def lastId (server lid : Int) (l : List Ses) : Int := l.foldl (upId server) lid

theorem lastId_snoc {server lid : Int} {l : List Ses} {k : Nat} {s : Ses} (hs : l[k]? = some s) : lastId server lid (l.take (k + 1)) = upId server (lastId server lid (l.take k)) s := by
  have hk := (List.getElem?_eq_some_iff.1 hs).1
  have e := (List.getElem?_eq_some_iff.1 hs).2
  rw [List.take_succ_eq_append_getElem hk, lastId, List.foldl_append, e]
  rfl

set_option maxRecDepth 100000 in
set_option maxHeartbeats 2000000 in
theorem lastID_any {X : Nat → Prop} (a0 : Option Addr) (len cap : Nat) (l : List Ses) (lid server : Int) (w : World) (h0 : SAt X w a0 len l) :
    Calls Try.prog 15 #[.int .i64 lid, .slice a0 len cap, .int .i64 server] w fun e w' => e = .returned (.int .i64 (lastId server lid l)) ∧ w' = w := by
  have c46 := cells46
  have m0 := h0.le
  unfold maxLen at m0
  go_enter Try.func15, Try.ntmps15
  go_wp2
  go_loop [0, 7] (fun tl ti => ∃ (k : Nat) (x : Int), k ≤ len ∧ ti = .int .i64 k ∧ tl = .int .i64 x ∧ Hid (x = lastId server lid (l.take k))) (fun _ ti => len - (intOf ti).toNat)
  case atStart => exact ⟨0, lid, Nat.zero_le _, rfl, rfl, rfl⟩
  case round =>
    obtain ⟨k, x, hk, rfl, rfl, HX⟩ := hrel
    by_cases hkl : (k : Int) < (len : Int)
    · obtain ⟨b, off, s, pa, pl, pc, rfl, hs, hp, _⟩ := h0.at (k := k) (by omega)
      have hg := hp.id
      have HS : Hid (lastId server lid (l.take (k + 1)) = upId server x s) := by show _ = _; rw [lastId_snoc hs, HX.out]
      clear hs HX
      by_cases h1 : serverOf s.id = server
      · have h1b : (wrap64 (IntKind.u64.wrap s.id / 72057594037927936) == server) = true := beq_iff_eq.2 h1
        by_cases h2 : x < s.id
        · have HS' : Hid (s.id = lastId server lid (l.take (k + 1))) := by show _ = _; rw [HS.out]; exact (if_pos ⟨h1, h2⟩).symm
          clear h1
          go_wp2
          refine ⟨⟨k + 1, s.id, by omega, by go_num, rfl, HS'⟩, ?_⟩
          simp [intOf]
          omega
        · have HS' : Hid (x = lastId server lid (l.take (k + 1))) := by show _ = _; rw [HS.out]; exact (if_neg (fun h => h2 h.2)).symm
          clear h1
          go_wp2
          refine ⟨⟨k + 1, x, by omega, by go_num, rfl, HS'⟩, ?_⟩
          simp [intOf]
          omega
      · have h1b : (wrap64 (IntKind.u64.wrap s.id / 72057594037927936) == server) = false := beq_eq_false_iff_ne.2 h1
        have HS' : Hid (x = lastId server lid (l.take (k + 1))) := by show _ = _; rw [HS.out]; exact (if_neg (fun h => h1 h.1)).symm
        clear h1
        go_wp2
        refine ⟨⟨k + 1, x, by omega, by go_num, rfl, HS'⟩, ?_⟩
        simp [intOf]
        omega
    · obtain rfl : k = len := by omega
      have HX' : Hid (x = lastId server lid l) := by
        show _ = _
        rw [HX.out, List.take_of_length_le (by rw [h0.length]; exact Nat.le_refl _)]
      go_wp2
      go_ret
      exact ⟨ret_int HX'.out, rfl⟩

end Go.Proofs.Qxb6628246a.Se
