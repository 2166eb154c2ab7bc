/-
  What is known of sessions in memory; zzBytesEq and zzSame, walked.
-/
import Derived.Test.Qxb6628246aSmall
namespace Go.Proofs.Qxb6628246a.Se
open Go.RowKit

/-- A session: the fields of SessionIn, and of session.Session (tmo: its Timeout; exp: its expiresAt). -/
structure Ses where
  id : Int
  pw : List Int
  tmo : Int
  made : Int
  server : Int
  exp : Int

/-- w' IS w, WITH NEW BLOCKS, BUT FOR THE OLD BLOCKS THAT X NAMES. -/
structure Kept (X : Nat → Prop) (w w' : World) : Prop where
  os : w'.os = w.os
  tape : w'.tape = w.tape
  output : w'.output = w.output
  size : w.heap.size ≤ w'.heap.size
  block : ∀ k, k < w.heap.size → ¬ X k → w'.heap[k]? = w.heap[k]?

theorem Kept.refl (X : Nat → Prop) (w : World) : Kept X w w := ⟨rfl, rfl, rfl, Nat.le_refl _, fun _ _ _ => rfl⟩
theorem Kept.trans {X : Nat → Prop} {a b c : World} (h : Kept X a b) (k : Kept X b c) : Kept X a c :=
  ⟨k.os.trans h.os, k.tape.trans h.tape, k.output.trans h.output, Nat.le_trans h.size k.size, fun i hi hx => (k.block i (Nat.lt_of_lt_of_le hi h.size) hx).trans (h.block i hi hx)⟩
theorem Kept.of_below {X : Nat → Prop} {w w' : World} (h : Below w.heap.size w w') : Kept X w w' := ⟨h.os, h.tape, h.output, h.size, fun k hk _ => h.block k hk⟩
/-- A step that turns one block, or makes new ones, behind 'Kept': the block is named by X, or is a new one. -/
theorem Kept.step {X : Nat → Prop} {a w w' : World} {row : Option Nat} (h : Kept X a w) (hg : w.grownBy w' row) (hr : ∀ k, row = some k → X k ∨ a.heap.size ≤ k) : Kept X a w' :=
  ⟨hg.os.trans h.os, hg.tape.trans h.tape, hg.output.trans h.output, Nat.le_trans h.size hg.size, fun k hk hx => by
    rw [hg.block k (Nat.lt_of_lt_of_le hk h.size) (fun e => by rcases hr k e.symm with h1 | h1; exact hx h1; omega)]
    exact h.block k hk hx⟩
theorem Kept.below {X : Nat → Prop} {a w w' : World} (h : Kept X a w) (hb : Below w.heap.size w w') : Kept X a w' := h.trans (Kept.of_below hb)
theorem Kept.drew {X : Nat → Prop} {a w : World} (h : Kept X a w) : Kept X a w.drew := ⟨h.os, h.tape, h.output, h.size, h.block⟩
theorem Kept.drewN {X : Nat → Prop} {a w : World} (h : Kept X a w) (n : Nat) : Kept X a (w.drewN n) := ⟨h.os, h.tape, h.output, h.size, h.block⟩
theorem Kept.set {X : Nat → Prop} {a w : World} (h : Kept X a w) (b o : Nat) (v : Value) (hr : X b ∨ a.heap.size ≤ b) : Kept X a (w.setCell ⟨b, o, none⟩ v) :=
  ⟨h.os, h.tape, h.output, by simpa [World.setCell] using h.size, fun k hk hx => by
    rw [Below.heap_setCell _ _ _ _ (fun e => by subst e; rcases hr with h1 | h1; exact hx h1; omega)]
    exact h.block k hk hx⟩
theorem Kept.cell {X : Nat → Prop} {w w' : World} (h : Kept X w w') {b o : Nat} (hb : b < w.heap.size) (hx : ¬ X b) : w'.cell? ⟨b, o, none⟩ = w.cell? ⟨b, o, none⟩ := World.cell?_of_block (w := w) (h.block b hb hx)
theorem Kept.frozen {X : Nat → Prop} {w w' : World} (h : Kept X w w') {b o : Nat} (hb : b < w.heap.size) (hx : ¬ X b) : w'.frozen? ⟨b, o, none⟩ = w.frozen? ⟨b, o, none⟩ := World.frozen?_of_block (w := w) (h.block b hb hx)

/-- A password in memory, outside the blocks that X names. -/
def PwAt (X : Nat → Prop) (w : World) (v : Value) (bs : List Int) : Prop :=
  ∃ a len cap, v = .slice a len cap ∧ bs.length = len ∧ (∀ c ∈ bs, 0 ≤ c ∧ c ≤ 255) ∧ len ≤ maxLen ∧
    (0 < len → ∃ b off, a = some ⟨b, off, none⟩ ∧ b < w.heap.size ∧ ¬ X b ∧ ∀ i, i < len → w.cell? ⟨b, off + i, none⟩ = some (.int .u8 (bs.getD i 0)))

theorem PwAt.kept {X : Nat → Prop} {w w' : World} {v : Value} {bs : List Int} (h : PwAt X w v bs) (hb : Kept X w w') : PwAt X w' v bs := by
  obtain ⟨a, len, cap, hv, hl, hr, hm, hc⟩ := h
  refine ⟨a, len, cap, hv, hl, hr, hm, fun h0 => ?_⟩
  obtain ⟨b, off, ha, hlt, hx, hcell⟩ := hc h0
  exact ⟨b, off, ha, Nat.lt_of_lt_of_le hlt hb.size, hx, fun i hi => by rw [hb.cell hlt hx]; exact hcell i hi⟩

theorem PwAt.weaken {X Y : Nat → Prop} {w : World} {v : Value} {bs : List Int} (h : PwAt X w v bs) (hxy : ∀ b, b < w.heap.size → ¬ X b → ¬ Y b) : PwAt Y w v bs := by
  obtain ⟨a, len, cap, hv, hl, hr, hm, hc⟩ := h
  refine ⟨a, len, cap, hv, hl, hr, hm, fun h0 => ?_⟩
  obtain ⟨b, off, ha, hlt, hx, hcell⟩ := hc h0
  exact ⟨b, off, ha, hlt, hxy b hlt hx, hcell⟩

theorem PwAt.below {X : Nat → Prop} {w w' : World} {v : Value} {bs : List Int} (h : PwAt X w v bs) (hb : Below w.heap.size w w') : PwAt X w' v bs := h.kept (Kept.of_below hb)

/-- The six cells of a session at ⟨b, o⟩; pv: the password's own value. -/
structure SesAt (X : Nat → Prop) (w : World) (b o : Nat) (s : Ses) (pv : Value) : Prop where
  lt : b < w.heap.size
  out : ¬ X b
  id : w.cell? ⟨b, o, none⟩ = some (.int .i64 s.id)
  pw : w.cell? ⟨b, o + 1, none⟩ = some pv
  tmo : w.cell? ⟨b, o + 2, none⟩ = some (.int .i64 s.tmo)
  made : w.cell? ⟨b, o + 3, none⟩ = some (.int .i64 s.made)
  server : w.cell? ⟨b, o + 4, none⟩ = some (.int .i64 s.server)
  exp : w.cell? ⟨b, o + 5, none⟩ = some (.int .i64 s.exp)
  bytes : PwAt X w pv s.pw

theorem SesAt.kept {X : Nat → Prop} {w w' : World} {b o : Nat} {s : Ses} {pv : Value} (h : SesAt X w b o s pv) (hb : Kept X w w') : SesAt X w' b o s pv := by
  have hc := fun k => hb.cell (o := k) h.lt h.out
  exact ⟨Nat.lt_of_lt_of_le h.lt hb.size, h.out, by rw [hc]; exact h.id, by rw [hc]; exact h.pw, by rw [hc]; exact h.tmo, by rw [hc]; exact h.made, by rw [hc]; exact h.server, by rw [hc]; exact h.exp, h.bytes.kept hb⟩

theorem SesAt.below {X : Nat → Prop} {w w' : World} {b o : Nat} {s : Ses} {pv : Value} (h : SesAt X w b o s pv) (hb : Below w.heap.size w w') : SesAt X w' b o s pv := h.kept (Kept.of_below hb)

theorem SesAt.weaken {X Y : Nat → Prop} {w : World} {b o : Nat} {s : Ses} {pv : Value} (h : SesAt X w b o s pv) (hxy : ∀ b, b < w.heap.size → ¬ X b → ¬ Y b) : SesAt Y w b o s pv :=
  ⟨h.lt, hxy b h.lt h.out, h.id, h.pw, h.tmo, h.made, h.server, h.exp, h.bytes.weaken hxy⟩

theorem cells5 : Try.prog.cellsOf 5 = 1 := by kernel_rfl
theorem cells2 : Try.prog.cellsOf 2 = 1 := by kernel_rfl
theorem cells61 : Try.prog.cellsOf 61 = 1 := by kernel_rfl
theorem cells46 : Try.prog.cellsOf 46 = 6 := by kernel_rfl

theorem below_drewN {B : Nat} {a w : World} (h : Below B a w) (n : Nat) : Below B a (w.drewN n) := h.trans ⟨rfl, rfl, rfl, Nat.le_refl _, fun _ _ => rfl⟩

set_option maxHeartbeats 1000000 in
theorem bytesEq_any {X Y : Nat → Prop} (v1 v2 : Value) (bs : List Int) (w : World) (h1 : PwAt X w v1 bs) (h2 : PwAt Y w v2 bs) :
    Calls Try.prog 40 #[v1, v2] w fun e w' => e = .returned (.bool true) ∧ ∃ n, w' = w.drewN n := by
  have c5 := cells5
  obtain ⟨a1, len, cap1, rfl, hl, hr, hm, hc1⟩ := h1
  obtain ⟨a2, len2, cap2, rfl, hl2, _, _, hc2⟩ := h2
  obtain rfl : len = len2 := by omega
  clear hl2
  unfold maxLen at hm
  by_cases h0 : 0 < len
  · obtain ⟨b1, o1, rfl, hb1, _, hcell1⟩ := hc1 h0
    obtain ⟨b2, o2, rfl, hb2, _, hcell2⟩ := hc2 h0
    clear hc1 hc2
    have hself : ((len : Int) != (len : Int)) = false := by simp
    go_enter Try.func40, Try.ntmps40
    go_wp2
    go_loopw [5] (fun ti wr => ∃ k n : Nat, k ≤ len ∧ ti = .int .i64 k ∧ wr = w.drewN n) (fun ti _ => len - (intOf ti).toNat)
    case atStart => exact ⟨0, 0, Nat.zero_le _, rfl, rfl⟩
    case round =>
      obtain ⟨k, n, hk, rfl, rfl⟩ := hrel
      by_cases hkl : (k : Int) < (len : Int)
      · have g1 := hcell1 k (by omega)
        have g2 := hcell2 k (by omega)
        generalize bs.getD k 0 = c at g1 g2
        have hcc : (c != c) = false := by simp
        go_wp2
        go_quiet (fail)
        go_wp2
        refine ⟨⟨k + 1, n + nq, by omega, by go_num, rfl⟩, ?_⟩
        simp [intOf]
        omega
      · go_wp2
        go_ret
        exact ⟨rfl, n, rfl⟩
  · obtain rfl : len = 0 := by omega
    go_enter Try.func40, Try.ntmps40
    go_wp2
    go_loop [5] (fun ti => ti = .int .i64 0) (fun _ => 0)
    case atStart => rfl
    case round =>
      subst hrel
      go_wp2
      go_ret
      exact ⟨rfl, 0, rfl⟩

/-- ZZexpiresAt. -/
theorem expiresAt_any (b : Nat) (x : Int) (w : World) (h : w.cell? ⟨b, 5, none⟩ = some (.int .i64 x)) : Calls Try.prog 41 #[.pointer (some ⟨b, 0, none⟩)] w fun e w' => e = .returned (.int .i64 x) ∧ w' = w := by
  go_enter Try.func41, Try.ntmps41
  go_wp2
  go_ret
  exact ⟨rfl, rfl⟩

/-- A session as a value of type SessionIn. -/
def sesV (s : Ses) (pv : Value) : Value := .agg #[.int .i64 s.id, pv, .int .i64 s.tmo, .int .i64 s.made, .int .i64 s.server, .int .i64 s.exp]

set_option maxHeartbeats 4000000 in
theorem same_any {X Y : Nat → Prop} (sb : Nat) (p s : Ses) (pv1 pv2 : Value) (to at' : Int) (w : World) (hp : SesAt X w sb 0 p pv1) (hpw : PwAt Y w pv2 s.pw)
    (e1 : p.id = s.id) (e2 : p.pw = s.pw) (e3 : p.tmo = to) (e4 : p.made = s.made) (e5 : p.server = s.server) (e6 : p.exp = at') :
    Calls Try.prog 31 #[.pointer (some ⟨sb, 0, none⟩), sesV s pv2, .int .i64 to, .int .i64 at'] w fun e w' => e = .returned (.bool true) ∧ Below w.heap.size w w' := by
  obtain ⟨hlt, _, g0, g1, g2, g3, g4, g5, gb⟩ := hp
  rw [e1] at g0
  rw [e3] at g2
  rw [e4] at g3
  rw [e5] at g4
  rw [e6] at g5
  rw [e2] at gb
  clear e1 e2 e3 e4 e5 e6
  obtain ⟨id, pw, tmo, made, server, exp⟩ := s
  unfold sesV
  simp only at *
  have hpw' := hpw
  obtain ⟨a2, l2, q2, rfl, _⟩ := hpw'
  have gb' := gb
  obtain ⟨a1, l1, q1, rfl, _⟩ := gb'
  have k1 : (id == id) = true := by simp
  have k2 : (to == to) = true := by simp
  have k3 : (made == made) = true := by simp
  have k4 : (server == server) = true := by simp
  have k5 : (at' == at') = true := by simp
  have hB1 : Below w.heap.size w (w.alloc (.cells #[.int .i64 id, .slice a2 l2 q2, .int .i64 tmo, .int .i64 made, .int .i64 server, .int .i64 exp] 46)) := (Below.refl _ _).alloc (Nat.le_refl _) _
  have gb1 := gb.below hB1
  have hp1 := hpw.below hB1
  have HBQ : Hid (∀ n, Calls Try.prog 40 #[.slice a1 l1 q1, .slice a2 l2 q2] ((w.alloc (.cells #[.int .i64 id, .slice a2 l2 q2, .int .i64 tmo, .int .i64 made, .int .i64 server, .int .i64 exp] 46)).drewN n) fun e w' => e = .returned (.bool true) ∧ ∃ m, w' = (w.alloc (.cells #[.int .i64 id, .slice a2 l2 q2, .int .i64 tmo, .int .i64 made, .int .i64 server, .int .i64 exp] 46)).drewN m) := by
    intro n
    refine (bytesEq_any _ _ pw _ (gb1.below (below_drewN (Below.refl _ _) n)) (hp1.below (below_drewN (Below.refl _ _) n))).mono ?_
    rintro e w' ⟨he, m, rfl⟩
    exact ⟨he, n + m, by simp⟩
  clear gb hpw gb1 hp1
  go_enter Try.func31, Try.ntmps31
  go_wp2
  go_quiet (first
    | (go_at_call 40; exact HBQ.out _)
    | (go_at_call 41; exact Calls.quiet_of_same (expiresAt_any sb at' _ (by go_simp))))
  go_wp2
  go_ret
  exact ⟨ret_bool (by simp), below_drewN hB1 _⟩

end Go.Proofs.Qxb6628246a.Se
