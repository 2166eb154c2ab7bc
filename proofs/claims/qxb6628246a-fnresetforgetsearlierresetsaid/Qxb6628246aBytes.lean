/-
  A list of sessions in memory; the bounds on the total length, walked: they return; where zzBytes says yes, the lengths are small.
-/
import Derived.Test.Qxb6628246aTab
namespace Go.Proofs.Qxb6628246a.Se
open Go.RowKit

/-- A []SessionIn in memory. -/
structure SAt (X : Nat → Prop) (w : World) (a : Option Addr) (len : Nat) (l : List Ses) : Prop where
  length : l.length = len
  le : len ≤ maxLen
  cells : 0 < len → ∃ b off, a = some ⟨b, off, none⟩ ∧ ∀ (i : Nat) (s : Ses), l[i]? = some s → ∃ pv, SesAt X w b (off + i * 6) s pv

theorem SAt.kept {X : Nat → Prop} {w w' : World} {a : Option Addr} {len : Nat} {l : List Ses} (h : SAt X w a len l) (hk : Kept X w w') : SAt X w' a len l := by
  refine ⟨h.length, h.le, fun h0 => ?_⟩
  obtain ⟨b, off, ha, hc⟩ := h.cells h0
  refine ⟨b, off, ha, fun i s hs => ?_⟩
  obtain ⟨pv, hp⟩ := hc i s hs
  exact ⟨pv, hp.kept hk⟩

theorem SAt.below {X : Nat → Prop} {w w' : World} {a : Option Addr} {len : Nat} {l : List Ses} (h : SAt X w a len l) (hb : Below w.heap.size w w') : SAt X w' a len l := h.kept (Kept.of_below hb)

theorem SAt.weaken {X Y : Nat → Prop} {w : World} {a : Option Addr} {len : Nat} {l : List Ses} (h : SAt X w a len l) (hxy : ∀ b, b < w.heap.size → ¬ X b → ¬ Y b) : SAt Y w a len l := by
  refine ⟨h.length, h.le, fun h0 => ?_⟩
  obtain ⟨b, off, ha, hc⟩ := h.cells h0
  refine ⟨b, off, ha, fun i s hs => ?_⟩
  obtain ⟨pv, hp⟩ := hc i s hs
  exact ⟨pv, hp.weaken hxy⟩

/-- The k-th session of a list in memory. -/
theorem SAt.at {X : Nat → Prop} {w : World} {a : Option Addr} {len : Nat} {l : List Ses} (h : SAt X w a len l) {k : Nat} (hk : k < len) :
    ∃ b off s pa pl pc, a = some ⟨b, off, none⟩ ∧ l[k]? = some s ∧ SesAt X w b (off + k * 6) s (.slice pa pl pc) ∧ s.pw.length = pl := by
  obtain ⟨b, off, ha, hc⟩ := h.cells (by omega)
  have hs : l[k]? = some (l[k]'(by rw [h.length]; exact hk)) := List.getElem?_eq_getElem _
  obtain ⟨pv, hp⟩ := hc k _ hs
  obtain ⟨pa, pl, pc, rfl, hl, _⟩ := hp.bytes
  exact ⟨b, off, _, pa, pl, pc, ha, hs, hp, hl⟩

/-- It returns a bool. -/
def Tells (e : Ending) : Prop := ∃ r, e = .returned (.bool r)
theorem tells (r : Bool) : Tells (.returned (.bool r)) := ⟨r, rfl⟩

set_option maxRecDepth 100000 in
set_option maxHeartbeats 2000000 in
theorem bytes5_any {X : Nat → Prop} (a0 : Option Addr) (len0 cap0 : Nat) (l0 : List Ses) (x1 x2 x3 x4 x5 x6 x7 x8 : Int) (w : World) (h0 : SAt X w a0 len0 l0) :
    Calls Try.prog 5 #[.slice a0 len0 cap0, .int .i64 x1, .int .i64 x2, .int .i64 x3, .int .i64 x4, .int .i64 x5, .int .i64 x6, .int .i64 x7, .int .i64 x8] w fun e w' => Tells e ∧ w' = w := by
  have c46 := cells46
  have m0 := h0.le
  unfold maxLen at m0
  go_enter Try.func5, Try.ntmps5
  go_wp2
  · go_ret
    exact ⟨tells _, rfl⟩
  · go_loop [19, 20] (fun z i => ∃ (m : Int) (k : Nat), k ≤ len0 ∧ z = .int .i64 m ∧ i = .int .i64 k) (fun _ i => len0 - (intOf i).toNat)
    case atStart => exact ⟨_, 0, Nat.zero_le _, rfl, rfl⟩
    case round =>
      obtain ⟨m, k, hk, rfl, rfl⟩ := hrel
      by_cases hkl : (k : Int) < (len0 : Int)
      · obtain ⟨b, off, s, pa, pl, pc, rfl, _, hp, _⟩ := h0.at (k := k) (by omega)
        have hck := hp.pw
        go_wp2
        · go_ret
          exact ⟨tells _, rfl⟩
        · go_ret
          exact ⟨tells _, rfl⟩
        · go_round
          case rel => exact ⟨_, k + 1, by omega, rfl, by go_num⟩
          case measure => simp [intOf]; omega
      · go_wp2
        go_ret
        exact ⟨tells _, rfl⟩

set_option maxRecDepth 100000 in
set_option maxHeartbeats 2000000 in
theorem bytes16_any {X : Nat → Prop} (a0 : Option Addr) (len0 cap0 : Nat) (l0 : List Ses) (a1 : Option Addr) (len1 cap1 : Nat) (l1 : List Ses) (x1 x2 x3 x4 x5 x6 x7 x8 x9 : Int) (w : World) (h0 : SAt X w a0 len0 l0) (h1 : SAt X w a1 len1 l1) :
    Calls Try.prog 16 #[.slice a0 len0 cap0, .slice a1 len1 cap1, .int .i64 x1, .int .i64 x2, .int .i64 x3, .int .i64 x4, .int .i64 x5, .int .i64 x6, .int .i64 x7, .int .i64 x8, .int .i64 x9] w fun e w' => Tells e ∧ w' = w := by
  have c46 := cells46
  have m0 := h0.le
  have m1 := h1.le
  unfold maxLen at m0 m1
  go_enter Try.func16, Try.ntmps16
  go_wp2
  · go_ret
    exact ⟨tells _, rfl⟩
  · go_loop [23, 24] (fun z i => ∃ (m : Int) (k : Nat), k ≤ len0 ∧ z = .int .i64 m ∧ i = .int .i64 k) (fun _ i => len0 - (intOf i).toNat)
    case atStart => exact ⟨_, 0, Nat.zero_le _, rfl, rfl⟩
    case round =>
      obtain ⟨m, k, hk, rfl, rfl⟩ := hrel
      by_cases hkl : (k : Int) < (len0 : Int)
      · obtain ⟨b, off, s, pa, pl, pc, rfl, _, hp, _⟩ := h0.at (k := k) (by omega)
        have hck := hp.pw
        go_wp2
        · go_ret
          exact ⟨tells _, rfl⟩
        · go_ret
          exact ⟨tells _, rfl⟩
        · go_round
          case rel => exact ⟨_, k + 1, by omega, rfl, by go_num⟩
          case measure => simp [intOf]; omega
      · go_wp2
        · go_ret
          exact ⟨tells _, rfl⟩
        · go_ret
          exact ⟨tells _, rfl⟩
        · go_loop [23, 25] (fun z i => ∃ (m : Int) (k : Nat), k ≤ len1 ∧ z = .int .i64 m ∧ i = .int .i64 k) (fun _ i => len1 - (intOf i).toNat)
          case atStart => exact ⟨_, 0, Nat.zero_le _, rfl, rfl⟩
          case round =>
            obtain ⟨m, k, hk, rfl, rfl⟩ := hrel
            by_cases hkl : (k : Int) < (len1 : Int)
            · obtain ⟨b, off, s, pa, pl, pc, rfl, _, hp, _⟩ := h1.at (k := k) (by omega)
              have hck := hp.pw
              go_wp2
              · go_ret
                exact ⟨tells _, rfl⟩
              · go_ret
                exact ⟨tells _, rfl⟩
              · go_round
                case rel => exact ⟨_, k + 1, by omega, rfl, by go_num⟩
                case measure => simp [intOf]; omega
            · go_wp2
              go_ret
              exact ⟨tells _, rfl⟩

/-- zzBytes' answer: where it says yes, the list is short and so is each password. -/
def Short (len : Nat) (l : List Ses) : Prop := len ≤ 4096 ∧ ∀ s ∈ l, s.pw.length ≤ 1048576
def TellsShort (e : Ending) (len : Nat) (l : List Ses) : Prop := ∃ t r, e = .returned (.tuple #[.int .i64 t, .bool r]) ∧ (r = true → Short len l)

set_option maxRecDepth 100000 in
set_option maxHeartbeats 2000000 in
theorem bytes6_any {X : Nat → Prop} (a0 : Option Addr) (len0 cap0 : Nat) (l0 : List Ses) (t : Int) (w : World) (h0 : SAt X w a0 len0 l0) :
    Calls Try.prog 6 #[.slice a0 len0 cap0, .int .i64 t] w fun e w' => TellsShort e len0 l0 ∧ w' = w := by
  have c46 := cells46
  have m0 := h0.le
  unfold maxLen at m0
  by_cases hlen : (4096 : Int) < (len0 : Int)
  · go_enter Try.func6, Try.ntmps6
    go_wp2
    go_ret2
    exact ⟨⟨_, _, rfl, fun h => by cases h⟩, rfl⟩
  · go_enter Try.func6, Try.ntmps6
    go_wp2
    go_loop [1, 6] (fun z i => ∃ (m : Int) (k : Nat), k ≤ len0 ∧ z = .int .i64 m ∧ i = .int .i64 k ∧ Hid (∀ i s, i < k → l0[i]? = some s → s.pw.length ≤ 1048576)) (fun _ i => len0 - (intOf i).toNat)
    case atStart => exact ⟨_, 0, Nat.zero_le _, rfl, rfl, fun i s hi => absurd hi (by omega)⟩
    case round =>
      obtain ⟨m, k, hk, rfl, rfl, HK⟩ := hrel
      by_cases hkl : (k : Int) < (len0 : Int)
      · obtain ⟨b, off, s, pa, pl, pc, rfl, hs, hp, hpl⟩ := h0.at (k := k) (by omega)
        have hck := hp.pw
        by_cases hpl1 : (1048576 : Int) < (pl : Int)
        · go_wp2
          go_ret2
          exact ⟨⟨_, _, rfl, fun h => by cases h⟩, rfl⟩
        · have HK' : Hid (∀ i s, i < k + 1 → l0[i]? = some s → s.pw.length ≤ 1048576) := by
            intro i s' hi hs'
            by_cases e : i = k
            · subst e
              rw [hs] at hs'
              cases hs'
              omega
            · exact HK.out i s' (by omega) hs'
          clear hs
          go_wp2
          · go_ret2
            exact ⟨⟨_, _, rfl, fun h => by cases h⟩, rfl⟩
          · go_round
            case rel => exact ⟨_, k + 1, by omega, rfl, by go_num, HK'⟩
            case measure => simp [intOf]; omega
      · go_wp2
        go_ret2
        refine ⟨⟨_, _, rfl, fun _ => ⟨by omega, fun s hs => ?_⟩⟩, rfl⟩
        obtain ⟨i, hi, rfl⟩ := List.getElem_of_mem hs
        exact HK.out i _ (by have := h0.length; omega) (List.getElem?_eq_getElem hi)

end Go.Proofs.Qxb6628246a.Se

