/-
  The table (a map from strings to structs of two strings) as a function: what a map of the call's own holds, key by key.
-/
import Derived.Test.Qxb6628193aBytes
import Derived.Maps.OwnSet
namespace Go.Proofs.Qxb6628193a.Rf
open Go.RowKit
open Go.Maps (Keyed)

theorem law : Keyed Try.prog 9 := Maps.string_keyed Try.underlying9

/-- How an element of the table reads: a struct of two strings. -/
def pairElem (v : Value) : Option (DataW Unit × List MemPlace) :=
  match v with
  | .agg ⟨[.string m, .string s]⟩ => some (.agg [.lit (.string m.data.toList), .lit (.string s.data.toList)], [])
  | _ => none

theorem pairElem_mk (m s : ByteArray) : pairElem (.agg #[.string m, .string s]) = some (.agg [.lit (.string m.data.toList), .lit (.string s.data.toList)], []) := rfl

theorem pairElem_inv {v : Value} {z : DataW Unit × List MemPlace} (h : pairElem v = some z) :
    ∃ m s, v = .agg #[.string m, .string s] ∧ z = (.agg [.lit (.string m.data.toList), .lit (.string s.data.toList)], []) := by
  unfold pairElem at h
  split at h
  · rename_i m s
    cases h
    exact ⟨m, s, rfl, rfl⟩
  · cases h

theorem data_inj {a b : ByteArray} (h : a.data.toList = b.data.toList) : a = b := by
  cases a; cases b
  simp at h
  simp [h]

/-- The key. -/
def kl (s : ByteArray) : Lit := .string s.data.toList

theorem kl_ne {a b : ByteArray} (h : a ≠ b) : kl a ≠ kl b := by
  intro e
  apply h
  unfold kl at e
  exact data_inj (by injection e)

theorem key_of {s : ByteArray} (h : s.size ≤ maxLen) : keyOf Try.prog 9 (.string s) = some (kl s) := WideMaps.keyOf_string_mk Try.underlying9 h

def datum (p : ByteArray × ByteArray) : DataW Unit := .agg [.lit (.string p.1.data.toList), .lit (.string p.2.data.toList)]

def zeroD : DataW Unit := datum (ByteArray.empty, ByteArray.empty)

/-- BLOCK B OF w IS A MAP OF AT MOST n ENTRIES THAT HOLDS f. -/
def Tab (w : World) (B n : Nat) (f : ByteArray → Option (ByteArray × ByteArray)) : Prop :=
  ∃ D : DataW Unit, w.ownsMap Try.prog 9 pairElem B n D ∧ ∀ s, (f s = none → Maps.has D (kl s) = false) ∧ ∀ p, f s = some p → Maps.has D (kl s) = true ∧ D.atKey (kl s) zeroD = datum p

theorem Tab.lt {w : World} {B n : Nat} {f : ByteArray → Option (ByteArray × ByteArray)} (h : Tab w B n f) : B < w.heap.size := by
  obtain ⟨D, hD, _⟩ := h
  exact hD.lt

theorem Tab.made (w : World) : Tab (w.alloc (.map #[] 0)) w.heap.size 0 (fun _ => none) :=
  ⟨.map [], World.ownsMap_made w _ _ _, fun s => ⟨fun _ => rfl, fun p h => by cases h⟩⟩

theorem Tab.drew {w : World} {B n : Nat} {f : ByteArray → Option (ByteArray × ByteArray)} (h : Tab w B n f) : Tab w.drew B n f := h

theorem Tab.block {w w' : World} {B n : Nat} {f : ByteArray → Option (ByteArray × ByteArray)} (h : Tab w B n f) (hb : w'.heap[B]? = w.heap[B]?) : Tab w' B n f := by
  obtain ⟨D, ⟨es, clock, h1, h2⟩, hf⟩ := h
  exact ⟨D, ⟨es, clock, hb.trans h1, h2⟩, hf⟩

theorem Tab.below {w w' : World} {B n : Nat} {f : ByteArray → Option (ByteArray × ByteArray)} (h : Tab w B n f) (hb : Below w.heap.size w w') : Tab w' B n f :=
  h.block (hb.block B h.lt)

theorem zero32 (w : World) : (zeroValue 32).run Try.prog w = .ok (.agg #[.string ByteArray.empty, .string ByteArray.empty]) w := by kernel_rfl

/-- 'e, ok := c[code]'. -/
theorem Tab.look {w : World} {B n : Nat} {f : ByteArray → Option (ByteArray × ByteArray)} (h : Tab w B n f) {s : ByteArray} (hs : s.size ≤ maxLen) :
    ∃ m st, (Instr.lookup 25 (.map (some B)) (.string s) true).run Try.prog w = .ok (.tuple #[.agg #[.string m, .string st], .bool (f s).isSome]) w ∧ ∀ p, f s = some p → p = (m, st) := by
  obtain ⟨D, hD, hf⟩ := h
  obtain ⟨v, ps, hrun, hv⟩ := hD.look_ok law Try.underlying25 (zero32 w) (pairElem_mk _ _) (key_of hs)
  obtain ⟨m, st, rfl, hz⟩ := pairElem_inv hv
  refine ⟨m, st, ?_, ?_⟩
  · rw [hrun]
    cases hfs : f s with
    | none => rw [(hf s).1 hfs]; rfl
    | some p => rw [((hf s).2 p hfs).1]; rfl
  · intro p hp
    have h1 := ((hf s).2 p hp).2
    have h2 : D.atKey (kl s) zeroD = .agg [.lit (.string m.data.toList), .lit (.string st.data.toList)] := congrArg Prod.fst hz
    rw [h1] at h2
    unfold datum at h2
    simp at h2
    obtain ⟨a, b⟩ := p
    simp at h2
    rw [data_inj (congrArg Array.toList h2.1), data_inj (congrArg Array.toList h2.2)]

/-- 'c[key] = CodeEntry{m, st}'. -/
theorem Tab.put {w : World} {B n : Nat} {f : ByteArray → Option (ByteArray × ByteArray)} (h : Tab w B n f) (hn : n < maxLen) {s : ByteArray} (hs : s.size ≤ maxLen) (m st : ByteArray) :
    ∃ w', (Instr.mapUpdate 25 (.map (some B)) (.string s) (.agg #[.string m, .string st])).run Try.prog w = .ok () w' ∧ Tab w' B (n + 1) (fun x => if x = s then some (m, st) else f x) ∧ w.grownBy w' (some B) := by
  obtain ⟨D, hD, hf⟩ := h
  obtain ⟨w', hrun, hown, hg⟩ := hD.update law Try.underlying25 hn (key_of hs) (pairElem_mk m st)
  refine ⟨w', hrun, ⟨_, hown, fun x => ?_⟩, hg⟩
  by_cases hx : x = s
  · subst hx
    simp only [if_true]
    refine ⟨(fun h => by cases h), ?_⟩
    intro p hp
    cases hp
    exact ⟨Maps.has_put_same hD.isMap (law.key (key_of hs)) _, Maps.atKey_put_same hD.isMap (law.key (key_of hs)) _ _⟩
  · simp only [hx, if_false]
    rw [Maps.has_put_other (kl_ne hx), Maps.atKey_put_other (kl_ne hx)]
    exact hf x

/-- 'delete(c, key)'. -/
theorem Tab.del {w : World} {B n : Nat} {f : ByteArray → Option (ByteArray × ByteArray)} (h : Tab w B n f) {s : ByteArray} (hs : s.size ≤ maxLen) (ty : TypeId) :
    ∃ w', (Builtin.delete_ #[25, 9] ty #[.map (some B), .string s]).run Try.prog w = .ok (.tuple #[]) w' ∧ Tab w' B n (fun x => if x = s then none else f x) ∧ w.grownBy w' (some B) := by
  obtain ⟨D, hD, hf⟩ := h
  obtain ⟨w', hrun, hown, hg⟩ := hD.drop law Try.underlying25 (key_of hs) ty
  refine ⟨w', hrun, ⟨_, hown, fun x => ?_⟩, hg.grown⟩
  by_cases hx : x = s
  · subst hx
    simp only [if_true]
    exact ⟨fun _ => Maps.has_del_same, fun p hp => by cases hp⟩
  · simp only [hx, if_false]
    rw [Maps.has_del_other (kl_ne hx), Maps.atKey_del_other (kl_ne hx)]
    exact hf x

end Go.Proofs.Qxb6628193a.Rf
