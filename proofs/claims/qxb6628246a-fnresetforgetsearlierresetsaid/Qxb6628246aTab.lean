/-
  Maps from int64 to blocks (pointers to sessions; maps of them), as functions: what a map of the call's own holds, key by key, and how many keys it has.
-/
import Derived.Test.Qxb6628246aMem
import Derived.Maps.OwnSet
namespace Go.Proofs.Qxb6628246a.Se
open Go.RowKit
open Go.Maps (Keyed)

theorem law : Keyed Try.prog 2 := Maps.int_keyed Try.underlying2

/-- The key. -/
def kl (k : Int) : Lit := .int .i64 k

theorem kl_ne {a b : Int} (h : a ≠ b) : kl a ≠ kl b := by
  intro e
  unfold kl at e
  injection e with _ e
  exact h e

/-- An int64. -/
def I64 (k : Int) : Prop := -9223372036854775808 ≤ k ∧ k ≤ 9223372036854775807

theorem wf_of {k : Int} (h : I64 k) : (Lit.int .i64 k).wf = true := by
  obtain ⟨h0, h1⟩ := h
  simp [Lit.wf, IntKind.min, IntKind.max, IntKind.signed, IntKind.bits]
  omega

theorem key_of {k : Int} (h : I64 k) : keyOf Try.prog 2 (.int .i64 k) = some (kl k) := Maps.keyOf_int_mk Try.underlying2 (wf_of h)

/-- A kind of element: a block, or none. -/
structure Kind where
  mt : TypeId
  et : TypeId
  enc : Nat → Value
  zero : Value
  R : Value → Option (DataW Unit × List MemPlace)

/-- What a block, or none, reads as. -/
def node (b : Option Nat) : DataW Unit := .lit (.int .i64 (match b with | some b => (b : Int) + 1 | none => 0))

theorem node_inj {a b : Option Nat} (h : node a = node b) : a = b := by
  unfold node at h
  injection h with h
  injection h with _ h
  cases a <;> cases b <;> simp at h ⊢ <;> omega

def ptrR (v : Value) : Option (DataW Unit × List MemPlace) :=
  match v with
  | .pointer none => some (node none, [])
  | .pointer (some ⟨b, 0, none⟩) => some (node (some b), [])
  | _ => none

def mapR (v : Value) : Option (DataW Unit × List MemPlace) :=
  match v with
  | .map b => some (node b, [])
  | _ => none

/-- map[int64]*Session -/
def ptrK : Kind := { mt := 49, et := 61, enc := fun b => .pointer (some ⟨b, 0, none⟩), zero := .pointer none, R := ptrR }
/-- map[int64]map[int64]*Session -/
def mapK : Kind := { mt := 50, et := 49, enc := fun b => .map (some b), zero := .map none, R := mapR }

/-- The value of an element. -/
def Kind.val (K : Kind) (b : Option Nat) : Value := match b with | some b => K.enc b | none => K.zero

structure Kind.Ok (K : Kind) : Prop where
  u : Try.prog.underlying K.mt = some (.map 2 K.et)
  zero : ∀ w, (zeroValue K.et).run Try.prog w = .ok K.zero w
  make : ∀ b, K.R (K.val b) = some (node b, [])
  inv : ∀ v z, K.R v = some z → ∃ b, v = K.val b ∧ z = (node b, [])

theorem ptr_ok : ptrK.Ok where
  u := Try.underlying49
  zero := fun w => by kernel_rfl
  make := fun b => by cases b <;> rfl
  inv := fun v z h => by
    unfold ptrK ptrR at h
    simp only at h
    split at h
    · cases h; exact ⟨none, rfl, rfl⟩
    · rename_i b; cases h; exact ⟨some b, rfl, rfl⟩
    · cases h

theorem map_ok : mapK.Ok where
  u := Try.underlying50
  zero := fun w => by kernel_rfl
  make := fun b => by cases b <;> rfl
  inv := fun v z h => by
    unfold mapK mapR at h
    simp only at h
    split at h
    · rename_i b; cases h; exact ⟨b, by cases b <;> rfl, rfl⟩
    · cases h

/-- BLOCK B OF w IS A MAP (of at most n entries) WITH THE KEYS ks THAT HOLDS f. -/
def Tab (K : Kind) (w : World) (B n : Nat) (ks : List Int) (f : Int → Option Nat) : Prop :=
  ∃ D : DataW Unit, w.ownsMap Try.prog 2 K.R B n D ∧ ks.Nodup ∧ Maps.size D = ks.length ∧ (∀ k, (f k).isSome = true ↔ k ∈ ks) ∧
    ∀ k, Maps.has D (kl k) = (f k).isSome ∧ D.atKey (kl k) (node none) = node (f k)

section
variable {K : Kind} {w w' : World} {B n : Nat} {ks : List Int} {f : Int → Option Nat}

theorem Tab.lt (h : Tab K w B n ks f) : B < w.heap.size := by
  obtain ⟨D, hD, _⟩ := h
  exact hD.lt

theorem Tab.isMap (h : Tab K w B n ks f) : ∃ es c, w.heap[B]? = some (.map es c) := by
  obtain ⟨D, ⟨es, c, hb, _⟩, _⟩ := h
  exact ⟨es, c, hb⟩

theorem Tab.ne_cell (h : Tab K w B n ks f) {b o : Nat} {v : Value} (hc : w.cell? ⟨b, o, none⟩ = some v) : b ≠ B := by
  intro e
  subst e
  obtain ⟨es, c, hb⟩ := h.isMap
  simp [World.cell?, hb] at hc

theorem Tab.made (K : Kind) (w : World) : Tab K (w.alloc (.map #[] 0)) w.heap.size 0 [] (fun _ => none) :=
  ⟨.map [], World.ownsMap_made w _ _ _, List.nodup_nil, rfl, fun k => by simp, fun k => ⟨rfl, rfl⟩⟩

theorem Tab.block (h : Tab K w B n ks f) (hb : w'.heap[B]? = w.heap[B]?) : Tab K w' B n ks f := by
  obtain ⟨D, ⟨es, clock, h1, h2⟩, hf⟩ := h
  exact ⟨D, ⟨es, clock, hb.trans h1, h2⟩, hf⟩

theorem Tab.kept {X : Nat → Prop} (h : Tab K w B n ks f) (hk : Kept X w w') (hx : ¬ X B) : Tab K w' B n ks f := h.block (hk.block B h.lt hx)
theorem Tab.below (h : Tab K w B n ks f) (hk : Below w.heap.size w w') : Tab K w' B n ks f := h.block (hk.block B h.lt)
theorem Tab.drew (h : Tab K w B n ks f) : Tab K w.drew B n ks f := h
theorem Tab.drewN (h : Tab K w B n ks f) (m : Nat) : Tab K (w.drewN m) B n ks f := h

/-- 'm[k]'. -/
theorem Tab.look (h : Tab K w B n ks f) (hK : K.Ok) {k : Int} (hk : I64 k) : (Instr.lookup K.mt (.map (some B)) (.int .i64 k) false).run Try.prog w = .ok (K.val (f k)) w := by
  obtain ⟨D, hD, _, _, _, hf⟩ := h
  obtain ⟨v, ps, hrun, hv⟩ := hD.lookup law hK.u (hK.zero w) (hK.make none) (key_of hk)
  obtain ⟨b, rfl, hz⟩ := hK.inv v _ hv
  have h1 : D.atKey (kl k) (node none) = node b := congrArg Prod.fst hz
  rw [(hf k).2] at h1
  rw [hrun, node_inj h1]

/-- 'len(m)'. -/
theorem Tab.len (h : Tab K w B n ks f) (hK : K.Ok) (ty : TypeId) : (Builtin.len_ #[K.mt] ty #[.map (some B)]).run Try.prog w = .ok (.int .i64 ks.length) w := by
  obtain ⟨D, hD, _, hs, _⟩ := h
  rw [hD.len hK.u ty, hs]

/-- 'm[k] = v'. -/
theorem Tab.put (h : Tab K w B n ks f) (hK : K.Ok) (hn : n < maxLen) {k : Int} (hk : I64 k) (b : Nat) :
    ∃ w', (Instr.mapUpdate K.mt (.map (some B)) (.int .i64 k) (K.enc b)).run Try.prog w = .ok () w' ∧ Tab K w' B (n + 1) (if k ∈ ks then ks else ks ++ [k]) (fun x => if x = k then some b else f x) ∧ w.grownBy w' (some B) := by
  obtain ⟨D, hD, hnd, hs, hm, hf⟩ := h
  obtain ⟨w', hrun, hown, hg⟩ := hD.update law hK.u hn (key_of hk) (hK.make (some b))
  refine ⟨w', hrun, ⟨_, hown, ?_, ?_, ?_, ?_⟩, hg⟩
  · split
    · exact hnd
    · rename_i hni
      rw [List.nodup_append]
      refine ⟨hnd, by simp, ?_⟩
      intro a ha b hb e
      simp at hb
      subst hb
      subst e
      exact hni ha
  · rw [Maps.size_put (hD.tidy law), (hf k).1, hs]
    by_cases hki : k ∈ ks
    · rw [if_pos hki, if_pos ((hm k).2 hki)]
    · rw [if_neg hki, if_neg (fun h => hki ((hm k).1 h))]
      simp
  · intro x
    by_cases hx : x = k
    · subst hx
      simp only [if_true, Option.isSome_some, true_iff]
      split
      · assumption
      · simp
    · simp only [hx, if_false]
      rw [hm x]
      split
      · exact Iff.rfl
      · simp [hx]
  · intro x
    by_cases hx : x = k
    · subst hx
      simp only [if_true]
      exact ⟨Maps.has_put_same hD.isMap (law.key (key_of hk)) _, Maps.atKey_put_same hD.isMap (law.key (key_of hk)) _ _⟩
    · simp only [hx, if_false]
      rw [Maps.has_put_other (kl_ne hx), Maps.atKey_put_other (kl_ne hx)]
      exact hf x

/-- 'delete(m, k)' of a key that is not there. -/
theorem Tab.del_none (h : Tab K w B n ks f) (hK : K.Ok) {k : Int} (hk : I64 k) (hf0 : f k = none) (ty : TypeId) :
    ∃ w', (Builtin.delete_ #[K.mt, 2] ty #[.map (some B), .int .i64 k]).run Try.prog w = .ok (.tuple #[]) w' ∧ Tab K w' B n ks f ∧ w.grownBy w' (some B) := by
  obtain ⟨D, hD, hnd, hs, hm, hf⟩ := h
  obtain ⟨w', hrun, hown, hg⟩ := hD.drop law hK.u (key_of hk) ty
  rw [Maps.del_of_not_has (by rw [(hf k).1, hf0]; rfl)] at hown
  exact ⟨w', hrun, ⟨D, hown, hnd, hs, hm, hf⟩, hg.grown⟩

end

/-- 'clear(m)': whatever it held. -/
theorem clear_any (K : Kind) {w : World} {B : Nat} {es : Array MapEntry} {c : Nat} (h : w.heap[B]? = some (.map es c)) (mt et : TypeId) (hu : Try.prog.underlying mt = some (.map 2 et)) (ty : TypeId) :
    ∃ w', (Builtin.clear_ #[mt] ty #[.map (some B)]).run Try.prog w = .ok (.tuple #[]) w' ∧ Tab K w' B 0 [] (fun _ => none) ∧ w'.heap[B]? = some (.map #[] c) ∧ w.grownBy w' (some B) := by
  refine ⟨ChangeMaps.setBlock w B (.map #[] c), ?_, ?_, ChangeMaps.heap_setBlock_same h _, ⟨rfl, rfl, rfl, by simp [ChangeMaps.setBlock], fun i _ hi => ChangeMaps.heap_setBlock_other h _ (fun e => hi (by rw [e]))⟩⟩
  · simp [Builtin.clear_, run_underlying hu, MapKept.run_getObj_map h, MapKept.run_setObj_map _ h, Result.andThen, ChangeMaps.setBlock]
  · exact ⟨.map [], ⟨#[], c, ChangeMaps.heap_setBlock_same h _, ⟨by simp, MapKept.stamped_empty c, by simp⟩, Nat.le_refl _, rfl⟩, List.nodup_nil, rfl, fun k => by simp, fun k => ⟨rfl, rfl⟩⟩

end Go.Proofs.Qxb6628246a.Se
