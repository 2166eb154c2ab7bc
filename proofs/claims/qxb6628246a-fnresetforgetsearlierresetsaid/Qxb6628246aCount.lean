/-
  The plain law: what zzCheck counts is what the table holds. No Go in sight but for the maps' keys.
-/
import Derived.Test.Qxb6628246aReset
namespace Go.Proofs.Qxb6628246a.Se
open Go.RowKit Go.Proofs.Qxb6628246a.Tm

/-- f's values along the list, each once: at the last place where it stands. -/
def ded {β : Type} [BEq β] (f : Ses → β) : List Ses → List β
  | [] => []
  | s :: r => if r.any (fun x => f x == f s) = true then ded f r else f s :: ded f r

section
variable {β : Type} [BEq β] [LawfulBEq β] {f : Ses → β}

theorem mem_ded {l : List Ses} {x : β} : x ∈ ded f l ↔ ∃ s ∈ l, f s = x := by
  induction l with
  | nil => simp [ded]
  | cons s r ih =>
    unfold ded
    split
    · rename_i h
      rw [ih]
      refine ⟨fun ⟨s', h1, h2⟩ => ⟨s', List.mem_cons_of_mem _ h1, h2⟩, fun ⟨s', h1, h2⟩ => ?_⟩
      rcases List.mem_cons.1 h1 with rfl | h1
      · obtain ⟨y, hy, e⟩ := List.any_eq_true.1 h
        exact ⟨y, hy, by rw [← h2]; exact eq_of_beq e⟩
      · exact ⟨s', h1, h2⟩
    · rw [List.mem_cons, ih]
      refine ⟨fun h => ?_, fun ⟨s', h1, h2⟩ => ?_⟩
      · rcases h with rfl | ⟨s', h1, h2⟩
        · exact ⟨s, List.mem_cons_self, rfl⟩
        · exact ⟨s', List.mem_cons_of_mem _ h1, h2⟩
      · rcases List.mem_cons.1 h1 with rfl | h1
        · exact .inl h2.symm
        · exact .inr ⟨s', h1, h2⟩

theorem nodup_ded (l : List Ses) : (ded f l).Nodup := by
  induction l with
  | nil => simp [ded]
  | cons s r ih =>
    unfold ded
    split
    · exact ih
    · rename_i h
      rw [List.nodup_cons]
      refine ⟨fun hm => h ?_, ih⟩
      obtain ⟨y, hy, e⟩ := mem_ded.1 hm
      exact List.any_eq_true.2 ⟨y, hy, by rw [e]; exact beq_self_eq_true _⟩

omit [LawfulBEq β] in
theorem length_ded (l : List Ses) : (ded f l).length ≤ l.length := by
  induction l with
  | nil => simp [ded]
  | cons s r ih =>
    unfold ded
    split
    · rw [List.length_cons]; omega
    · rw [List.length_cons, List.length_cons]; omega

end

theorem len_eq {α : Type} {a b : List α} (ha : a.Nodup) (hb : b.Nodup) (h : ∀ x, x ∈ a ↔ x ∈ b) : a.length = b.length := ((List.perm_ext_iff_of_nodup ha hb).2 h).length_eq

theorem Tab.keys {K : Kind} {w : World} {B n : Nat} {ks : List Int} {f : Int → Option Nat} (h : Tab K w B n ks f) : ks.Nodup ∧ ∀ k, (f k).isSome = true ↔ k ∈ ks := by
  obtain ⟨D, _, h1, _, h2, _⟩ := h
  exact ⟨h1, h2⟩

section
variable {es : Es} {U : List Ses} (hE : es.reverse.map (·.1) = U)
include hE

theorem mem_es {s : Ses} : (∃ e ∈ es, e.1 = s) ↔ s ∈ U := by
  subst hE
  simp

theorem live_some (x : Int) : (liveF es x).isSome = true ↔ ∃ s ∈ U, s.id = x := by
  unfold liveF
  rw [Option.isSome_map, List.find?_isSome]
  constructor
  · rintro ⟨e, he, hx⟩
    exact ⟨e.1, (mem_es hE).1 ⟨e, he, rfl⟩, by simpa using hx⟩
  · rintro ⟨s, hs, hx⟩
    obtain ⟨e, he, rfl⟩ := (mem_es hE).2 hs
    exact ⟨e, he, by simpa using hx⟩

theorem inner_some (t x : Int) : (innerF es t x).isSome = true ↔ ∃ s ∈ U, s.exp = t ∧ s.id = x := by
  unfold innerF
  rw [Option.isSome_map, List.find?_isSome]
  constructor
  · rintro ⟨e, he, hx⟩
    exact ⟨e.1, (mem_es hE).1 ⟨e, he, rfl⟩, by simpa using hx⟩
  · rintro ⟨s, hs, hx⟩
    obtain ⟨e, he, rfl⟩ := (mem_es hE).2 hs
    exact ⟨e, he, by simpa using hx⟩

theorem has_some (t : Int) : hasT es t = true ↔ ∃ s ∈ U, s.exp = t := by
  unfold hasT
  rw [List.any_eq_true]
  constructor
  · rintro ⟨e, he, hx⟩
    exact ⟨e.1, (mem_es hE).1 ⟨e, he, rfl⟩, by simpa using hx⟩
  · rintro ⟨s, hs, hx⟩
    obtain ⟨e, he, rfl⟩ := (mem_es hE).2 hs
    exact ⟨e, he, by simpa using hx⟩

theorem due_some (ib : Int → Nat) (t : Int) : (dueF es ib t).isSome = true ↔ ∃ s ∈ U, s.exp = t := by
  rw [← has_some hE]
  unfold dueF
  split <;> simp_all

theorem live_count {ks : List Int} (hn : ks.Nodup) (hk : ∀ x, (liveF es x).isSome = true ↔ x ∈ ks) : ks.length = (ded (·.id) U).length :=
  len_eq hn (nodup_ded U) fun x => by rw [← hk, live_some hE, mem_ded]

theorem tick_count {ib : Int → Nat} {ks : List Int} (hn : ks.Nodup) (hk : ∀ x, (dueF es ib x).isSome = true ↔ x ∈ ks) : ks.length = (ded (·.exp) U.reverse).length :=
  len_eq hn (nodup_ded U.reverse) fun x => by rw [← hk, due_some hE, mem_ded]; simp

theorem pair_count {ks : Int → List Int} (hn : ∀ t, hasT es t = true → (ks t).Nodup ∧ ∀ x, (innerF es t x).isSome = true ↔ x ∈ ks t) :
    ((ded (·.exp) U.reverse).map (fun t => (ks t).length)).sum = (ded (fun s => (s.exp, s.id)) U).length := by
  have hmem : ∀ t ∈ ded (·.exp) U.reverse, hasT es t = true := fun t ht => by
    rw [mem_ded] at ht
    obtain ⟨s, hs, e⟩ := ht
    exact (has_some hE t).2 ⟨s, by simpa using hs, e⟩
  have h1 : ((ded (·.exp) U.reverse).map (fun t => (ks t).length)).sum = ((ded (·.exp) U.reverse).flatMap (fun t => (ks t).map (fun x => (t, x)))).length := by
    rw [List.length_flatMap]
    simp
  rw [h1]
  refine len_eq ?_ (nodup_ded U) fun ⟨t, x⟩ => ?_
  · rw [List.Nodup, List.pairwise_flatMap]
    refine ⟨fun t ht => ?_, ?_⟩
    · rw [List.pairwise_map]
      exact ((hn t (hmem t ht)).1).imp (fun h e => h (by injection e))
    · refine (nodup_ded U.reverse).imp (fun {a b} h => ?_)
      intro x hx y hy e
      simp only [List.mem_map] at hx hy
      obtain ⟨_, _, rfl⟩ := hx
      obtain ⟨_, _, rfl⟩ := hy
      injection e with e1 e2
      exact h e1
  · rw [List.mem_flatMap, mem_ded]
    constructor
    · rintro ⟨t', ht', hx⟩
      simp only [List.mem_map] at hx
      obtain ⟨x', hx', e⟩ := hx
      injection e with e1 e2
      subst e1 e2
      obtain ⟨s, hs, e3, e4⟩ := (inner_some hE t' x').1 (((hn t' (hmem t' ht')).2 x').2 hx')
      exact ⟨s, hs, by rw [e3, e4]⟩
    · rintro ⟨s, hs, e⟩
      injection e with e1 e2
      have ht : t ∈ ded (·.exp) U.reverse := mem_ded.2 ⟨s, by simpa using hs, e1⟩
      refine ⟨t, ht, ?_⟩
      simp only [List.mem_map]
      exact ⟨x, ((hn t (hmem t ht)).2 x).1 ((inner_some hE t x).2 ⟨s, hs, e1, e2⟩), rfl⟩

theorem inner_len {t : Int} {ks : List Int} (hn : ks.Nodup) (hk : ∀ x, (innerF es t x).isSome = true ↔ x ∈ ks) : ks.length ≤ U.length := by
  have := hn.length_le_of_subset (l₂ := U.map (·.id)) (fun x hx => by
    obtain ⟨s, hs, _, e⟩ := (inner_some hE t x).1 ((hk x).2 hx)
    exact List.mem_map.2 ⟨s, hs, e⟩)
  simpa using this

/-- The newest entry that fits is the last in the list. -/
theorem find_last {k : Nat} {s : Ses} (hs : U[k]? = some s) (q : Ses → Bool) (hq : q s = true) (hno : (U.drop (k + 1)).any q = false) : ∃ b, (s, b) ∈ es ∧ es.reverse[k]? = some (s, b) ∧ es.find? (fun e => q e.1) = some (s, b) := by
  subst hE
  rw [List.getElem?_map] at hs
  obtain ⟨e, he, rfl⟩ := Option.map_eq_some_iff.1 hs
  have hm : e ∈ es := by simpa using List.mem_of_getElem? he
  refine ⟨e.2, hm, he, ?_⟩
  obtain ⟨hk, hke⟩ := List.getElem?_eq_some_iff.1 he
  have hsplit : es = (es.reverse.drop (k + 1)).reverse ++ e :: (es.reverse.take k).reverse := by
    have h1 : es.reverse = es.reverse.take k ++ e :: es.reverse.drop (k + 1) := by
      rw [← hke, List.getElem_cons_drop]
      exact (List.take_append_drop k _).symm
    have h2 := congrArg List.reverse h1
    rw [List.reverse_reverse] at h2
    rw [List.reverse_append, List.reverse_cons, List.append_assoc] at h2
    exact h2
  rw [hsplit, List.find?_append, List.find?_eq_none.2, Option.none_or]
  · exact List.find?_cons_of_pos (p := fun e : Ses × Nat => q e.1) hq
  intro x hx
  rw [List.mem_reverse] at hx
  rw [← List.map_drop, List.any_map, List.any_eq_false] at hno
  have := hno x hx
  simpa using this

end

end Go.Proofs.Qxb6628246a.Se
