/-
  What Reset's loop keeps; one step of it.
-/
import Derived.Test.Qxb6628246aAdd
namespace Go.Proofs.Qxb6628246a.Se
open Go.RowKit Go.Proofs.Qxb6628246a.Tm

theorem PwAt.weakenC {X Y : Nat → Prop} {w : World} {v : Value} {bs : List Int} (h : PwAt X w v bs) (hxy : ∀ b, b < w.heap.size → ¬ X b → (∃ o u, w.cell? ⟨b, o, none⟩ = some u) → ¬ Y b) : PwAt Y w v bs := by
  obtain ⟨a, len, cap, hv, hl, hr, hm, hc⟩ := h
  refine ⟨a, len, cap, hv, hl, hr, hm, fun h0 => ?_⟩
  obtain ⟨b, off, ha, hlt, hx, hcell⟩ := hc h0
  exact ⟨b, off, ha, hlt, hxy b hlt hx ⟨_, _, hcell 0 h0⟩, hcell⟩

theorem SesAt.weakenC {X Y : Nat → Prop} {w : World} {b o : Nat} {s : Ses} {pv : Value} (h : SesAt X w b o s pv) (hxy : ∀ b, b < w.heap.size → ¬ X b → (∃ o u, w.cell? ⟨b, o, none⟩ = some u) → ¬ Y b) : SesAt Y w b o s pv :=
  ⟨h.lt, hxy b h.lt h.out ⟨_, _, h.id⟩, h.id, h.pw, h.tmo, h.made, h.server, h.exp, h.bytes.weakenC hxy⟩

/-- A session as Reset stores it. -/
def upd (p : Par) (now : Int) (s : Ses) : Ses := { s with tmo := clamp s.made p.lo p.hi, exp := due (now + clamp s.made p.lo p.hi - p.start) p.tick p.past }

/-- What was stored, the newest first: each session with its block. -/
abbrev Es := List (Ses × Nat)

def liveF (es : Es) (x : Int) : Option Nat := (es.find? (fun e => e.1.id == x)).map (·.2)
def innerF (es : Es) (t x : Int) : Option Nat := (es.find? (fun e => e.1.exp == t && e.1.id == x)).map (·.2)
def hasT (es : Es) (t : Int) : Bool := es.any (fun e => e.1.exp == t)
def dueF (es : Es) (ib : Int → Nat) (t : Int) : Option Nat := if hasT es t = true then some (ib t) else none

theorem liveF_cons (s : Ses) (b : Nat) (es : Es) : liveF ((s, b) :: es) = fun x => if x = s.id then some b else liveF es x := by
  funext x
  unfold liveF
  by_cases h : x = s.id
  · subst h; simp
  · rw [if_neg h, List.find?_cons_of_neg (by simpa using fun e : s.id = x => h e.symm)]

theorem innerF_cons (s : Ses) (b : Nat) (es : Es) : innerF ((s, b) :: es) s.exp = fun x => if x = s.id then some b else innerF es s.exp x := by
  funext x
  unfold innerF
  by_cases h : x = s.id
  · subst h; simp
  · rw [if_neg h, List.find?_cons_of_neg (by simpa using fun e : s.id = x => h e.symm)]

theorem innerF_cons_other (s : Ses) (b : Nat) (es : Es) {t : Int} (h : t ≠ s.exp) : innerF ((s, b) :: es) t = innerF es t := by
  funext x
  unfold innerF
  rw [List.find?_cons_of_neg]
  simp
  intro e
  exact absurd e.symm h

theorem innerF_none {es : Es} {t : Int} (h : hasT es t = false) : innerF es t = fun _ => none := by
  funext x
  unfold innerF
  rw [Option.map_eq_none_iff, List.find?_eq_none]
  intro e he hc
  unfold hasT at h
  rw [List.any_eq_false] at h
  have := h e he
  simp at hc this
  exact this hc.1

theorem hasT_cons (s : Ses) (b : Nat) (es : Es) (t : Int) : hasT ((s, b) :: es) t = (s.exp == t || hasT es t) := rfl

theorem dueF_cons (s : Ses) (b : Nat) (es : Es) (ib : Int → Nat) (B : Nat) : dueF ((s, b) :: es) (fun x => if x = s.exp then B else ib x) = fun x => if x = s.exp then some B else dueF es ib x := by
  funext x
  unfold dueF
  rw [hasT_cons]
  by_cases h : x = s.exp
  · subst h; simp
  · have hb : (s.exp == x) = false := by simpa using fun e : s.exp = x => h e.symm
    simp only [if_neg h, hb, Bool.false_or]

/-- The table's four blocks. -/
def TX (Bt L D H b : Nat) : Prop := b = Bt ∨ b = L ∨ b = D ∨ b = H

/-- w0: the world when Reset was called. -/
structure RInv (w0 wr : World) (Bt L D H : Nat) (p : Par) (mu lid : Int) (es : Es) : Prop where
  tab : TabAt wr Bt L D H p mu lid
  live : ∃ ks, Tab ptrK wr L es.length ks (liveF es)
  due : ∃ ks ib, Tab mapK wr D es.length ks (dueF es ib) ∧ ∀ t, hasT es t = true → w0.heap.size ≤ ib t ∧ (∃ ks, Tab ptrK wr (ib t) es.length ks (innerF es t)) ∧ ∀ t', hasT es t' = true → ib t' = ib t → t' = t
  ses : ∀ e ∈ es, w0.heap.size ≤ e.2 ∧ 1 ≤ e.1.exp ∧ ∃ pv, SesAt (TX Bt L D H) wr e.2 0 e.1 pv
  heard : ∃ c, wr.heap[H]? = some (.map #[] c)
  kept : Kept (TX Bt L D H) w0 wr

theorem hasT_true {es : Es} {t : Int} (h : hasT es t = true) : ∃ e ∈ es, e.1.exp = t := by
  unfold hasT at h
  obtain ⟨e, he, hh⟩ := List.any_eq_true.1 h
  exact ⟨e, he, by simpa using hh⟩

theorem due_pos {d k past : Int} (hp : 0 ≤ past) : 1 ≤ due d k past := by
  unfold due
  split <;> omega

theorem RInv.below {w0 wr W : World} {Bt L D H : Nat} {p : Par} {mu lid : Int} {es : Es} (h : RInv w0 wr Bt L D H p mu lid es) (hB : Below wr.heap.size wr W) : RInv w0 W Bt L D H p mu lid es := by
  refine ⟨h.tab.below hB, ?_, ?_, ?_, ?_, h.kept.below hB⟩
  · obtain ⟨ks, hk⟩ := h.live
    exact ⟨ks, hk.below hB⟩
  · obtain ⟨ks, ib, hk, hh⟩ := h.due
    refine ⟨ks, ib, hk.below hB, fun t ht => ?_⟩
    obtain ⟨a, ⟨ks', b⟩, c⟩ := hh t ht
    exact ⟨a, ⟨ks', b.below hB⟩, c⟩
  · intro e he
    obtain ⟨a, b, pv, c⟩ := h.ses e he
    exact ⟨a, b, pv, c.below hB⟩
  · obtain ⟨c, hc⟩ := h.heard
    exact ⟨c, (hB.block H (by have := Array.getElem?_eq_some_iff.1 hc; exact this.1)).trans hc⟩

/-- One round's 'add'. -/
theorem add_step {w0 W : World} {Bt L D H : Nat} {p : Par} {mu lid now : Int} {es : Es} (s : Ses) (pv : Value) (hR : RInv w0 W Bt L D H p mu lid es) (hA : Apart Bt L D H) (hlt : Bt < w0.heap.size ∧ L < w0.heap.size ∧ D < w0.heap.size ∧ H < w0.heap.size)
    (hP : ParOK p now (clamp s.made p.lo p.hi)) (hid : I64 s.id) (hpw : PwAt (TX Bt L D H) W pv s.pw) (hn : es.length < maxLen) :
    Calls Try.prog 24 #[.pointer (some ⟨Bt, 0, none⟩), .pointer (some ⟨W.heap.size, 0, none⟩), time now] (W.alloc (.cells #[.int .i64 s.id, pv, .int .i64 (clamp s.made p.lo p.hi), .int .i64 s.made, .int .i64 s.server, .int .i64 0] 67))
      fun e w' => e = .returned (.pointer (some ⟨W.heap.size, 0, none⟩)) ∧ RInv w0 w' Bt L D H p mu (upId p.server lid s) ((upd p now s, W.heap.size) :: es) ∧ Kept (fun b => TX Bt L D H b ∨ w0.heap.size ≤ b ∧ ∃ es c, W.heap[b]? = some (.map es c)) W w' := by
  obtain ⟨Wa, hWa⟩ : ∃ Wa, Wa = W.alloc (.cells #[.int .i64 s.id, pv, .int .i64 (clamp s.made p.lo p.hi), .int .i64 s.made, .int .i64 s.server, .int .i64 0] 67) := ⟨_, rfl⟩
  have hB : Below W.heap.size W Wa := by rw [hWa]; exact (Below.refl _ _).alloc (Nat.le_refl _) _
  have hz : Wa.heap.size = W.heap.size + 1 := by rw [hWa]; simp
  have a0 : Wa.cell? ⟨W.heap.size, 0, none⟩ = some (.int .i64 s.id) := by rw [hWa]; go_simp
  have a1 : Wa.cell? ⟨W.heap.size, 1, none⟩ = some pv := by rw [hWa]; go_simp
  have a2 : Wa.cell? ⟨W.heap.size, 2, none⟩ = some (.int .i64 (clamp s.made p.lo p.hi)) := by rw [hWa]; go_simp
  have a3 : Wa.cell? ⟨W.heap.size, 3, none⟩ = some (.int .i64 s.made) := by rw [hWa]; go_simp
  have a4 : Wa.cell? ⟨W.heap.size, 4, none⟩ = some (.int .i64 s.server) := by rw [hWa]; go_simp
  have a5 : Wa.cell? ⟨W.heap.size, 5, none⟩ = some (.int .i64 0) := by rw [hWa]; go_simp
  have az : Wa.frozen? ⟨W.heap.size, 5, none⟩ = false := by rw [hWa]; go_simp
  rw [← hWa]
  clear hWa
  have hRa := hR.below hB
  obtain ⟨ksL, hL⟩ := hRa.live
  obtain ⟨ksD, ib, hD, hin⟩ := hRa.due
  obtain ⟨l1, l2, l3, l4⟩ := hlt
  have hw0 := hR.kept.size
  obtain ⟨t, ht⟩ : ∃ t, due (now + clamp s.made p.lo p.hi - p.start) p.tick p.past = t := ⟨_, rfl⟩
  have htp : 1 ≤ t := by rw [← ht]; exact due_pos hP.p0
  have h0 : dueF es ib 0 = none := by
    unfold dueF
    rw [if_neg]
    intro hh
    obtain ⟨e, he, e0⟩ := hasT_true hh
    have := (hR.ses e he).2.1
    omega
  have hsome : ∀ q, dueF es ib t = some q → hasT es t = true ∧ q = ib t := fun q hq => by
    unfold dueF at hq
    split at hq
    · rename_i hh
      injection hq with hq
      exact ⟨hh, hq.symm⟩
    · cases hq
  have hnone : dueF es ib t = none → hasT es t = false := fun hq => by
    unfold dueF at hq
    split at hq
    · cases hq
    · rename_i hh
      simpa using hh
  refine (addT_any (nL := es.length) (nD := es.length) (nI := es.length) (fL := liveF es) (fD := dueF es ib) (fI := innerF es t) W.heap.size s Wa hRa.tab hL hD h0 hP a0 a2 a5 az hid (by omega) (by omega) hA.ld ht ?_ (fun hq => innerF_none (hnone hq)) hn hn hn).mono ?_
  · intro q hq
    obtain ⟨hh, rfl⟩ := hsome q hq
    obtain ⟨b1, b2, _⟩ := hin t hh
    exact ⟨by omega, by omega, b2⟩
  · rintro e w' ⟨rfl, hAd⟩
    refine ⟨rfl, ?_, ?_⟩
    · have hu : upd p now s = ⟨s.id, s.pw, clamp s.made p.lo p.hi, s.made, s.server, t⟩ := by unfold upd; rw [ht]
      have hkp := hAd.kept
      have hX : ∀ b, b < Wa.heap.size → b ≠ W.heap.size → ¬ TX Bt L D H b → (∃ o u, Wa.cell? ⟨b, o, none⟩ = some u) → ¬ (b = Bt ∨ b = L ∨ b = D ∨ b = W.heap.size ∨ dueF es ib t = some b) := by
        rintro b hb hbw hx ⟨o, u, hc⟩ (h | h | h | h | h)
        · exact hx (.inl h)
        · exact hx (.inr (.inl h))
        · exact hx (.inr (.inr (.inl h)))
        · exact hbw h
        · obtain ⟨hh, rfl⟩ := hsome b h
          obtain ⟨_, ⟨ks, b2⟩, _⟩ := hin t hh
          exact b2.ne_cell hc rfl
      rw [hu]
      refine ⟨hAd.tab, ?_, ?_, ?_, ?_, ?_⟩
      · obtain ⟨ks, hk⟩ := hAd.live
        exact ⟨ks, by rw [liveF_cons]; exact hk⟩
      · obtain ⟨ibN, kD, kI, h1, h2, h3⟩ := hAd.due
        have hN0 : w0.heap.size ≤ ibN := by
          rcases h3 with h3 | h3
          · obtain ⟨hh, rfl⟩ := hsome _ h3
            exact (hin t hh).1
          · omega
        have hNi : ∀ t', hasT es t' = true → t' ≠ t → ib t' ≠ ibN := fun t' hh' hne e => by
          obtain ⟨b1, ⟨ks, b2⟩, b3⟩ := hin t' hh'
          rcases h3 with h3 | h3
          · obtain ⟨hh, h4⟩ := hsome _ h3
            rw [h4] at e
            exact hne (b3 t hh e.symm).symm
          · have := b2.lt
            omega
        refine ⟨kD, (fun x => if x = t then ibN else ib x), ?_, fun t' ht' => ?_⟩
        · have := dueF_cons ⟨s.id, s.pw, clamp s.made p.lo p.hi, s.made, s.server, t⟩ W.heap.size es ib ibN
          simp only at this
          rw [this]
          exact h1
        · by_cases e : t' = t
          · subst e
            simp only [if_true]
            refine ⟨hN0, ⟨kI, ?_⟩, fun t'' h'' e'' => ?_⟩
            · have := innerF_cons ⟨s.id, s.pw, clamp s.made p.lo p.hi, s.made, s.server, t'⟩ W.heap.size es
              simp only at this
              rw [this]
              exact h2
            · by_cases e3 : t'' = t'
              · exact e3
              · rw [if_neg e3] at e''
                refine absurd e'' (hNi t'' ?_ e3)
                rw [hasT_cons] at h''
                simp only [Bool.or_eq_true, beq_iff_eq] at h''
                exact h''.elim (fun h => absurd h.symm e3) id
          · simp only [if_neg e]
            have hh' : hasT es t' = true := by
              rw [hasT_cons] at ht'
              simp only [Bool.or_eq_true, beq_iff_eq] at ht'
              exact ht'.elim (fun h => absurd h.symm e) id
            obtain ⟨b1, ⟨ks, b2⟩, b3⟩ := hin t' hh'
            refine ⟨b1, ⟨ks, ?_⟩, fun t'' h'' e'' => ?_⟩
            · rw [innerF_cons_other _ _ _ e]
              refine (b2.kept hkp ?_).mono (Nat.le_succ _)
              rintro (h | h | h | h | h)
              · omega
              · omega
              · omega
              · exact b2.ne_cell a0 h.symm
              · obtain ⟨hh, h4⟩ := hsome _ h
                exact e (b3 t hh h4.symm).symm
            · by_cases e3 : t'' = t
              · rw [if_pos e3] at e''
                exact absurd e''.symm (hNi t' hh' e)
              · rw [if_neg e3] at e''
                refine b3 t'' ?_ e''
                rw [hasT_cons] at h''
                simp only [Bool.or_eq_true, beq_iff_eq] at h''
                exact h''.elim (fun h => absurd h.symm e3) id
      · intro e he
        rcases List.mem_cons.1 he with rfl | he
        · refine ⟨hw0, htp, pv, ?_⟩
          have hlt' : W.heap.size < w'.heap.size := by have := hkp.size; omega
          have hox : ¬ TX Bt L D H W.heap.size := by rintro (h | h | h | h) <;> omega
          refine ⟨hlt', hox, by rw [hAd.rest 0 (by decide)]; exact a0, by rw [hAd.rest 1 (by decide)]; exact a1, by rw [hAd.rest 2 (by decide)]; exact a2, by rw [hAd.rest 3 (by decide)]; exact a3, by rw [hAd.rest 4 (by decide)]; exact a4, hAd.exp, ?_⟩
          obtain ⟨a, len, cap, hv, hl, hr, hm, hc⟩ := hpw
          refine ⟨a, len, cap, hv, hl, hr, hm, fun h0 => ?_⟩
          obtain ⟨b, off, ha, hb, hx, hcell⟩ := hc h0
          have hca : ∀ i, i < len → Wa.cell? ⟨b, off + i, none⟩ = some (.int .u8 (s.pw.getD i 0)) := fun i hi => by rw [hB.cell hb]; exact hcell i hi
          refine ⟨b, off, ha, by omega, hx, fun i hi => ?_⟩
          rw [hkp.cell (by omega) (hX b (by omega) (by omega) hx ⟨_, _, hca 0 h0⟩)]
          exact hca i hi
        · obtain ⟨a, b, pv', c⟩ := hR.ses e he
          refine ⟨a, b, pv', ?_⟩
          have hlt := c.lt
          have c' := c.below hB
          have hcs : ∀ o, w'.cell? ⟨e.2, o, none⟩ = Wa.cell? ⟨e.2, o, none⟩ := fun o => hkp.cell c'.lt (hX e.2 c'.lt (by omega) c.out ⟨_, _, c'.id⟩)
          refine ⟨by have := hkp.size; omega, c.out, by rw [hcs]; exact c'.id, by rw [hcs]; exact c'.pw, by rw [hcs]; exact c'.tmo, by rw [hcs]; exact c'.made, by rw [hcs]; exact c'.server, by rw [hcs]; exact c'.exp, ?_⟩
          obtain ⟨a, len, cap, hv, hl, hr, hm, hc⟩ := c.bytes
          refine ⟨a, len, cap, hv, hl, hr, hm, fun h0 => ?_⟩
          obtain ⟨b, off, ha, hb, hx, hcell⟩ := hc h0
          have hca : ∀ i, i < len → Wa.cell? ⟨b, off + i, none⟩ = some (.int .u8 (e.1.pw.getD i 0)) := fun i hi => by rw [hB.cell hb]; exact hcell i hi
          refine ⟨b, off, ha, by have := hkp.size; omega, hx, fun i hi => ?_⟩
          rw [hkp.cell (by omega) (hX b (by omega) (by omega) hx ⟨_, _, hca 0 h0⟩)]
          exact hca i hi
      · obtain ⟨c, hc⟩ := hRa.heard
        refine ⟨c, (hkp.block H (by omega) ?_).trans hc⟩
        rintro (h | h | h | h | h)
        · exact hA.th h.symm
        · exact hA.lh h.symm
        · exact hA.dh h.symm
        · omega
        · obtain ⟨hh, h4⟩ := hsome _ h
          have := (hin t hh).1
          omega
      · refine ⟨hkp.os.trans hRa.kept.os, hkp.tape.trans hRa.kept.tape, hkp.output.trans hRa.kept.output, Nat.le_trans hRa.kept.size hkp.size, fun k hk hx => ?_⟩
        rw [hkp.block k (by omega) ?_, hRa.kept.block k hk hx]
        rintro (h | h | h | h | h)
        · exact hx (.inl h)
        · exact hx (.inr (.inl h))
        · exact hx (.inr (.inr (.inl h)))
        · omega
        · obtain ⟨hh, h4⟩ := hsome _ h
          have := (hin t hh).1
          omega
    · have hkp := hAd.kept
      refine ⟨hkp.os.trans hB.os, hkp.tape.trans hB.tape, hkp.output.trans hB.output, by have := hkp.size; omega, fun k hk hx => ?_⟩
      rw [hkp.block k (by omega) ?_, hB.block k hk]
      rintro (h | h | h | h | h)
      · exact hx (.inl (.inl h))
      · exact hx (.inl (.inr (.inl h)))
      · exact hx (.inl (.inr (.inr (.inl h))))
      · omega
      · obtain ⟨hh, rfl⟩ := hsome _ h
        obtain ⟨b1, ⟨ks, b2⟩, _⟩ := hin t hh
        obtain ⟨es', c, he'⟩ := b2.isMap
        exact hx (.inr ⟨b1, es', c, by rw [← hB.block _ hk]; exact he'⟩)

end Go.Proofs.Qxb6628246a.Se
