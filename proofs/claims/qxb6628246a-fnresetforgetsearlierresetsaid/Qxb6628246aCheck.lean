/-
  zzCheck, walked.
-/
import Derived.Test.Qxb6628246aCount
import Derived.Lib.Builder
namespace Go.Proofs.Qxb6628246a.Se
open Go.RowKit Go.Proofs.Qxb6628246a.Tm

section
variable {Bt L D H : Nat} {p : Par} {mu lid : Int} (w : World) (h : TabAt w Bt L D H p mu lid)
include h

theorem heardLen_any {c : Nat} (hH : w.heap[H]? = some (.map #[] c)) : Calls Try.prog 26 #[.pointer (some ⟨Bt, 0, none⟩)] w fun e w' => e = .returned (.int .i64 0) ∧ w' = w := by
  have g := h.c13
  have hown : w.ownsMap Try.prog 2 mapK.R H 0 (.map []) := ⟨#[], c, hH, ⟨by simp, MapKept.stamped_empty c, by simp⟩, Nat.le_refl _, rfl⟩
  have hl : (Builtin.len_ #[51] 3 #[.map (some H)]).run Try.prog w = .ok (.int .i64 0) w := hown.len Try.underlying51 3
  go_enter Try.func26, Try.ntmps26
  go_wp2
  go_ret
  exact ⟨rfl, rfl⟩

theorem past_any : Calls Try.prog 27 #[.pointer (some ⟨Bt, 0, none⟩)] w fun e w' => e = .returned (.int .i64 p.past) ∧ w' = w := by
  have g := h.c12
  go_enter Try.func27, Try.ntmps27
  go_wp2
  go_ret
  exact ⟨rfl, rfl⟩

theorem zlastID_any : Calls Try.prog 28 #[.pointer (some ⟨Bt, 0, none⟩)] w fun e w' => e = .returned (.int .i64 lid) ∧ w' = w := by
  have g := h.c9
  go_enter Try.func28, Try.ntmps28
  go_wp2
  go_ret
  exact ⟨rfl, rfl⟩

theorem live_any : Calls Try.prog 29 #[.pointer (some ⟨Bt, 0, none⟩)] w fun e w' => e = .returned (.map (some L)) ∧ w' = w := by
  have g := h.c10
  go_enter Try.func29, Try.ntmps29
  go_wp2
  go_ret
  exact ⟨rfl, rfl⟩

theorem due_any : Calls Try.prog 30 #[.pointer (some ⟨Bt, 0, none⟩)] w fun e w' => e = .returned (.map (some D)) ∧ w' = w := by
  have g := h.c11
  go_enter Try.func30, Try.ntmps30
  go_wp2
  go_ret
  exact ⟨rfl, rfl⟩

end

/-- What zzCheck may lean on. -/
structure Chk (w : World) (Bt L D H : Nat) (p : Par) (now lid : Int) (l : List Ses) (es : Es) (ksL ksD : List Int) (ksI : Int → List Int) (ib : Int → Nat) : Prop where
  tab : TabAt w Bt L D H p 0 lid
  live : Tab ptrK w L es.length ksL (liveF es)
  due : Tab mapK w D es.length ksD (dueF es ib)
  inner : ∀ t, hasT es t = true → Tab ptrK w (ib t) es.length (ksI t) (innerF es t)
  ses : ∀ e ∈ es, ∃ pv, SesAt (fun _ => False) w e.2 0 e.1 pv
  heard : ∃ c, w.heap[H]? = some (.map #[] c)
  list : es.reverse.map (·.1) = l.map (upd p now)

theorem Chk.of {w0 w : World} {Bt L D H : Nat} {p : Par} {now lid : Int} {l : List Ses} {es : Es} (hR : RInv w0 w Bt L D H p 0 lid es) (hl : es.reverse.map (·.1) = l.map (upd p now)) : ∃ ksL ksD ksI ib, Chk w Bt L D H p now lid l es ksL ksD ksI ib := by
  obtain ⟨ksL, hL⟩ := hR.live
  obtain ⟨ksD, ib, hD, hI⟩ := hR.due
  have hc : ∀ t, ∃ ks, hasT es t = true → Tab ptrK w (ib t) es.length ks (innerF es t) := fun t => by
    by_cases ht : hasT es t = true
    · obtain ⟨_, ⟨ks, hk⟩, _⟩ := hI t ht
      exact ⟨ks, fun _ => hk⟩
    · exact ⟨[], fun h => absurd h ht⟩
  refine ⟨ksL, ksD, fun t => Classical.choose (hc t), ib, hR.tab, hL, hD, fun t => Classical.choose_spec (hc t), fun e he => ?_, hR.heard, hl⟩
  obtain ⟨_, _, pv, hs⟩ := hR.ses e he
  exact ⟨pv, hs.weaken (fun _ _ _ h => h)⟩

/-- Does q hold somewhere in places k .. j-1? -/
def anyIn (q : Ses → Bool) (U : List Ses) (k j : Nat) : Bool := ((U.drop k).take (j - k)).any q

theorem anyIn_self (q : Ses → Bool) (U : List Ses) (k : Nat) : anyIn q U k k = false := by simp [anyIn]

theorem anyIn_succ {q : Ses → Bool} {U : List Ses} {k j : Nat} {u : Ses} (hkj : k ≤ j) (hu : U[j]? = some u) : anyIn q U k (j + 1) = (anyIn q U k j || q u) := by
  have h1 : (U.drop k)[j - k]? = some u := by rw [List.getElem?_drop, show k + (j - k) = j by omega]; exact hu
  unfold anyIn
  rw [show j + 1 - k = (j - k) + 1 by omega, List.take_add_one, h1, List.any_append]
  simp

theorem anyIn_end {q : Ses → Bool} {U : List Ses} {k j : Nat} (hj : U.length ≤ j) : anyIn q U k j = (U.drop k).any q := by
  unfold anyIn
  rw [List.take_of_length_le (by rw [List.length_drop]; omega)]

theorem anyIn_take {q : Ses → Bool} {U : List Ses} {k : Nat} : anyIn q U 0 k = (U.take k).reverse.any q := by
  unfold anyIn
  simp

/-- The counts, when k sessions were looked at. -/
structure Cnt (U : List Ses) (ksI : Int → List Int) (k nL nT nP sD : Nat) : Prop where
  live : nL + (ded (·.id) (U.drop k)).length = (ded (·.id) U).length
  pair : nP + (ded (fun s => (s.exp, s.id)) (U.drop k)).length = (ded (fun s => (s.exp, s.id)) U).length
  tick : nT = (ded (·.exp) (U.take k).reverse).length
  sum : sD = ((ded (·.exp) (U.take k).reverse).map (fun t => (ksI t).length)).sum

theorem Cnt.zero (U : List Ses) (ksI : Int → List Int) : Cnt U ksI 0 0 0 0 0 := ⟨by simp, by simp, by simp [ded], by simp [ded]⟩

theorem ded_cons {β : Type} [BEq β] (f : Ses → β) (s : Ses) (r : List Ses) : ded f (s :: r) = if r.any (fun x => f x == f s) = true then ded f r else f s :: ded f r := rfl

theorem Cnt.next {U : List Ses} {ksI : Int → List Int} {k nL nT nP sD : Nat} {u : Ses} (h : Cnt U ksI k nL nT nP sD) (hu : U[k]? = some u) :
    Cnt U ksI (k + 1) (nL + if (U.drop (k + 1)).any (fun x => x.id == u.id) = true then 0 else 1) (nT + if (U.take k).reverse.any (fun x => x.exp == u.exp) = true then 0 else 1)
      (nP + if (U.drop (k + 1)).any (fun x => (x.exp, x.id) == (u.exp, u.id)) = true then 0 else 1) (sD + if (U.take k).reverse.any (fun x => x.exp == u.exp) = true then 0 else (ksI u.exp).length) := by
  obtain ⟨hk, hku⟩ := List.getElem?_eq_some_iff.1 hu
  have hd : U.drop k = u :: U.drop (k + 1) := by rw [← hku]; exact (List.getElem_cons_drop (h := hk)).symm
  have ht : (U.take (k + 1)).reverse = u :: (U.take k).reverse := by rw [List.take_add_one, hu]; simp
  obtain ⟨h1, h2, h3, h4⟩ := h
  rw [hd, ded_cons] at h1 h2
  refine ⟨?_, ?_, ?_, ?_⟩
  · rw [← h1]
    split <;> simp <;> omega
  · rw [← h2]
    split <;> simp <;> omega
  · rw [ht, h3]
    rw [ded_cons]
    split <;> simp
  · rw [ht, h4]
    rw [ded_cons]
    split
    · rfl
    · simp; omega

theorem Cnt.le {U : List Ses} {ksI : Int → List Int} {k nL nT nP sD : Nat} (h : Cnt U ksI k nL nT nP sD) : nL ≤ U.length ∧ nT ≤ U.length ∧ nP ≤ U.length := by
  have h1 := length_ded (f := (·.id)) U
  have h2 := length_ded (f := fun s => (s.exp, s.id)) U
  have h3 := length_ded (f := (·.exp)) (U.take k).reverse
  rw [List.length_reverse, List.length_take] at h3
  obtain ⟨a, b, c, _⟩ := h
  refine ⟨?_, ?_, ?_⟩ <;> omega

theorem info67 : (Try.prog.info? 67).isSome = true := by kernel_rfl

theorem neq_same (w : World) (a : Addr) : (binOp .neq 61 (.pointer (some a)) (.pointer (some a))).run Try.prog w = .ok (.bool false) w := by
  obtain ⟨j, hj⟩ := Option.isSome_iff_exists.1 info67
  exact Lib.run_neq_ptr_same w a Try.underlying61 hj

/-- The k-th session's entry. -/
theorem Chk.entry {w : World} {Bt L D H : Nat} {p : Par} {now lid : Int} {l U : List Ses} {es : Es} {ksL ksD : List Int} {ksI : Int → List Int} {ib : Int → Nat} (hC : Chk w Bt L D H p now lid l es ksL ksD ksI ib) (hU : U = l.map (upd p now)) {k : Nat} {u : Ses} (hu : U[k]? = some u) :
    hasT es u.exp = true ∧ ∃ blk pv, SesAt (fun _ => False) w blk 0 u pv ∧ ((U.drop (k + 1)).any (fun x => x.id == u.id) = false → liveF es u.id = some blk) ∧ ((U.drop (k + 1)).any (fun x => x.exp == u.exp && x.id == u.id) = false → innerF es u.exp u.id = some blk) := by
  have hE : es.reverse.map (·.1) = U := by rw [hU]; exact hC.list
  refine ⟨(has_some hE _).2 ⟨u, List.mem_of_getElem? hu, rfl⟩, ?_⟩
  have hk : (es.reverse.map (·.1))[k]? = some u := by rw [hE]; exact hu
  rw [List.getElem?_map] at hk
  obtain ⟨e, he, hes⟩ := Option.map_eq_some_iff.1 hk
  have hm : e ∈ es := by simpa using List.mem_of_getElem? he
  obtain ⟨pv, hp⟩ := hC.ses e hm
  rw [hes] at hp
  refine ⟨e.2, pv, hp, fun h1 => ?_, fun h1 => ?_⟩
  · obtain ⟨b, _, h3, h4⟩ := find_last hE hu (fun x => x.id == u.id) (by simp) h1
    rw [he] at h3
    injection h3 with h3
    unfold liveF
    rw [h4, h3]
    rfl
  · obtain ⟨b, _, h3, h4⟩ := find_last hE hu (fun x => x.exp == u.exp && x.id == u.id) (by simp) h1
    rw [he] at h3
    injection h3 with h3
    unfold innerF
    rw [h4, h3]
    rfl

set_option maxRecDepth 100000 in
set_option maxHeartbeats 8000000 in
theorem check_any {X : Nat → Prop} {Bt L D H : Nat} {p : Par} {now lid : Int} {es : Es} {ksL ksD : List Int} {ksI : Int → List Int} {ib : Int → Nat} (a a2 : Option Addr) (len cap cap2 : Nat) (l : List Ses) (w : World)
    (hC : Chk w Bt L D H p now lid l es ksL ksD ksI ib) (hS : SAt X w a len l) (hZ : IAt X w a2 len (l.map (fun s => (upd p now s).exp))) (hl4 : len ≤ 4096) (hid : ∀ s ∈ l, I64 s.id) (hz : ∀ s ∈ l, I64 (upd p now s).exp) :
    Calls Try.prog 14 #[.pointer (some ⟨Bt, 0, none⟩), .slice a len cap, .slice a2 len cap2, .int .i64 p.lo, .int .i64 p.hi, .int .i64 p.past, .int .i64 lid] w fun e w' => e = .returned (.bool true) ∧ Below w.heap.size w w' := by
  have c46 := cells46
  have c2 := cells2
  obtain ⟨cH, hH⟩ := hC.heard
  have hT := hC.tab
  have p1 : (p.past != p.past) = false := by simp
  have p2 : (lid != lid) = false := by simp
  go_enter Try.func14, Try.ntmps14
  go_wp2_with (first
    | (go_at_call 26; refine (heardLen_any _ hT hH).mono ?_; rintro e w' ⟨rfl, hw'⟩; subst w')
    | (go_at_call 27; refine (past_any _ hT).mono ?_; rintro e w' ⟨rfl, hw'⟩; subst w')
    | (go_at_call 28; refine (zlastID_any _ hT).mono ?_; rintro e w' ⟨rfl, hw'⟩; subst w')
    | (go_at_call 29; refine (live_any _ hT).mono ?_; rintro e w' ⟨rfl, hw'⟩; subst w')
    | (go_at_call 30; refine (due_any _ hT).mono ?_; rintro e w' ⟨rfl, hw'⟩; subst w'))
  obtain ⟨U, hU⟩ : ∃ U, U = l.map (upd p now) := ⟨_, rfl⟩
  have hUl : U.length = len := by rw [hU, List.length_map]; exact hS.length
  clear hT hH p1 p2
  go_loopw [17, 18, 19, 20, 21] (fun tL tT tP tD ti wr => ∃ nL nT nP sD k : Nat, k ≤ len ∧ nL ≤ 4096 ∧ nT ≤ 4096 ∧ nP ≤ 4096 ∧ sD ≤ 4096 * k ∧ tL = .int .i64 nL ∧ tT = .int .i64 nT ∧ tP = .int .i64 nP ∧ tD = .int .i64 sD ∧ ti = .int .i64 k ∧ Hid (Cnt U ksI k nL nT nP sD) ∧ Hid (Below w.heap.size w wr)) (fun _ _ _ _ ti _ => len - (intOf ti).toNat)
  case atStart => exact ⟨0, 0, 0, 0, 0, Nat.zero_le _, by omega, by omega, by omega, by omega, rfl, rfl, rfl, rfl, rfl, Cnt.zero U ksI, Below.refl _ _⟩
  case round =>
    obtain ⟨nL, nT, nP, sD, k, hk, b1, b2, b3, b4, rfl, rfl, rfl, rfl, rfl, HN, HB⟩ := hrel
    by_cases hkl : (k : Int) < (len : Int)
    · obtain ⟨b, off, rfl, hcs⟩ := hS.cells (by omega)
      obtain ⟨b', off', rfl, hblt, _, hcz⟩ := hZ.cells (by omega)
      have hall : ∀ j, j < len → ∃ s, l[j]? = some s ∧ U[j]? = some (upd p now s) ∧ wr.cell? ⟨b, off + j * 6, none⟩ = some (.int .i64 s.id) ∧ wr.cell? ⟨b', off' + j, none⟩ = some (.int .i64 (upd p now s).exp) := fun j hj => by
        have hjl : j < l.length := by rw [hS.length]; exact hj
        have hj1 : l[j]? = some l[j] := List.getElem?_eq_getElem hjl
        obtain ⟨pv, hp⟩ := hcs j _ hj1
        refine ⟨l[j], hj1, by rw [hU, List.getElem?_map, hj1]; rfl, ?_, ?_⟩
        · rw [HB.out.cell (p := ⟨b, off + j * 6, none⟩) hp.lt]; exact hp.id
        · rw [HB.out.cell (p := ⟨b', off' + j, none⟩) hblt]; exact hcz j _ (by rw [List.getElem?_map, hj1]; rfl)
      obtain ⟨s, hs, hUk, gid, gat⟩ := hall k (by omega)
      obtain ⟨pv, hp⟩ := hcs k s hs
      obtain ⟨pa, pl, pc, rfl, hpw⟩ := hp.bytes
      have hp' := hp.below (HB.out.mono (Nat.le_refl _))
      have gpw := hp'.pw
      have gtm := hp'.tmo
      have gmd := hp'.made
      have gsv := hp'.server
      have gex := hp'.exp
      obtain ⟨t, ht⟩ : ∃ t, (upd p now s).exp = t := ⟨_, rfl⟩
      rw [ht] at gat
      have HAT : Hid (w.cell? ⟨b', off' + k, none⟩ = some (.int .i64 t)) := by
        show _ = _
        rw [← ht]
        exact hcz k _ (by rw [List.getElem?_map, hs]; rfl)
      have HHas : Hid (hasT es t = true) := by
        have := (hC.entry hU hUk).1
        rw [ht] at this
        exact this
      clear hp' hpw hcs hcz
      go_wp2_with (go_at_call 21; refine (clamp_any _ _ _ _).mono ?_; rintro e w' ⟨rfl, hw'⟩; subst w')
      obtain ⟨aI, hI0, hI1, hI2⟩ : ∃ aI : Nat → Bool, aI (k + 1) = false ∧ (∀ j u, k + 1 ≤ j → U[j]? = some u → aI (j + 1) = (aI j || u.id == s.id)) ∧ aI len = (U.drop (k + 1)).any (fun x => x.id == s.id) :=
        ⟨anyIn (fun x => x.id == s.id) U (k + 1), anyIn_self _ _ _, fun j u h1 h2 => anyIn_succ h1 h2, anyIn_end (by omega)⟩
      obtain ⟨aP, hP0, hP1, hP2⟩ : ∃ aP : Nat → Bool, aP (k + 1) = false ∧ (∀ j u, k + 1 ≤ j → U[j]? = some u → aP (j + 1) = (aP j || (u.exp == t && u.id == s.id))) ∧ aP len = (U.drop (k + 1)).any (fun x => x.exp == t && x.id == s.id) :=
        ⟨anyIn (fun x => x.exp == t && x.id == s.id) U (k + 1), anyIn_self _ _ _, fun j u h1 h2 => anyIn_succ h1 h2, anyIn_end (by omega)⟩
      obtain ⟨aF, hF0, hF1, hF2⟩ : ∃ aF : Nat → Bool, aF 0 = false ∧ (∀ j u, U[j]? = some u → aF (j + 1) = (aF j || u.exp == t)) ∧ aF k = (U.take k).reverse.any (fun x => x.exp == t) :=
        ⟨anyIn (fun x => x.exp == t) U 0, anyIn_self _ _ _, fun j u h2 => anyIn_succ (Nat.zero_le _) h2, anyIn_take⟩
      have HI2 : Hid (aI len = (U.drop (k + 1)).any (fun x => x.id == s.id)) := hI2
      have HP2 : Hid (aP len = (U.drop (k + 1)).any (fun x => x.exp == t && x.id == s.id)) := hP2
      have HF2 : Hid (aF k = (U.take k).reverse.any (fun x => x.exp == t)) := hF2
      clear hI2 hP2 hF2
      go_loopw [24, 25, 27] (fun tI tP tj w' => ∃ (j n : Nat) (x y : Bool), k + 1 ≤ j ∧ j ≤ len ∧ tI = .bool x ∧ tP = .bool y ∧ tj = .int .i64 j ∧ w' = wr.drewN n ∧ Hid (x = !aI j ∧ y = !aP j)) (fun _ _ tj _ => len - (intOf tj).toNat)
      case atStart => exact ⟨k + 1, 0, true, true, Nat.le_refl _, by omega, rfl, rfl, by go_num, rfl, by show _ ∧ _; rw [hI0, hP0]; exact ⟨rfl, rfl⟩⟩
      case round =>
        obtain ⟨j, n, x, y, hkj, hjl, rfl, rfl, rfl, rfl, HX⟩ := hrel
        by_cases hjl' : (j : Int) < (len : Int)
        · obtain ⟨sj, hsj, hUj, gjd, gjt⟩ := hall j (by omega)
          have hIs := hI1 j _ hkj hUj
          have hPs := hP1 j _ hkj hUj
          have hide : (upd p now sj).id = sj.id := rfl
          rw [hide] at hIs hPs
          obtain ⟨tj, htj⟩ : ∃ tj, (upd p now sj).exp = tj := ⟨_, rfl⟩
          rw [htj] at gjt hPs
          by_cases hij : sj.id = s.id
          · have hb : (sj.id == s.id) = true := beq_iff_eq.2 hij
            by_cases htt : tj = t
            · have hb2 : (tj == t) = true := beq_iff_eq.2 htt
              have HX' : Hid (false = !aI (j + 1) ∧ false = !aP (j + 1)) := by show _ ∧ _; rw [hIs, hPs, hb, hb2]; simp
              clear hIs hPs hij htt hUj hsj htj hide hall hI1 hP1 hF1
              go_wp2
              go_quiet (fail)
              go_wp2
              refine ⟨⟨j + 1, _, false, false, by omega, by omega, rfl, rfl, by go_num, rfl, HX'⟩, ?_⟩
              simp [intOf]
              omega
            · have hb2 : (tj == t) = false := beq_eq_false_iff_ne.2 htt
              have HX' : Hid (false = !aI (j + 1) ∧ y = !aP (j + 1)) := by show _ ∧ _; rw [hIs, hPs, hb, hb2, HX.out.2]; simp
              clear hIs hPs hij htt hUj hsj htj hide hall hI1 hP1 hF1
              go_wp2
              go_quiet (fail)
              go_wp2
              refine ⟨⟨j + 1, _, false, y, by omega, by omega, rfl, rfl, by go_num, rfl, HX'⟩, ?_⟩
              simp [intOf]
              omega
          · have hb : (sj.id == s.id) = false := beq_eq_false_iff_ne.2 hij
            have HX' : Hid (x = !aI (j + 1) ∧ y = !aP (j + 1)) := by show _ ∧ _; rw [hIs, hPs, hb, HX.out.1, HX.out.2]; simp
            clear hIs hPs hij hUj hsj htj hide hall hI1 hP1 hF1
            go_wp2
            refine ⟨⟨j + 1, n, x, y, by omega, by omega, rfl, rfl, by go_num, rfl, HX'⟩, ?_⟩
            simp [intOf]
            omega
        · obtain rfl : len = j := by omega
          clear hkj hjl hI1 hP1
          go_wp2
          go_loopw [26, 28] (fun tF tj w' => ∃ (j n' : Nat) (z : Bool), j ≤ k ∧ tF = .bool z ∧ tj = .int .i64 j ∧ w' = wr.drewN n' ∧ Hid (z = !aF j)) (fun _ tj _ => k - (intOf tj).toNat)
          case atStart => exact ⟨0, n, true, Nat.zero_le _, rfl, rfl, rfl, by show _ = _; rw [hF0]; rfl⟩
          case round =>
            obtain ⟨j, n', z, hjk, rfl, rfl, rfl, HZ⟩ := hrel
            by_cases hjk' : (j : Int) < (k : Int)
            · obtain ⟨sj, hsj, hUj, gjd, gjt⟩ := hall j (by omega)
              have hFs := hF1 j _ hUj
              obtain ⟨tj, htj⟩ : ∃ tj, (upd p now sj).exp = tj := ⟨_, rfl⟩
              rw [htj] at gjt hFs
              by_cases htt : tj = t
              · have hb2 : (tj == t) = true := beq_iff_eq.2 htt
                have HX' : Hid (false = !aF (j + 1)) := by show _ = _; rw [hFs, hb2]; simp
                clear hFs htt hUj hsj htj hall hF1
                go_wp2
                go_quiet (fail)
                go_wp2
                refine ⟨⟨j + 1, _, false, by omega, rfl, by go_num, rfl, HX'⟩, ?_⟩
                simp [intOf]
                omega
              · have hb2 : (tj == t) = false := beq_eq_false_iff_ne.2 htt
                have HX' : Hid (z = !aF (j + 1)) := by show _ = _; rw [hFs, hb2, HZ.out]; simp
                clear hFs htt hUj hsj htj hall hF1
                go_wp2
                go_quiet (fail)
                go_wp2
                refine ⟨⟨j + 1, _, z, by omega, rfl, by go_num, rfl, HX'⟩, ?_⟩
                simp [intOf]
                omega
            · obtain rfl : k = j := by omega
              clear hjk hF1 hall
              obtain ⟨W, hW⟩ : ∃ W, W = wr.drewN n' := ⟨_, rfl⟩
              have HBW : Hid (Below w.heap.size w W) := by show Below _ _ _; rw [hW]; exact below_drewN HB.out n'
              rw [← hW]
              clear hW HB gid gat gpw gtm gmd gsv gex
              obtain ⟨hT, blk, pv', hSes, hlv, hin⟩ := hC.entry hU hUk
              rw [ht] at hT hin
              have hidu : (upd p now s).id = s.id := rfl
              rw [hidu] at hlv hin
              have hmem : s ∈ l := List.mem_of_getElem? hs
              have hid' := hid s hmem
              have ht64 : I64 t := by have := hz s hmem; rw [ht] at this; exact this
              have HAll : Hid (∀ W', Below w.heap.size w W' → W'.cell? ⟨b, off + k * 6, none⟩ = some (.int .i64 s.id) ∧ W'.cell? ⟨b, off + k * 6 + 1, none⟩ = some (.slice pa pl pc) ∧ W'.cell? ⟨b, off + k * 6 + 2, none⟩ = some (.int .i64 s.tmo) ∧ W'.cell? ⟨b, off + k * 6 + 3, none⟩ = some (.int .i64 s.made) ∧ W'.cell? ⟨b, off + k * 6 + 4, none⟩ = some (.int .i64 s.server) ∧ W'.cell? ⟨b, off + k * 6 + 5, none⟩ = some (.int .i64 s.exp) ∧ W'.cell? ⟨b', off' + k, none⟩ = some (.int .i64 t) ∧ (Instr.lookup 50 (.map (some D)) (.int .i64 t) false).run Try.prog W' = .ok (.map (some (ib t))) W') := by
                intro W' hB
                have hp' := hp.below hB
                refine ⟨hp'.id, hp'.pw, hp'.tmo, hp'.made, hp'.server, hp'.exp, ?_, ?_⟩
                · rw [hB.cell (p := ⟨b', off' + k, none⟩) hblt]; exact HAT.out
                · have hl := (hC.due.below hB).look map_ok ht64
                  rw [show dueF es ib t = some (ib t) from if_pos hT] at hl
                  exact hl
              have HLen : Hid (∀ W', Below w.heap.size w W' → (Builtin.len_ #[49] 3 #[.map (some (ib t))]).run Try.prog W' = .ok (.int .i64 (ksI t).length) W') := fun W' hB => ((hC.inner t hT).below hB).len ptr_ok 3
              have HLive : Hid (∀ W', Below w.heap.size w W' → x = true → (Instr.lookup 49 (.map (some L)) (.int .i64 s.id) false).run Try.prog W' = .ok (.pointer (some ⟨blk, 0, none⟩)) W') := fun W' hB hx => by
                have hl := (hC.live.below hB).look ptr_ok hid'
                rw [hlv (by rw [← HI2.out]; have := HX.out.1; rw [hx] at this; simpa using this.symm)] at hl
                exact hl
              have HInn : Hid (∀ W', Below w.heap.size w W' → y = true → (Instr.lookup 49 (.map (some (ib t))) (.int .i64 s.id) false).run Try.prog W' = .ok (.pointer (some ⟨blk, 0, none⟩)) W') := fun W' hB hy => by
                have hl := ((hC.inner t hT).below hB).look ptr_ok hid'
                rw [hin (by rw [← HP2.out]; have := HX.out.2; rw [hy] at this; simpa using this.symm)] at hl
                exact hl
              have hxy : x = true → y = true := fun hx => by
                have h1 : aI len = false := by have := HX.out.1; rw [hx] at this; simpa using this.symm
                rw [HI2.out, List.any_eq_false] at h1
                have h2 : aP len = false := by
                  rw [HP2.out, List.any_eq_false]
                  intro u hu hh
                  rw [Bool.and_eq_true] at hh
                  exact h1 u hu hh.2
                rw [HX.out.2, h2]
                rfl
              have HSAME : Hid (∀ W', Below w.heap.size w W' → Calls Try.prog 31 #[.pointer (some ⟨blk, 0, none⟩), .agg #[.int .i64 s.id, .slice pa pl pc, .int .i64 s.tmo, .int .i64 s.made, .int .i64 s.server, .int .i64 s.exp], .int .i64 (clamp s.made p.lo p.hi), .int .i64 t] W' fun e w' => e = .returned (.bool true) ∧ Below W'.heap.size W' w') := fun W' hB => same_any blk (upd p now s) s pv' (.slice pa pl pc) _ _ W' (hSes.below hB) ((hp.below hB).bytes) rfl rfl rfl rfl rfl ht
              clear hSes hlv hin hidu hT
              have HCN : Hid (Cnt U ksI (k + 1) (nL + if x = true then 1 else 0) (nT + if z = true then 1 else 0) (nP + if y = true then 1 else 0) (sD + if z = true then (ksI t).length else 0)) := by
                have hn := HN.out.next hUk
                have hidu : (upd p now s).id = s.id := rfl
                rw [ht, hidu] at hn
                have q1 : ∀ m : Nat, (if (U.drop (k + 1)).any (fun x => x.id == s.id) = true then 0 else m) = if x = true then m else 0 := fun m => by
                  rw [← HI2.out, HX.out.1]; cases aI len <;> rfl
                have q2 : ∀ m : Nat, (if (U.drop (k + 1)).any (fun x => (x.exp, x.id) == (t, s.id)) = true then 0 else m) = if y = true then m else 0 := fun m => by
                  have : (U.drop (k + 1)).any (fun x => (x.exp, x.id) == (t, s.id)) = aP len := HP2.out.symm
                  rw [this, HX.out.2]; cases aP len <;> rfl
                have q3 : ∀ m : Nat, (if (U.take k).reverse.any (fun x => x.exp == t) = true then 0 else m) = if z = true then m else 0 := fun m => by
                  rw [← HF2.out, HZ.out]; cases aF k <;> rfl
                rw [q1, q2, q3, q3] at hn
                exact hn
              have hkI : (ksI t).length ≤ 4096 := by
                have := inner_len (U := U) (by rw [hU]; exact hC.list) (hC.inner t HHas.out).keys.1 (hC.inner t HHas.out).keys.2
                omega
              clear HX HZ HI2 HP2 HF2 HN hI0 hP0 hF0 hUk hs hmem hU ht HAT HHas
              cases x
              · clear hxy
                cases y
                · cases z
                  · have hcn : Cnt U ksI (k + 1) (nL) (nT) (nP) (sD) := by have := HCN.out; simpa using this
                    have hle := hcn.le
                    have HCN' : Hid (Cnt U ksI (k + 1) (nL) (nT) (nP) (sD)) := hcn
                    rw [hUl] at hle
                    obtain ⟨hle1, hle2, hle3⟩ := hle
                    clear hcn HCN HSAME HAll HInn HLive HLen
                    go_wp2
                    refine ⟨⟨nL, nT, nP, sD, k + 1, by omega, by omega, by omega, by omega, by omega, by go_num, by go_num, by go_num, by go_num, by go_num, HCN', HBW.out⟩, ?_⟩
                    simp [intOf]
                    omega
                  · obtain ⟨_, _, _, _, _, _, r6, r7⟩ := HAll.out W (HBW.out)
                    have hlen := HLen.out W (HBW.out)
                    have hcn : Cnt U ksI (k + 1) (nL) (nT + 1) (nP) (sD + (ksI t).length) := by have := HCN.out; simpa using this
                    have hle := hcn.le
                    have HCN' : Hid (Cnt U ksI (k + 1) (nL) (nT + 1) (nP) (sD + (ksI t).length)) := hcn
                    rw [hUl] at hle
                    obtain ⟨hle1, hle2, hle3⟩ := hle
                    clear hcn HCN HSAME HAll HInn HLive HLen
                    go_wp2
                    refine ⟨⟨nL, nT + 1, nP, sD + (ksI t).length, k + 1, by omega, by omega, by omega, by omega, by omega, by go_num, by go_num, by go_num, by go_num, by go_num, HCN', HBW.out⟩, ?_⟩
                    simp [intOf]
                    omega
                · have HBD : Below w.heap.size w W.drew := (HBW.out).drew
                  obtain ⟨r0, r1, r2, r3, r4, r5, r6, r7⟩ := HAll.out W (HBW.out)
                  obtain ⟨v0, v1, v2, v3, v4, v5, v6, v7⟩ := HAll.out W.drew HBD
                  have inn := HInn.out W (HBW.out) rfl
                  have innD := HInn.out W.drew HBD rfl
                  go_wp2_with fail
                  go_region_held3 (fun w' => w'.cell? ⟨b, off + k * 6, none⟩ = some (.int .i64 s.id) ∧ w'.cell? ⟨b, off + k * 6 + 1, none⟩ = some (.slice pa pl pc) ∧ w'.cell? ⟨b, off + k * 6 + 2, none⟩ = some (.int .i64 s.tmo) ∧ w'.cell? ⟨b, off + k * 6 + 3, none⟩ = some (.int .i64 s.made) ∧ w'.cell? ⟨b, off + k * 6 + 4, none⟩ = some (.int .i64 s.server) ∧ w'.cell? ⟨b, off + k * 6 + 5, none⟩ = some (.int .i64 s.exp) ∧ w'.cell? ⟨b', off' + k, none⟩ = some (.int .i64 t) ∧ (Instr.lookup 50 (.map (some D)) (.int .i64 t) false).run Try.prog w' = .ok (.map (some (ib t))) w' ∧ (Instr.lookup 49 (.map (some (ib t))) (.int .i64 s.id) false).run Try.prog w' = .ok (.pointer (some ⟨blk, 0, none⟩)) w')
                    (go_keep)
                    (first
                      | (go_at_call 31; refine (HSAME.out W.drew HBD).mono ?_; rintro e w2 ⟨rfl, hB1⟩; have hB2' := HBD.trans (hB1.mono (HBW.out).size); obtain ⟨t0, t1, t2, t3, t4, t5, t6, t7⟩ := HAll.out w2 hB2'; have t8 := HInn.out w2 hB2' (by trivial)))
                  clear t0 t1 t2 t3 t4 t5 t6 t7 t8 r0 r1 r2 r3 r4 r5 r6 r7 v0 v1 v2 v3 v4 v5 v6 v7 inn innD
                  cases z
                  · have hcn : Cnt U ksI (k + 1) (nL) (nT) (nP + 1) (sD) := by have := HCN.out; simpa using this
                    have hle := hcn.le
                    have HCN' : Hid (Cnt U ksI (k + 1) (nL) (nT) (nP + 1) (sD)) := hcn
                    rw [hUl] at hle
                    obtain ⟨hle1, hle2, hle3⟩ := hle
                    clear hcn HCN HSAME HAll HInn HLive HLen
                    go_wp2
                    refine ⟨⟨nL, nT, nP + 1, sD, k + 1, by omega, by omega, by omega, by omega, by omega, by go_num, by go_num, by go_num, by go_num, by go_num, HCN', hB2'⟩, ?_⟩
                    simp [intOf]
                    omega
                  · obtain ⟨_, _, _, _, _, _, r6, r7⟩ := HAll.out w2 (hB2')
                    have hlen := HLen.out w2 (hB2')
                    have hcn : Cnt U ksI (k + 1) (nL) (nT + 1) (nP + 1) (sD + (ksI t).length) := by have := HCN.out; simpa using this
                    have hle := hcn.le
                    have HCN' : Hid (Cnt U ksI (k + 1) (nL) (nT + 1) (nP + 1) (sD + (ksI t).length)) := hcn
                    rw [hUl] at hle
                    obtain ⟨hle1, hle2, hle3⟩ := hle
                    clear hcn HCN HSAME HAll HInn HLive HLen
                    go_wp2
                    refine ⟨⟨nL, nT + 1, nP + 1, sD + (ksI t).length, k + 1, by omega, by omega, by omega, by omega, by omega, by go_num, by go_num, by go_num, by go_num, by go_num, HCN', hB2'⟩, ?_⟩
                    simp [intOf]
                    omega
              · obtain rfl := hxy rfl
                have HBD : Below w.heap.size w W.drew := HBW.out.drew
                have lv := HLive.out W HBW.out rfl
                obtain ⟨r0, r1, r2, r3, r4, r5, r6, r7⟩ := HAll.out W HBW.out
                obtain ⟨v0, v1, v2, v3, v4, v5, v6, v7⟩ := HAll.out W.drew HBD
                have inn := HInn.out W HBW.out rfl
                have innD := HInn.out W.drew HBD rfl
                have hneq : ∀ w' : World, (binOp .neq 61 (.pointer (some ⟨blk, 0, none⟩)) (.pointer (some ⟨blk, 0, none⟩))).run Try.prog w' = .ok (.bool false) w' := fun w' => neq_same w' _
                go_wp2_with fail
                go_region_held3 (fun w' => w'.cell? ⟨b, off + k * 6, none⟩ = some (.int .i64 s.id) ∧ w'.cell? ⟨b, off + k * 6 + 1, none⟩ = some (.slice pa pl pc) ∧ w'.cell? ⟨b, off + k * 6 + 2, none⟩ = some (.int .i64 s.tmo) ∧ w'.cell? ⟨b, off + k * 6 + 3, none⟩ = some (.int .i64 s.made) ∧ w'.cell? ⟨b, off + k * 6 + 4, none⟩ = some (.int .i64 s.server) ∧ w'.cell? ⟨b, off + k * 6 + 5, none⟩ = some (.int .i64 s.exp) ∧ w'.cell? ⟨b', off' + k, none⟩ = some (.int .i64 t) ∧ (Instr.lookup 50 (.map (some D)) (.int .i64 t) false).run Try.prog w' = .ok (.map (some (ib t))) w' ∧ (Instr.lookup 49 (.map (some (ib t))) (.int .i64 s.id) false).run Try.prog w' = .ok (.pointer (some ⟨blk, 0, none⟩)) w')
                  (go_keep)
                  (first
                    | (go_at_call 31; refine (HSAME.out W.drew HBD).mono ?_; rintro e w1 ⟨rfl, hB1⟩; have hB1' := HBD.trans (hB1.mono HBW.out.size); obtain ⟨t0, t1, t2, t3, t4, t5, t6, t7⟩ := HAll.out w1 hB1'; have t8 := HInn.out w1 hB1' (by trivial)))
                clear t0 t1 t2 t3 t4 t5 t6 t7 t8 r0 r1 r2 r3 r4 r5 r6 r7 v0 v1 v2 v3 v4 v5 v6 v7 inn innD lv
                clear hB1 HBD HBW
                have HBD : Below w.heap.size w w1.drew := (hB1').drew
                obtain ⟨r0, r1, r2, r3, r4, r5, r6, r7⟩ := HAll.out w1 (hB1')
                obtain ⟨v0, v1, v2, v3, v4, v5, v6, v7⟩ := HAll.out w1.drew HBD
                have inn := HInn.out w1 (hB1') (by trivial)
                have innD := HInn.out w1.drew HBD (by trivial)
                go_wp2_with fail
                go_region_held3 (fun w' => w'.cell? ⟨b, off + k * 6, none⟩ = some (.int .i64 s.id) ∧ w'.cell? ⟨b, off + k * 6 + 1, none⟩ = some (.slice pa pl pc) ∧ w'.cell? ⟨b, off + k * 6 + 2, none⟩ = some (.int .i64 s.tmo) ∧ w'.cell? ⟨b, off + k * 6 + 3, none⟩ = some (.int .i64 s.made) ∧ w'.cell? ⟨b, off + k * 6 + 4, none⟩ = some (.int .i64 s.server) ∧ w'.cell? ⟨b, off + k * 6 + 5, none⟩ = some (.int .i64 s.exp) ∧ w'.cell? ⟨b', off' + k, none⟩ = some (.int .i64 t) ∧ (Instr.lookup 50 (.map (some D)) (.int .i64 t) false).run Try.prog w' = .ok (.map (some (ib t))) w' ∧ (Instr.lookup 49 (.map (some (ib t))) (.int .i64 s.id) false).run Try.prog w' = .ok (.pointer (some ⟨blk, 0, none⟩)) w')
                  (go_keep)
                  (first
                    | (go_at_call 31; refine (HSAME.out w1.drew HBD).mono ?_; rintro e w2 ⟨rfl, hB1⟩; have hB2' := HBD.trans (hB1.mono (hB1').size); obtain ⟨t0, t1, t2, t3, t4, t5, t6, t7⟩ := HAll.out w2 hB2'; have t8 := HInn.out w2 hB2' (by trivial)))
                clear t0 t1 t2 t3 t4 t5 t6 t7 t8 r0 r1 r2 r3 r4 r5 r6 r7 v0 v1 v2 v3 v4 v5 v6 v7 inn innD
                cases z
                · have hcn : Cnt U ksI (k + 1) (nL + 1) (nT) (nP + 1) (sD) := by have := HCN.out; simpa using this
                  have hle := hcn.le
                  have HCN' : Hid (Cnt U ksI (k + 1) (nL + 1) (nT) (nP + 1) (sD)) := hcn
                  rw [hUl] at hle
                  obtain ⟨hle1, hle2, hle3⟩ := hle
                  clear hcn HCN HSAME HAll HInn HLive HLen
                  go_wp2
                  refine ⟨⟨nL + 1, nT, nP + 1, sD, k + 1, by omega, by omega, by omega, by omega, by omega, by go_num, by go_num, by go_num, by go_num, by go_num, HCN', hB2'⟩, ?_⟩
                  simp [intOf]
                  omega
                · obtain ⟨_, _, _, _, _, _, r6, r7⟩ := HAll.out w2 (hB2')
                  have hlen := HLen.out w2 (hB2')
                  have hcn : Cnt U ksI (k + 1) (nL + 1) (nT + 1) (nP + 1) (sD + (ksI t).length) := by have := HCN.out; simpa using this
                  have hle := hcn.le
                  have HCN' : Hid (Cnt U ksI (k + 1) (nL + 1) (nT + 1) (nP + 1) (sD + (ksI t).length)) := hcn
                  rw [hUl] at hle
                  obtain ⟨hle1, hle2, hle3⟩ := hle
                  clear hcn HCN HSAME HAll HInn HLive HLen
                  go_wp2
                  refine ⟨⟨nL + 1, nT + 1, nP + 1, sD + (ksI t).length, k + 1, by omega, by omega, by omega, by omega, by omega, by go_num, by go_num, by go_num, by go_num, by go_num, HCN', hB2'⟩, ?_⟩
                  simp [intOf]
                  omega
    · obtain rfl : len = k := by omega
      have hcn := HN.out
      have hE : es.reverse.map (·.1) = U := by rw [hU]; exact hC.list
      have hd0 : U.drop len = [] := List.drop_eq_nil_of_le (by omega)
      have ht0 : U.take len = U := List.take_of_length_le (by omega)
      obtain ⟨h1, h2, h3, h4⟩ := hcn
      rw [hd0] at h1 h2
      rw [ht0] at h3 h4
      have q1 := live_count hE hC.live.keys.1 hC.live.keys.2
      have q2 := tick_count hE hC.due.keys.1 hC.due.keys.2
      have q3 := pair_count (ks := ksI) hE (fun t ht => (hC.inner t ht).keys)
      have hb1 : ((ksL.length : Int) == (nL : Int)) = true := by
        rw [q1, ← h1]; simp [ded]
      have hb2 : ((ksD.length : Int) == (nT : Int)) = true := by
        rw [q2, ← h3]; simp
      have hb3 : ((sD : Int) == (nP : Int)) = true := by
        rw [h4, q3, ← h2]; simp [ded]
      have hlL : (Builtin.len_ #[49] 3 #[.map (some L)]).run Try.prog wr = .ok (.int .i64 ksL.length) wr := (hC.live.below HB.out).len ptr_ok 3
      have hlD : (Builtin.len_ #[50] 3 #[.map (some D)]).run Try.prog wr = .ok (.int .i64 ksD.length) wr := (hC.due.below HB.out).len map_ok 3
      clear h1 h2 h3 h4 q1 q2 q3 hd0 ht0 hE hU HN
      go_wp2
      go_ret
      exact ⟨ret_bool (by simp), HB.out⟩

end Go.Proofs.Qxb6628246a.Se
