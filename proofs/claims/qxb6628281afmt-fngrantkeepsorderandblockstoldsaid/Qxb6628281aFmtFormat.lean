/-
  (time.Duration).format, walked way by way: it returns a place in the buffer, and writes nothing but the buffer.
-/
import Derived.Test.Qxb6628281aFmtDigits
import Derived.Lib.LazyBuf
namespace Go.Proofs.Qxb6628281aFmt.Du
open Go.RowKit
set_option linter.unusedVariables false

theorem size5 (w : World) : (Go.sizeOf 5).run Tryf.prog w = .ok 1 w := by kernel_rfl

set_option maxHeartbeats 2000000 in
theorem format_pos_zero (B : Nat) (u : Int) (w : World) (hB : Buf w B) (hu0 : 0 ≤ u) (hu1 : u ≤ 9223372036854775807) (hv : u = 0) :
    Calls Tryf.prog 14 #[.int .i64 u, .pointer (some ⟨B, 0, none⟩)] w fun e w' => ∃ n : Nat, n ≤ 32 ∧ e = .returned (.int .i64 n) ∧ Wrote B w w' ∧ Buf w' B := by
  have c5 := cells5
  have hw0 : IntKind.u64.wrap u = u := by rw [IntKind.wrap_u64]; omega
  obtain ⟨⟨c31, c310, c311, hc31⟩, hf31⟩ := hB 31 (by omega)
  obtain ⟨⟨c30, c300, c301, hc30⟩, hf30⟩ := hB 30 (by omega)
  go_enter Tryf.func14, Tryf.ntmps14
  go_wp2
  go_ret
  exact ⟨30, by omega, rfl, ((Wrote.refl _ _).set _ _).set _ _, (hB.set _ _ (by omega) (by omega)).set _ _ (by omega) (by omega)⟩

set_option maxHeartbeats 2000000 in
theorem format_pos_nano (B : Nat) (u : Int) (w : World) (hB : Buf w B) (hu0 : 0 ≤ u) (hu1 : u ≤ 9223372036854775807) (hv : 0 < u) (hv2 : u < 1000) :
    Calls Tryf.prog 14 #[.int .i64 u, .pointer (some ⟨B, 0, none⟩)] w fun e w' => ∃ n : Nat, n ≤ 32 ∧ e = .returned (.int .i64 n) ∧ Wrote B w w' ∧ Buf w' B := by
  have c5 := cells5
  have hw0 : IntKind.u64.wrap u = u := by rw [IntKind.wrap_u64]; omega
  obtain ⟨⟨c31, c310, c311, hc31⟩, hf31⟩ := hB 31 (by omega)
  obtain ⟨⟨c30, c300, c301, hc30⟩, hf30⟩ := hB 30 (by omega)
  go_enter Tryf.func14, Tryf.ntmps14
  go_wp2_with fail
  refine (fmtFrac_any B 30 32 0 u _ ((hB.set _ _ (by omega) (by omega)).set _ _ (by omega) (by omega)) hu0 (by omega) (by omega) (by omega) (by omega)).mono ?_
  rintro e w1 ⟨n1, rfl, hn1, hn1', hW1, hB1⟩
  have hW1 := (((Wrote.refl _ _).set _ _).set _ _).trans hW1
  have hq : u / 10 ^ 0 = u / 1 := rfl
  rw [hq]
  have hq1 : u / 1 < 10 ^ 3 := by show _ < (1000 : Int); omega
  have hq0 : 0 ≤ u / 1 := by omega
  have hqu : u / 1 ≤ 18446744073709551615 := by omega
  clear hq
  generalize u / 1 = q at hq1 hq0 hqu
  have HQ : Hid (q < 10 ^ 3) := hq1
  clear hq1
  have hn1i : (n1 : Int) ≤ 32 := by omega
  go_wp2_with fail
  refine (fmtInt_any B n1 32 3 q _ hB1 hq0 HQ.out hqu (by omega) (by omega) (by omega)).mono ?_
  rintro e w2 ⟨n2, rfl, hn2, hn2', hW2, hB2⟩
  have hW2 := hW1.trans hW2
  clear hW1 hB1
  go_wp2
  go_ret
  exact ⟨n2, by omega, rfl, hW2, hB2⟩

set_option maxHeartbeats 2000000 in
theorem format_pos_micro (B : Nat) (u : Int) (w : World) (hB : Buf w B) (hu0 : 0 ≤ u) (hu1 : u ≤ 9223372036854775807) (hv : 1000 ≤ u) (hv2 : u < 1000000) :
    Calls Tryf.prog 14 #[.int .i64 u, .pointer (some ⟨B, 0, none⟩)] w fun e w' => ∃ n : Nat, n ≤ 32 ∧ e = .returned (.int .i64 n) ∧ Wrote B w w' ∧ Buf w' B := by
  have c5 := cells5
  have hw0 : IntKind.u64.wrap u = u := by rw [IntKind.wrap_u64]; omega
  obtain ⟨⟨c31, c310, c311, hc31⟩, hf31⟩ := hB 31 (by omega)
  have hcopy := run_copy_string (P := Tryf.prog) (w.setCell ⟨B, 31, none⟩ (.int .u8 115)) 42 9 3 5 B 29 3 3 ⟨#[194, 181]⟩ Tryf.underlying42 size5 (by decide)
    (by
      intro j hj
      have hj' : j < 2 := hj
      obtain ⟨⟨c, _, _, hc⟩, _⟩ := hB.set 31 115 (by omega) (by omega) (29 + j) (by omega)
      rw [hc]; rfl)
    (by
      intro j hj
      have hj' : j < 2 := hj
      exact (hB.set 31 115 (by omega) (by omega) (29 + j) (by omega)).2)
  have hWC : Wrote B w ((w.setCell ⟨B, 31, none⟩ (.int .u8 115)).setCells B 29 ((⟨#[194, 181]⟩ : ByteArray).data.toList.map fun x => Value.int .u8 (x.toNat : Int))) := (((Wrote.refl _ _).set _ _).set _ _).set _ _
  have hBC : Buf ((w.setCell ⟨B, 31, none⟩ (.int .u8 115)).setCells B 29 ((⟨#[194, 181]⟩ : ByteArray).data.toList.map fun x => Value.int .u8 (x.toNat : Int))) B := ((hB.set _ _ (by omega) (by omega)).set _ _ (by decide) (by decide)).set _ _ (by decide) (by decide)
  generalize (w.setCell ⟨B, 31, none⟩ (.int .u8 115)).setCells B 29 ((⟨#[194, 181]⟩ : ByteArray).data.toList.map fun x => Value.int .u8 (x.toNat : Int)) = wc at hcopy hWC hBC
  go_enter Tryf.func14, Tryf.ntmps14
  go_wp2_with fail
  clear hcopy
  refine (fmtFrac_any B 29 32 3 u _ hBC hu0 (by omega) (by omega) (by omega) (by omega)).mono ?_
  rintro e w1 ⟨n1, rfl, hn1, hn1', hW1, hB1⟩
  have hW1 := (hWC).trans hW1
  have hq : u / 10 ^ 3 = u / 1000 := rfl
  rw [hq]
  have hq1 : u / 1000 < 10 ^ 3 := by show _ < (1000 : Int); omega
  have hq0 : 0 ≤ u / 1000 := by omega
  have hqu : u / 1000 ≤ 18446744073709551615 := by omega
  clear hq
  generalize u / 1000 = q at hq1 hq0 hqu
  have HQ : Hid (q < 10 ^ 3) := hq1
  clear hq1
  have hn1i : (n1 : Int) ≤ 32 := by omega
  go_wp2_with fail
  refine (fmtInt_any B n1 32 3 q _ hB1 hq0 HQ.out hqu (by omega) (by omega) (by omega)).mono ?_
  rintro e w2 ⟨n2, rfl, hn2, hn2', hW2, hB2⟩
  have hW2 := hW1.trans hW2
  clear hW1 hB1
  go_wp2
  go_ret
  exact ⟨n2, by omega, rfl, hW2, hB2⟩

set_option maxHeartbeats 2000000 in
theorem format_pos_milli (B : Nat) (u : Int) (w : World) (hB : Buf w B) (hu0 : 0 ≤ u) (hu1 : u ≤ 9223372036854775807) (hv : 1000000 ≤ u) (hv2 : u < 1000000000) :
    Calls Tryf.prog 14 #[.int .i64 u, .pointer (some ⟨B, 0, none⟩)] w fun e w' => ∃ n : Nat, n ≤ 32 ∧ e = .returned (.int .i64 n) ∧ Wrote B w w' ∧ Buf w' B := by
  have c5 := cells5
  have hw0 : IntKind.u64.wrap u = u := by rw [IntKind.wrap_u64]; omega
  obtain ⟨⟨c31, c310, c311, hc31⟩, hf31⟩ := hB 31 (by omega)
  obtain ⟨⟨c30, c300, c301, hc30⟩, hf30⟩ := hB 30 (by omega)
  go_enter Tryf.func14, Tryf.ntmps14
  go_wp2_with fail
  refine (fmtFrac_any B 30 32 6 u _ ((hB.set _ _ (by omega) (by omega)).set _ _ (by omega) (by omega)) hu0 (by omega) (by omega) (by omega) (by omega)).mono ?_
  rintro e w1 ⟨n1, rfl, hn1, hn1', hW1, hB1⟩
  have hW1 := (((Wrote.refl _ _).set _ _).set _ _).trans hW1
  have hq : u / 10 ^ 6 = u / 1000000 := rfl
  rw [hq]
  have hq1 : u / 1000000 < 10 ^ 3 := by show _ < (1000 : Int); omega
  have hq0 : 0 ≤ u / 1000000 := by omega
  have hqu : u / 1000000 ≤ 18446744073709551615 := by omega
  clear hq
  generalize u / 1000000 = q at hq1 hq0 hqu
  have HQ : Hid (q < 10 ^ 3) := hq1
  clear hq1
  have hn1i : (n1 : Int) ≤ 32 := by omega
  go_wp2_with fail
  refine (fmtInt_any B n1 32 3 q _ hB1 hq0 HQ.out hqu (by omega) (by omega) (by omega)).mono ?_
  rintro e w2 ⟨n2, rfl, hn2, hn2', hW2, hB2⟩
  have hW2 := hW1.trans hW2
  clear hW1 hB1
  go_wp2
  go_ret
  exact ⟨n2, by omega, rfl, hW2, hB2⟩

set_option maxHeartbeats 2000000 in
theorem format_pos_sec (B : Nat) (u : Int) (w : World) (hB : Buf w B) (hu0 : 0 ≤ u) (hu1 : u ≤ 9223372036854775807) (hg : 1000000000 ≤ u) (hv : u / 1000000000 < 60) :
    Calls Tryf.prog 14 #[.int .i64 u, .pointer (some ⟨B, 0, none⟩)] w fun e w' => ∃ n : Nat, n ≤ 32 ∧ e = .returned (.int .i64 n) ∧ Wrote B w w' ∧ Buf w' B := by
  have c5 := cells5
  have hw0 : IntKind.u64.wrap u = u := by rw [IntKind.wrap_u64]; omega
  obtain ⟨⟨c31, c310, c311, hc31⟩, hf31⟩ := hB 31 (by omega)
  go_enter Tryf.func14, Tryf.ntmps14
  go_wp2_with fail
  refine (fmtFrac_any B 31 32 9 u _ (hB.set _ _ (by omega) (by omega)) hu0 (by omega) (by omega) (by omega) (by omega)).mono ?_
  rintro e w1 ⟨n1, rfl, hn1, hn1', hW1, hB1⟩
  have hW1 := ((Wrote.refl _ _).set _ _).trans hW1
  have hq : u / 10 ^ 9 = u / 1000000000 := rfl
  rw [hq]
  have hq1 : u / 1000000000 ≤ 9223372036 := by omega
  have hq0 : 0 ≤ u / 1000000000 := by omega
  clear hq
  have hlev : u / 1000000000 < 60 := hv
  clear hv
  generalize u / 1000000000 = q at hq1 hq0 hlev
  have hq60 : q % 60 < 10 ^ 2 := by show _ < (100 : Int); omega
  have HQ60 : Hid (q % 60 < 10 ^ 2) := hq60
  clear hq60
  have hn1i : (n1 : Int) ≤ 32 := by omega
  go_wp2_with fail
  refine (fmtInt_any B n1 32 2 (q % 60) _ hB1 (by omega) HQ60.out (by omega) (by omega) (by omega) (by omega)).mono ?_
  rintro e w2 ⟨n2, rfl, hn2, hn2', hW2, hB2⟩
  have hW2 := hW1.trans hW2
  clear hW1 hB1
  have hz2 : q / 60 = 0 := by omega
  go_wp2
  go_ret
  exact ⟨n2, by omega, rfl, hW2, hB2⟩

set_option maxHeartbeats 2000000 in
theorem format_pos_min (B : Nat) (u : Int) (w : World) (hB : Buf w B) (hu0 : 0 ≤ u) (hu1 : u ≤ 9223372036854775807) (hg : 1000000000 ≤ u) (hv : 60 ≤ u / 1000000000 ∧ u / 1000000000 < 3600) :
    Calls Tryf.prog 14 #[.int .i64 u, .pointer (some ⟨B, 0, none⟩)] w fun e w' => ∃ n : Nat, n ≤ 32 ∧ e = .returned (.int .i64 n) ∧ Wrote B w w' ∧ Buf w' B := by
  have c5 := cells5
  have hw0 : IntKind.u64.wrap u = u := by rw [IntKind.wrap_u64]; omega
  obtain ⟨⟨c31, c310, c311, hc31⟩, hf31⟩ := hB 31 (by omega)
  go_enter Tryf.func14, Tryf.ntmps14
  go_wp2_with fail
  refine (fmtFrac_any B 31 32 9 u _ (hB.set _ _ (by omega) (by omega)) hu0 (by omega) (by omega) (by omega) (by omega)).mono ?_
  rintro e w1 ⟨n1, rfl, hn1, hn1', hW1, hB1⟩
  have hW1 := ((Wrote.refl _ _).set _ _).trans hW1
  have hq : u / 10 ^ 9 = u / 1000000000 := rfl
  rw [hq]
  have hq1 : u / 1000000000 ≤ 9223372036 := by omega
  have hq0 : 0 ≤ u / 1000000000 := by omega
  clear hq
  have hlev : 60 ≤ u / 1000000000 ∧ u / 1000000000 < 3600 := hv
  clear hv
  generalize u / 1000000000 = q at hq1 hq0 hlev
  have hq60 : q % 60 < 10 ^ 2 := by show _ < (100 : Int); omega
  have HQ60 : Hid (q % 60 < 10 ^ 2) := hq60
  clear hq60
  have hn1i : (n1 : Int) ≤ 32 := by omega
  go_wp2_with fail
  refine (fmtInt_any B n1 32 2 (q % 60) _ hB1 (by omega) HQ60.out (by omega) (by omega) (by omega) (by omega)).mono ?_
  rintro e w2 ⟨n2, rfl, hn2, hn2', hW2, hB2⟩
  have hW2 := hW1.trans hW2
  clear hW1 hB1
  obtain ⟨m2, rfl⟩ : ∃ m, n2 = m + 1 := ⟨n2 - 1, by omega⟩
  obtain ⟨⟨cm2, cm20, cm21, hcm2⟩, hfm2⟩ := hB2 m2 (by omega)
  have em2 : ((m2 + 1 : Nat) : Int) - 1 = (m2 : Int) := by omega
  have hm232 : (m2 : Int) < 32 := by omega
  have hm232' : (m2 : Int) ≤ 32 := by omega
  have hq2 : 0 < q / 60 := by omega
  have hq3 : q / 60 / 60 = q / 3600 := by omega
  have HQ3 : Hid (q / 60 / 60 = q / 3600) := hq3
  have hr60 : q / 60 % 60 < 10 ^ 2 := by show _ < (100 : Int); omega
  have HR60 : Hid (q / 60 % 60 < 10 ^ 2) := hr60
  clear hr60 hq3
  go_wp2_with fail
  refine (fmtInt_any B m2 32 2 (q / 60 % 60) _ (hB2.set m2 109 (by omega) (by omega)) (by omega) HR60.out (by omega) (by omega) (by omega) (by omega)).mono ?_
  rintro e w3 ⟨n3, rfl, hn3, hn3', hW3, hB3⟩
  have hW3 := (hW2.set _ _).trans hW3
  clear hW2 hB2
  have hz3 : q / 60 / 60 = 0 := by omega
  go_wp2
  go_ret
  exact ⟨n3, by omega, rfl, hW3, hB3⟩

set_option maxHeartbeats 2000000 in
theorem format_pos_hour (B : Nat) (u : Int) (w : World) (hB : Buf w B) (hu0 : 0 ≤ u) (hu1 : u ≤ 9223372036854775807) (hg : 1000000000 ≤ u) (hv : 3600 ≤ u / 1000000000) :
    Calls Tryf.prog 14 #[.int .i64 u, .pointer (some ⟨B, 0, none⟩)] w fun e w' => ∃ n : Nat, n ≤ 32 ∧ e = .returned (.int .i64 n) ∧ Wrote B w w' ∧ Buf w' B := by
  have c5 := cells5
  have hw0 : IntKind.u64.wrap u = u := by rw [IntKind.wrap_u64]; omega
  obtain ⟨⟨c31, c310, c311, hc31⟩, hf31⟩ := hB 31 (by omega)
  go_enter Tryf.func14, Tryf.ntmps14
  go_wp2_with fail
  refine (fmtFrac_any B 31 32 9 u _ (hB.set _ _ (by omega) (by omega)) hu0 (by omega) (by omega) (by omega) (by omega)).mono ?_
  rintro e w1 ⟨n1, rfl, hn1, hn1', hW1, hB1⟩
  have hW1 := ((Wrote.refl _ _).set _ _).trans hW1
  have hq : u / 10 ^ 9 = u / 1000000000 := rfl
  rw [hq]
  have hq1 : u / 1000000000 ≤ 9223372036 := by omega
  have hq0 : 0 ≤ u / 1000000000 := by omega
  clear hq
  have hlev : 3600 ≤ u / 1000000000 := hv
  clear hv
  generalize u / 1000000000 = q at hq1 hq0 hlev
  have hq60 : q % 60 < 10 ^ 2 := by show _ < (100 : Int); omega
  have HQ60 : Hid (q % 60 < 10 ^ 2) := hq60
  clear hq60
  have hn1i : (n1 : Int) ≤ 32 := by omega
  go_wp2_with fail
  refine (fmtInt_any B n1 32 2 (q % 60) _ hB1 (by omega) HQ60.out (by omega) (by omega) (by omega) (by omega)).mono ?_
  rintro e w2 ⟨n2, rfl, hn2, hn2', hW2, hB2⟩
  have hW2 := hW1.trans hW2
  clear hW1 hB1
  obtain ⟨m2, rfl⟩ : ∃ m, n2 = m + 1 := ⟨n2 - 1, by omega⟩
  obtain ⟨⟨cm2, cm20, cm21, hcm2⟩, hfm2⟩ := hB2 m2 (by omega)
  have em2 : ((m2 + 1 : Nat) : Int) - 1 = (m2 : Int) := by omega
  have hm232 : (m2 : Int) < 32 := by omega
  have hm232' : (m2 : Int) ≤ 32 := by omega
  have hq2 : 0 < q / 60 := by omega
  have hq3 : q / 60 / 60 = q / 3600 := by omega
  have HQ3 : Hid (q / 60 / 60 = q / 3600) := hq3
  have hr60 : q / 60 % 60 < 10 ^ 2 := by show _ < (100 : Int); omega
  have HR60 : Hid (q / 60 % 60 < 10 ^ 2) := hr60
  clear hr60 hq3
  go_wp2_with fail
  refine (fmtInt_any B m2 32 2 (q / 60 % 60) _ (hB2.set m2 109 (by omega) (by omega)) (by omega) HR60.out (by omega) (by omega) (by omega) (by omega)).mono ?_
  rintro e w3 ⟨n3, rfl, hn3, hn3', hW3, hB3⟩
  have hW3 := (hW2.set _ _).trans hW3
  clear hW2 hB2
  obtain ⟨m3, rfl⟩ : ∃ m, n3 = m + 1 := ⟨n3 - 1, by omega⟩
  obtain ⟨⟨cm3, cm30, cm31, hcm3⟩, hfm3⟩ := hB3 m3 (by omega)
  have em3 : ((m3 + 1 : Nat) : Int) - 1 = (m3 : Int) := by omega
  have hm332 : (m3 : Int) < 32 := by omega
  have hm332' : (m3 : Int) ≤ 32 := by omega
  have hq4 : 0 < q / 60 / 60 := by omega
  have hr8 : q / 60 / 60 < 10 ^ 8 := by show _ < (100000000 : Int); omega
  have HR8 : Hid (q / 60 / 60 < 10 ^ 8) := hr8
  clear hr8
  go_wp2_with fail
  refine (fmtInt_any B m3 32 8 (q / 60 / 60) _ (hB3.set m3 104 (by omega) (by omega)) (by omega) HR8.out (by omega) (by omega) (by omega) (by omega)).mono ?_
  rintro e w4 ⟨n4, rfl, hn4, hn4', hW4, hB4⟩
  have hW4 := (hW3.set _ _).trans hW4
  clear hW3 hB3
  go_wp2
  go_ret
  exact ⟨n4, by omega, rfl, hW4, hB4⟩

set_option maxHeartbeats 2000000 in
theorem format_neg_nano (B : Nat) (d u : Int) (w : World) (hB : Buf w B) (hd : d < 0) (HU : Hid (u = -d)) (hu0 : 0 ≤ u) (hu1 : u ≤ 9223372036854775808) (hv : 0 < u) (hv2 : u < 1000) :
    Calls Tryf.prog 14 #[.int .i64 d, .pointer (some ⟨B, 0, none⟩)] w fun e w' => ∃ n : Nat, n ≤ 32 ∧ e = .returned (.int .i64 n) ∧ Wrote B w w' ∧ Buf w' B := by
  have c5 := cells5
  have hw0 : IntKind.u64.wrap (-IntKind.u64.wrap d) = u := by have := HU.out; rw [IntKind.wrap_u64, IntKind.wrap_u64]; omega
  obtain ⟨⟨c31, c310, c311, hc31⟩, hf31⟩ := hB 31 (by omega)
  obtain ⟨⟨c30, c300, c301, hc30⟩, hf30⟩ := hB 30 (by omega)
  go_enter Tryf.func14, Tryf.ntmps14
  go_wp2_with fail
  refine (fmtFrac_any B 30 32 0 u _ ((hB.set _ _ (by omega) (by omega)).set _ _ (by omega) (by omega)) hu0 (by omega) (by omega) (by omega) (by omega)).mono ?_
  rintro e w1 ⟨n1, rfl, hn1, hn1', hW1, hB1⟩
  have hW1 := (((Wrote.refl _ _).set _ _).set _ _).trans hW1
  have hq : u / 10 ^ 0 = u / 1 := rfl
  rw [hq]
  have hq1 : u / 1 < 10 ^ 3 := by show _ < (1000 : Int); omega
  have hq0 : 0 ≤ u / 1 := by omega
  have hqu : u / 1 ≤ 18446744073709551615 := by omega
  clear hq
  generalize u / 1 = q at hq1 hq0 hqu
  have HQ : Hid (q < 10 ^ 3) := hq1
  clear hq1
  have hn1i : (n1 : Int) ≤ 32 := by omega
  go_wp2_with fail
  refine (fmtInt_any B n1 32 3 q _ hB1 hq0 HQ.out hqu (by omega) (by omega) (by omega)).mono ?_
  rintro e w2 ⟨n2, rfl, hn2, hn2', hW2, hB2⟩
  have hW2 := hW1.trans hW2
  clear hW1 hB1
  obtain ⟨m, rfl⟩ : ∃ m, n2 = m + 1 := ⟨n2 - 1, by omega⟩
  obtain ⟨⟨cm, cm0, cm1, hcm⟩, hfm⟩ := hB2 m (by omega)
  have em : ((m + 1 : Nat) : Int) - 1 = (m : Int) := by omega
  have hm32 : (m : Int) < 32 := by omega
  go_wp2
  go_ret
  exact ⟨m, by omega, rfl, (hW2).set _ _, (hB2).set _ _ (by omega) (by omega)⟩

set_option maxHeartbeats 2000000 in
theorem format_neg_micro (B : Nat) (d u : Int) (w : World) (hB : Buf w B) (hd : d < 0) (HU : Hid (u = -d)) (hu0 : 0 ≤ u) (hu1 : u ≤ 9223372036854775808) (hv : 1000 ≤ u) (hv2 : u < 1000000) :
    Calls Tryf.prog 14 #[.int .i64 d, .pointer (some ⟨B, 0, none⟩)] w fun e w' => ∃ n : Nat, n ≤ 32 ∧ e = .returned (.int .i64 n) ∧ Wrote B w w' ∧ Buf w' B := by
  have c5 := cells5
  have hw0 : IntKind.u64.wrap (-IntKind.u64.wrap d) = u := by have := HU.out; rw [IntKind.wrap_u64, IntKind.wrap_u64]; omega
  obtain ⟨⟨c31, c310, c311, hc31⟩, hf31⟩ := hB 31 (by omega)
  have hcopy := run_copy_string (P := Tryf.prog) (w.setCell ⟨B, 31, none⟩ (.int .u8 115)) 42 9 3 5 B 29 3 3 ⟨#[194, 181]⟩ Tryf.underlying42 size5 (by decide)
    (by
      intro j hj
      have hj' : j < 2 := hj
      obtain ⟨⟨c, _, _, hc⟩, _⟩ := hB.set 31 115 (by omega) (by omega) (29 + j) (by omega)
      rw [hc]; rfl)
    (by
      intro j hj
      have hj' : j < 2 := hj
      exact (hB.set 31 115 (by omega) (by omega) (29 + j) (by omega)).2)
  have hWC : Wrote B w ((w.setCell ⟨B, 31, none⟩ (.int .u8 115)).setCells B 29 ((⟨#[194, 181]⟩ : ByteArray).data.toList.map fun x => Value.int .u8 (x.toNat : Int))) := (((Wrote.refl _ _).set _ _).set _ _).set _ _
  have hBC : Buf ((w.setCell ⟨B, 31, none⟩ (.int .u8 115)).setCells B 29 ((⟨#[194, 181]⟩ : ByteArray).data.toList.map fun x => Value.int .u8 (x.toNat : Int))) B := ((hB.set _ _ (by omega) (by omega)).set _ _ (by decide) (by decide)).set _ _ (by decide) (by decide)
  generalize (w.setCell ⟨B, 31, none⟩ (.int .u8 115)).setCells B 29 ((⟨#[194, 181]⟩ : ByteArray).data.toList.map fun x => Value.int .u8 (x.toNat : Int)) = wc at hcopy hWC hBC
  go_enter Tryf.func14, Tryf.ntmps14
  go_wp2_with fail
  clear hcopy
  refine (fmtFrac_any B 29 32 3 u _ hBC hu0 (by omega) (by omega) (by omega) (by omega)).mono ?_
  rintro e w1 ⟨n1, rfl, hn1, hn1', hW1, hB1⟩
  have hW1 := (hWC).trans hW1
  have hq : u / 10 ^ 3 = u / 1000 := rfl
  rw [hq]
  have hq1 : u / 1000 < 10 ^ 3 := by show _ < (1000 : Int); omega
  have hq0 : 0 ≤ u / 1000 := by omega
  have hqu : u / 1000 ≤ 18446744073709551615 := by omega
  clear hq
  generalize u / 1000 = q at hq1 hq0 hqu
  have HQ : Hid (q < 10 ^ 3) := hq1
  clear hq1
  have hn1i : (n1 : Int) ≤ 32 := by omega
  go_wp2_with fail
  refine (fmtInt_any B n1 32 3 q _ hB1 hq0 HQ.out hqu (by omega) (by omega) (by omega)).mono ?_
  rintro e w2 ⟨n2, rfl, hn2, hn2', hW2, hB2⟩
  have hW2 := hW1.trans hW2
  clear hW1 hB1
  obtain ⟨m, rfl⟩ : ∃ m, n2 = m + 1 := ⟨n2 - 1, by omega⟩
  obtain ⟨⟨cm, cm0, cm1, hcm⟩, hfm⟩ := hB2 m (by omega)
  have em : ((m + 1 : Nat) : Int) - 1 = (m : Int) := by omega
  have hm32 : (m : Int) < 32 := by omega
  go_wp2
  go_ret
  exact ⟨m, by omega, rfl, (hW2).set _ _, (hB2).set _ _ (by omega) (by omega)⟩

set_option maxHeartbeats 2000000 in
theorem format_neg_milli (B : Nat) (d u : Int) (w : World) (hB : Buf w B) (hd : d < 0) (HU : Hid (u = -d)) (hu0 : 0 ≤ u) (hu1 : u ≤ 9223372036854775808) (hv : 1000000 ≤ u) (hv2 : u < 1000000000) :
    Calls Tryf.prog 14 #[.int .i64 d, .pointer (some ⟨B, 0, none⟩)] w fun e w' => ∃ n : Nat, n ≤ 32 ∧ e = .returned (.int .i64 n) ∧ Wrote B w w' ∧ Buf w' B := by
  have c5 := cells5
  have hw0 : IntKind.u64.wrap (-IntKind.u64.wrap d) = u := by have := HU.out; rw [IntKind.wrap_u64, IntKind.wrap_u64]; omega
  obtain ⟨⟨c31, c310, c311, hc31⟩, hf31⟩ := hB 31 (by omega)
  obtain ⟨⟨c30, c300, c301, hc30⟩, hf30⟩ := hB 30 (by omega)
  go_enter Tryf.func14, Tryf.ntmps14
  go_wp2_with fail
  refine (fmtFrac_any B 30 32 6 u _ ((hB.set _ _ (by omega) (by omega)).set _ _ (by omega) (by omega)) hu0 (by omega) (by omega) (by omega) (by omega)).mono ?_
  rintro e w1 ⟨n1, rfl, hn1, hn1', hW1, hB1⟩
  have hW1 := (((Wrote.refl _ _).set _ _).set _ _).trans hW1
  have hq : u / 10 ^ 6 = u / 1000000 := rfl
  rw [hq]
  have hq1 : u / 1000000 < 10 ^ 3 := by show _ < (1000 : Int); omega
  have hq0 : 0 ≤ u / 1000000 := by omega
  have hqu : u / 1000000 ≤ 18446744073709551615 := by omega
  clear hq
  generalize u / 1000000 = q at hq1 hq0 hqu
  have HQ : Hid (q < 10 ^ 3) := hq1
  clear hq1
  have hn1i : (n1 : Int) ≤ 32 := by omega
  go_wp2_with fail
  refine (fmtInt_any B n1 32 3 q _ hB1 hq0 HQ.out hqu (by omega) (by omega) (by omega)).mono ?_
  rintro e w2 ⟨n2, rfl, hn2, hn2', hW2, hB2⟩
  have hW2 := hW1.trans hW2
  clear hW1 hB1
  obtain ⟨m, rfl⟩ : ∃ m, n2 = m + 1 := ⟨n2 - 1, by omega⟩
  obtain ⟨⟨cm, cm0, cm1, hcm⟩, hfm⟩ := hB2 m (by omega)
  have em : ((m + 1 : Nat) : Int) - 1 = (m : Int) := by omega
  have hm32 : (m : Int) < 32 := by omega
  go_wp2
  go_ret
  exact ⟨m, by omega, rfl, (hW2).set _ _, (hB2).set _ _ (by omega) (by omega)⟩

set_option maxHeartbeats 2000000 in
theorem format_neg_sec (B : Nat) (d u : Int) (w : World) (hB : Buf w B) (hd : d < 0) (HU : Hid (u = -d)) (hu0 : 0 ≤ u) (hu1 : u ≤ 9223372036854775808) (hg : 1000000000 ≤ u) (hv : u / 1000000000 < 60) :
    Calls Tryf.prog 14 #[.int .i64 d, .pointer (some ⟨B, 0, none⟩)] w fun e w' => ∃ n : Nat, n ≤ 32 ∧ e = .returned (.int .i64 n) ∧ Wrote B w w' ∧ Buf w' B := by
  have c5 := cells5
  have hw0 : IntKind.u64.wrap (-IntKind.u64.wrap d) = u := by have := HU.out; rw [IntKind.wrap_u64, IntKind.wrap_u64]; omega
  obtain ⟨⟨c31, c310, c311, hc31⟩, hf31⟩ := hB 31 (by omega)
  go_enter Tryf.func14, Tryf.ntmps14
  go_wp2_with fail
  refine (fmtFrac_any B 31 32 9 u _ (hB.set _ _ (by omega) (by omega)) hu0 (by omega) (by omega) (by omega) (by omega)).mono ?_
  rintro e w1 ⟨n1, rfl, hn1, hn1', hW1, hB1⟩
  have hW1 := ((Wrote.refl _ _).set _ _).trans hW1
  have hq : u / 10 ^ 9 = u / 1000000000 := rfl
  rw [hq]
  have hq1 : u / 1000000000 ≤ 9223372036 := by omega
  have hq0 : 0 ≤ u / 1000000000 := by omega
  clear hq
  have hlev : u / 1000000000 < 60 := hv
  clear hv
  generalize u / 1000000000 = q at hq1 hq0 hlev
  have hq60 : q % 60 < 10 ^ 2 := by show _ < (100 : Int); omega
  have HQ60 : Hid (q % 60 < 10 ^ 2) := hq60
  clear hq60
  have hn1i : (n1 : Int) ≤ 32 := by omega
  go_wp2_with fail
  refine (fmtInt_any B n1 32 2 (q % 60) _ hB1 (by omega) HQ60.out (by omega) (by omega) (by omega) (by omega)).mono ?_
  rintro e w2 ⟨n2, rfl, hn2, hn2', hW2, hB2⟩
  have hW2 := hW1.trans hW2
  clear hW1 hB1
  have hz2 : q / 60 = 0 := by omega
  obtain ⟨m, rfl⟩ : ∃ m, n2 = m + 1 := ⟨n2 - 1, by omega⟩
  obtain ⟨⟨cm, cm0, cm1, hcm⟩, hfm⟩ := hB2 m (by omega)
  have em : ((m + 1 : Nat) : Int) - 1 = (m : Int) := by omega
  have hm32 : (m : Int) < 32 := by omega
  go_wp2
  go_ret
  exact ⟨m, by omega, rfl, (hW2).set _ _, (hB2).set _ _ (by omega) (by omega)⟩

set_option maxHeartbeats 2000000 in
theorem format_neg_min (B : Nat) (d u : Int) (w : World) (hB : Buf w B) (hd : d < 0) (HU : Hid (u = -d)) (hu0 : 0 ≤ u) (hu1 : u ≤ 9223372036854775808) (hg : 1000000000 ≤ u) (hv : 60 ≤ u / 1000000000 ∧ u / 1000000000 < 3600) :
    Calls Tryf.prog 14 #[.int .i64 d, .pointer (some ⟨B, 0, none⟩)] w fun e w' => ∃ n : Nat, n ≤ 32 ∧ e = .returned (.int .i64 n) ∧ Wrote B w w' ∧ Buf w' B := by
  have c5 := cells5
  have hw0 : IntKind.u64.wrap (-IntKind.u64.wrap d) = u := by have := HU.out; rw [IntKind.wrap_u64, IntKind.wrap_u64]; omega
  obtain ⟨⟨c31, c310, c311, hc31⟩, hf31⟩ := hB 31 (by omega)
  go_enter Tryf.func14, Tryf.ntmps14
  go_wp2_with fail
  refine (fmtFrac_any B 31 32 9 u _ (hB.set _ _ (by omega) (by omega)) hu0 (by omega) (by omega) (by omega) (by omega)).mono ?_
  rintro e w1 ⟨n1, rfl, hn1, hn1', hW1, hB1⟩
  have hW1 := ((Wrote.refl _ _).set _ _).trans hW1
  have hq : u / 10 ^ 9 = u / 1000000000 := rfl
  rw [hq]
  have hq1 : u / 1000000000 ≤ 9223372036 := by omega
  have hq0 : 0 ≤ u / 1000000000 := by omega
  clear hq
  have hlev : 60 ≤ u / 1000000000 ∧ u / 1000000000 < 3600 := hv
  clear hv
  generalize u / 1000000000 = q at hq1 hq0 hlev
  have hq60 : q % 60 < 10 ^ 2 := by show _ < (100 : Int); omega
  have HQ60 : Hid (q % 60 < 10 ^ 2) := hq60
  clear hq60
  have hn1i : (n1 : Int) ≤ 32 := by omega
  go_wp2_with fail
  refine (fmtInt_any B n1 32 2 (q % 60) _ hB1 (by omega) HQ60.out (by omega) (by omega) (by omega) (by omega)).mono ?_
  rintro e w2 ⟨n2, rfl, hn2, hn2', hW2, hB2⟩
  have hW2 := hW1.trans hW2
  clear hW1 hB1
  obtain ⟨m2, rfl⟩ : ∃ m, n2 = m + 1 := ⟨n2 - 1, by omega⟩
  obtain ⟨⟨cm2, cm20, cm21, hcm2⟩, hfm2⟩ := hB2 m2 (by omega)
  have em2 : ((m2 + 1 : Nat) : Int) - 1 = (m2 : Int) := by omega
  have hm232 : (m2 : Int) < 32 := by omega
  have hm232' : (m2 : Int) ≤ 32 := by omega
  have hq2 : 0 < q / 60 := by omega
  have hq3 : q / 60 / 60 = q / 3600 := by omega
  have HQ3 : Hid (q / 60 / 60 = q / 3600) := hq3
  have hr60 : q / 60 % 60 < 10 ^ 2 := by show _ < (100 : Int); omega
  have HR60 : Hid (q / 60 % 60 < 10 ^ 2) := hr60
  clear hr60 hq3
  go_wp2_with fail
  refine (fmtInt_any B m2 32 2 (q / 60 % 60) _ (hB2.set m2 109 (by omega) (by omega)) (by omega) HR60.out (by omega) (by omega) (by omega) (by omega)).mono ?_
  rintro e w3 ⟨n3, rfl, hn3, hn3', hW3, hB3⟩
  have hW3 := (hW2.set _ _).trans hW3
  clear hW2 hB2
  have hz3 : q / 60 / 60 = 0 := by omega
  obtain ⟨m, rfl⟩ : ∃ m, n3 = m + 1 := ⟨n3 - 1, by omega⟩
  obtain ⟨⟨cm, cm0, cm1, hcm⟩, hfm⟩ := hB3 m (by omega)
  have em : ((m + 1 : Nat) : Int) - 1 = (m : Int) := by omega
  have hm32 : (m : Int) < 32 := by omega
  go_wp2
  go_ret
  exact ⟨m, by omega, rfl, (hW3).set _ _, (hB3).set _ _ (by omega) (by omega)⟩

set_option maxHeartbeats 2000000 in
theorem format_neg_hour (B : Nat) (d u : Int) (w : World) (hB : Buf w B) (hd : d < 0) (HU : Hid (u = -d)) (hu0 : 0 ≤ u) (hu1 : u ≤ 9223372036854775808) (hg : 1000000000 ≤ u) (hv : 3600 ≤ u / 1000000000) :
    Calls Tryf.prog 14 #[.int .i64 d, .pointer (some ⟨B, 0, none⟩)] w fun e w' => ∃ n : Nat, n ≤ 32 ∧ e = .returned (.int .i64 n) ∧ Wrote B w w' ∧ Buf w' B := by
  have c5 := cells5
  have hw0 : IntKind.u64.wrap (-IntKind.u64.wrap d) = u := by have := HU.out; rw [IntKind.wrap_u64, IntKind.wrap_u64]; omega
  obtain ⟨⟨c31, c310, c311, hc31⟩, hf31⟩ := hB 31 (by omega)
  go_enter Tryf.func14, Tryf.ntmps14
  go_wp2_with fail
  refine (fmtFrac_any B 31 32 9 u _ (hB.set _ _ (by omega) (by omega)) hu0 (by omega) (by omega) (by omega) (by omega)).mono ?_
  rintro e w1 ⟨n1, rfl, hn1, hn1', hW1, hB1⟩
  have hW1 := ((Wrote.refl _ _).set _ _).trans hW1
  have hq : u / 10 ^ 9 = u / 1000000000 := rfl
  rw [hq]
  have hq1 : u / 1000000000 ≤ 9223372036 := by omega
  have hq0 : 0 ≤ u / 1000000000 := by omega
  clear hq
  have hlev : 3600 ≤ u / 1000000000 := hv
  clear hv
  generalize u / 1000000000 = q at hq1 hq0 hlev
  have hq60 : q % 60 < 10 ^ 2 := by show _ < (100 : Int); omega
  have HQ60 : Hid (q % 60 < 10 ^ 2) := hq60
  clear hq60
  have hn1i : (n1 : Int) ≤ 32 := by omega
  go_wp2_with fail
  refine (fmtInt_any B n1 32 2 (q % 60) _ hB1 (by omega) HQ60.out (by omega) (by omega) (by omega) (by omega)).mono ?_
  rintro e w2 ⟨n2, rfl, hn2, hn2', hW2, hB2⟩
  have hW2 := hW1.trans hW2
  clear hW1 hB1
  obtain ⟨m2, rfl⟩ : ∃ m, n2 = m + 1 := ⟨n2 - 1, by omega⟩
  obtain ⟨⟨cm2, cm20, cm21, hcm2⟩, hfm2⟩ := hB2 m2 (by omega)
  have em2 : ((m2 + 1 : Nat) : Int) - 1 = (m2 : Int) := by omega
  have hm232 : (m2 : Int) < 32 := by omega
  have hm232' : (m2 : Int) ≤ 32 := by omega
  have hq2 : 0 < q / 60 := by omega
  have hq3 : q / 60 / 60 = q / 3600 := by omega
  have HQ3 : Hid (q / 60 / 60 = q / 3600) := hq3
  have hr60 : q / 60 % 60 < 10 ^ 2 := by show _ < (100 : Int); omega
  have HR60 : Hid (q / 60 % 60 < 10 ^ 2) := hr60
  clear hr60 hq3
  go_wp2_with fail
  refine (fmtInt_any B m2 32 2 (q / 60 % 60) _ (hB2.set m2 109 (by omega) (by omega)) (by omega) HR60.out (by omega) (by omega) (by omega) (by omega)).mono ?_
  rintro e w3 ⟨n3, rfl, hn3, hn3', hW3, hB3⟩
  have hW3 := (hW2.set _ _).trans hW3
  clear hW2 hB2
  obtain ⟨m3, rfl⟩ : ∃ m, n3 = m + 1 := ⟨n3 - 1, by omega⟩
  obtain ⟨⟨cm3, cm30, cm31, hcm3⟩, hfm3⟩ := hB3 m3 (by omega)
  have em3 : ((m3 + 1 : Nat) : Int) - 1 = (m3 : Int) := by omega
  have hm332 : (m3 : Int) < 32 := by omega
  have hm332' : (m3 : Int) ≤ 32 := by omega
  have hq4 : 0 < q / 60 / 60 := by omega
  have hr8 : q / 60 / 60 < 10 ^ 8 := by show _ < (100000000 : Int); omega
  have HR8 : Hid (q / 60 / 60 < 10 ^ 8) := hr8
  clear hr8
  go_wp2_with fail
  refine (fmtInt_any B m3 32 8 (q / 60 / 60) _ (hB3.set m3 104 (by omega) (by omega)) (by omega) HR8.out (by omega) (by omega) (by omega) (by omega)).mono ?_
  rintro e w4 ⟨n4, rfl, hn4, hn4', hW4, hB4⟩
  have hW4 := (hW3.set _ _).trans hW4
  clear hW3 hB3
  obtain ⟨m, rfl⟩ : ∃ m, n4 = m + 1 := ⟨n4 - 1, by omega⟩
  obtain ⟨⟨cm, cm0, cm1, hcm⟩, hfm⟩ := hB4 m (by omega)
  have em : ((m + 1 : Nat) : Int) - 1 = (m : Int) := by omega
  have hm32 : (m : Int) < 32 := by omega
  go_wp2
  go_ret
  exact ⟨m, by omega, rfl, (hW4).set _ _, (hB4).set _ _ (by omega) (by omega)⟩

end Go.Proofs.Qxb6628281aFmt.Du

