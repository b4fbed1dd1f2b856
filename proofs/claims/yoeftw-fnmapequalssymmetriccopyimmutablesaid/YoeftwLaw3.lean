/-
  FnMapEqualsMatchesDictionaryModel (function 3) out of the contracts.
-/
import Derived.Test.YoeftwModel
import Derived.Test.YoeftwEquals
namespace Go.Proofs.Yoeftw
open Go.RowKit

theorem StrsAt.below {w w' : World} {a : Option Addr} {len : Nat} {ss : List ByteArray} (h : StrsAt w a len ss) (hb : Below w.heap.size w w') : StrsAt w' a len ss := by
  obtain ⟨h1, h2, h3⟩ := h
  refine ⟨h1, h2, fun hp => ?_⟩
  obtain ⟨b, off, ha, hc⟩ := h3 hp
  exact ⟨b, off, ha, fun i hi => (hb.cell (p := ⟨b, off + i, none⟩) (block_lt_of_cell (hc i hi))).trans (hc i hi)⟩
theorem IntsAt.below {w w' : World} {a : Option Addr} {len : Nat} {zs : List Int} (h : IntsAt w a len zs) (hb : Below w.heap.size w w') : IntsAt w' a len zs := by
  obtain ⟨h1, h3⟩ := h
  refine ⟨h1, fun hp => ?_⟩
  obtain ⟨b, off, ha, hc⟩ := h3 hp
  exact ⟨b, off, ha, fun i hi => (hb.cell (p := ⟨b, off + i, none⟩) (block_lt_of_cell (hc i hi))).trans (hc i hi)⟩

/-- minInt of two lengths. -/
theorem minInt_nat (x y n : Nat) (hn : n = min x y) (w : World) :
    Calls Eftg.prog 9 #[.int .i64 (x : Int), .int .i64 (y : Int)] w fun e w' => e = .returned (.int .i64 (n : Int)) ∧ w' = w := by
  have e : (n : Int) = min (x : Int) (y : Int) := by omega
  rw [e]
  exact minInt_any x y w

/-- 'Below' the first world's size, step by step. -/
theorem Below.step {a b c : World} (h : Below a.heap.size a b) (k : Below b.heap.size b c) : Below a.heap.size a c := h.trans (k.mono h.size)

set_option maxRecDepth 100000 in
set_option maxHeartbeats 4000000 in
theorem law3_long (A C B D : Option Addr) (la ca lc cc lb cb ld cd : Nat) (sa sb : List ByteArray) (w : World) (hla : la ≤ maxLen) (hlb : lb ≤ maxLen) (hA : StrsAt w A la sa) (hB : StrsAt w B lb sb)
    (hbig : ¬ (la ≤ 4096 ∧ lc ≤ 4096 ∧ lb ≤ 4096 ∧ ld ≤ 4096)) :
    Calls Eftg.prog 3 #[.slice A la ca, .slice C lc cc, .slice B lb cb, .slice D ld cd] w fun e w' => e = .returned (.bool true) ∧ Below w.heap.size w w' := by
  have h5 := zz5_any A B C D la ca lc cc lb cb ld cd sa sb w hla hlb hA hB
  have H5 : Hid (Calls Eftg.prog 5 #[.slice A la ca, .slice C lc cc, .slice B lb cb, .slice D ld cd] w fun e w' => SomeBool e ∧ w' = w) := h5
  clear h5 hA hB hla hlb
  rcases (show (4096 < la ∨ (la ≤ 4096 ∧ 4096 < lc) ∨ (la ≤ 4096 ∧ lc ≤ 4096 ∧ 4096 < lb) ∨ (la ≤ 4096 ∧ lc ≤ 4096 ∧ lb ≤ 4096 ∧ 4096 < ld)) from by omega) with h | ⟨h1, h⟩ | ⟨h1, h2, h⟩ | ⟨h1, h2, h3, h⟩
  all_goals
    clear hbig
    go_enter Eftg.func3, Eftg.ntmps3
    go_wp2_with fail
    refine H5.out.mono ?_
    rintro e w1 ⟨⟨z, rfl⟩, rfl⟩
    cases z
    all_goals
      go_wp2
      go_ret
      exact ⟨rfl, Below.refl _ _⟩

set_option maxRecDepth 100000 in
set_option maxHeartbeats 8000000 in
theorem law3_short (A C B D : Option Addr) (la ca lc cc lb cb ld cd : Nat) (sa sb : List ByteArray) (va vb : List Int) (w : World)
    (hla : la ≤ 4096) (hlc : lc ≤ 4096) (hlb : lb ≤ 4096) (hld : ld ≤ 4096) (nA : A = none → ca = 0) (nC : C = none → cc = 0) (nB : B = none → cb = 0) (nD : D = none → cd = 0)
    (hA : StrsAt w A la sa) (hC : IntsAt w C lc va) (hB : StrsAt w B lb sb) (hD : IntsAt w D ld vb) :
    Calls Eftg.prog 3 #[.slice A la ca, .slice C lc cc, .slice B lb cb, .slice D ld cd] w fun e w' => e = .returned (.bool true) ∧ Below w.heap.size w w' := by
  have HA : Hid (StrsAt w A la sa ∧ (A = none → ca = 0)) := ⟨hA, nA⟩
  have HB : Hid (StrsAt w B lb sb ∧ (B = none → cb = 0)) := ⟨hB, nB⟩
  have HC : Hid (IntsAt w C lc va ∧ (C = none → cc = 0)) := ⟨hC, nC⟩
  have HD : Hid (IntsAt w D ld vb ∧ (D = none → cd = 0)) := ⟨hD, nD⟩
  have HMA : Hid (la ≤ maxLen) := by show la ≤ maxLen; unfold maxLen; omega
  have HMB : Hid (lb ≤ maxLen) := by show lb ≤ maxLen; unfold maxLen; omega
  clear hA hB hC hD nA nB nC nD
  obtain ⟨na, hna⟩ : ∃ n, n = min la lc := ⟨_, rfl⟩
  obtain ⟨nb, hnb⟩ : ∃ n, n = min lb ld := ⟨_, rfl⟩
  have a1 : na ≤ la := by omega
  have a2 : na ≤ lc := by omega
  have b1 : nb ≤ lb := by omega
  have b2 : nb ≤ ld := by omega
  have HN : Hid (na = min la lc ∧ nb = min lb ld) := ⟨hna, hnb⟩
  clear hna hnb
  go_enter Eftg.func3, Eftg.ntmps3
  go_wp2_with fail
  refine (zz5_any A B C D la ca lc cc lb cb ld cd sa sb _ HMA.out HMB.out HA.out.1 HB.out.1).mono ?_
  rintro e w0 ⟨⟨z, rfl⟩, rfl⟩
  cases z
  · go_wp2
    go_ret
    exact ⟨rfl, Below.refl _ _⟩
  go_wp2_with fail
  refine (strBytes_any A la ca sa _ HMA.out HA.out.1).mono ?_
  rintro e w0 ⟨⟨z1, rfl⟩, rfl⟩
  go_wp2_with fail
  refine (strBytes_any B lb cb sb _ HMB.out HB.out.1).mono ?_
  rintro e w0 ⟨⟨z2, rfl⟩, rfl⟩
  go_wp2_with fail
  · go_ret
    exact ⟨rfl, Below.refl _ _⟩
  refine (cloneS_any A la ca sa _ (by omega) HA.out.2 HA.out.1).mono ?_
  rintro e w1 ⟨A', ca', rfl, hA, hb1⟩
  go_wp2_with fail
  refine (cloneI_any C lc cc va _ (by omega) HC.out.2 (HC.out.1.below hb1)).mono ?_
  rintro e w2 ⟨C', cc', rfl, hC, hb2⟩
  have hb12 := Below.step hb1 hb2
  go_wp2_with fail
  refine (cloneS_any B lb cb sb _ (by omega) HB.out.2 (HB.out.1.below hb12)).mono ?_
  rintro e w3 ⟨B', cb', rfl, hB, hb3⟩
  have hb13 := Below.step hb12 hb3
  go_wp2_with fail
  refine (cloneI_any D ld cd vb _ (by omega) HD.out.2 (HD.out.1.below hb13)).mono ?_
  rintro e w4 ⟨D', cd', rfl, hD, hb4⟩
  have HB4 : Hid (Below w0.heap.size w0 w4) := Below.step hb13 hb4
  have HA4 : Hid (StrsAt w4 A' la sa) := hA.below (Below.step (Below.step hb2 hb3) hb4)
  have HC4 : Hid (IntsAt w4 C' lc va) := hC.below (Below.step hb3 hb4)
  have HB4' : Hid (StrsAt w4 B' lb sb) := hB.below hb4
  have HD4 : Hid (IntsAt w4 D' ld vb) := hD
  clear hA hC hB hD hb1 hb2 hb3 hb4 hb12 hb13 HA HB HC HD
  go_wp2_with fail
  refine (minInt_nat la lc na HN.out.1 _).mono ?_
  rintro e w5 ⟨rfl, hw5⟩
  obtain rfl : w5 = w4 := hw5
  go_wp2_with fail
  refine (minInt_nat lb ld nb HN.out.2 _).mono ?_
  rintro e w6 ⟨rfl, hw6⟩
  obtain rfl : w6 = w5 := hw6
  go_wp2_with fail
  refine (build_any A' C' la ca' lc cc' na sa va _ (by omega) a1 a2 HA4.out HC4.out).mono ?_
  rintro e w7 ⟨oa, ma, rfl, hpa, hma, hb7⟩
  have HA7 := HA4.out.below hb7
  have HC7 := HC4.out.below hb7
  have HB7 := HB4'.out.below hb7
  have HD7 := HD4.out.below hb7
  have HB07 : Hid (Below w0.heap.size w0 w7) := Below.step HB4.out hb7
  clear HA4 HC4 HB4' HD4 HB4 hb7
  go_wp2_with fail
  refine (build_any B' D' lb cb' ld cd' nb sb vb _ (by omega) b1 b2 HB7 HD7).mono ?_
  rintro e w8 ⟨ob, mb, rfl, hpb, hmb, hb8⟩
  have HA8 := HA7.below hb8
  have HC8 := HC7.below hb8
  have HB8 := HB7.below hb8
  have HD8 := HD7.below hb8
  have hpa8 := (hpa.below hb8).cell
  have hpb8 := hpb.cell
  have hma8 := hma.below hb8
  have HB08 : Hid (Below w0.heap.size w0 w8) := Below.step HB07.out hb8
  clear HA7 HC7 HB7 HD7 hpa hpb hma HB07 hb8
  go_wp2_with fail
  refine (equals_29 oa ob ma mb na nb _ _ _ hpa8 hpb8 hma8 hmb).mono ?_
  rintro e w9 ⟨zeq, rfl, hzeq, hb9⟩
  have HA9 := HA8.below hb9
  have HC9 := HC8.below hb9
  have HB9 := HB8.below hb9
  have HD9 := HD8.below hb9
  have HB09 : Hid (Below w0.heap.size w0 w9) := Below.step HB08.out hb9
  have HZ : Hid (zeq = true ↔ Plain.Same (Plain.dictTo (keysOf sa) va na) (Plain.dictTo (keysOf sb) vb nb)) := hzeq
  clear HA8 HC8 HB8 HD8 hpa8 hpb8 hma8 hmb hb9 HB08 hzeq
  go_wp2_with fail
  refine (model_any A' C' B' D' la ca' lc cc' lb cb' ld cd' na nb sa va sb vb _ (by omega) (by omega) (by omega) (by omega) a1 a2 b1 b2 HA9 HC9 HB9 HD9).mono ?_
  rintro e w10 ⟨zmd, rfl, hzmd, nd, rfl⟩
  have heq : zeq = zmd := Bool.eq_iff_iff.2 (HZ.out.trans ((Plain.same_iff_model _ _ _ _ _ _).trans hzmd.symm))
  subst heq
  have HB10 : Hid (Below w0.heap.size w0 (w9.drewN nd)) := below_drewN HB09.out nd
  clear HA9 HC9 HB9 HD9 hzmd HZ HB09
  go_wp2
  go_ret
  exact ⟨rfl, HB10.out⟩

theorem law3_any (A C B D : Option Addr) (la ca lc cc lb cb ld cd : Nat) (sa sb : List ByteArray) (va vb : List Int) (w : World)
    (hla : la ≤ maxLen) (hlb : lb ≤ maxLen) (nA : A = none → ca = 0) (nC : C = none → cc = 0) (nB : B = none → cb = 0) (nD : D = none → cd = 0)
    (hA : StrsAt w A la sa) (hC : IntsAt w C lc va) (hB : StrsAt w B lb sb) (hD : IntsAt w D ld vb) :
    Calls Eftg.prog 3 #[.slice A la ca, .slice C lc cc, .slice B lb cb, .slice D ld cd] w fun e w' => e = .returned (.bool true) ∧ Below w.heap.size w w' := by
  by_cases h : la ≤ 4096 ∧ lc ≤ 4096 ∧ lb ≤ 4096 ∧ ld ≤ 4096
  · exact law3_short A C B D la ca lc cc lb cb ld cd sa sb va vb w h.1 h.2.1 h.2.2.1 h.2.2.2 nA nC nB nD hA hC hB hD
  · exact law3_long A C B D la ca lc cc lb cb ld cd sa sb w hla hlb hA hB h

end Go.Proofs.Yoeftw
