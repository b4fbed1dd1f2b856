/-
  FnMapEqualsSymmetricCopyImmutable (function 4) out of the contracts.
-/
import Derived.Test.YoeftwLaw3
import Derived.Test.YoeftwCopy
namespace Go.Proofs.Yoeftw
open Go.RowKit

theorem same_comm (sa : List ByteArray) (va : List Int) (na : Nat) (sb : List ByteArray) (vb : List Int) (nb : Nat) :
    Plain.Same (Plain.dictTo (keysOf sa) va na) (Plain.dictTo (keysOf sb) vb nb) ↔ Plain.Same (Plain.dictTo (keysOf sb) vb nb) (Plain.dictTo (keysOf sa) va na) :=
  ⟨fun h => h.symm (Plain.keys_dictTo _ _ _), fun h => h.symm (Plain.keys_dictTo _ _ _)⟩

set_option maxRecDepth 100000 in
set_option maxHeartbeats 4000000 in
theorem law4_long (A C B D : Option Addr) (la ca lc cc lb cb ld cd : Nat) (sa sb : List ByteArray) (w : World) (hla : la ≤ maxLen) (hlb : lb ≤ maxLen) (hA : StrsAt w A la sa) (hB : StrsAt w B lb sb)
    (hbig : ¬ (la ≤ 4096 ∧ lc ≤ 4096 ∧ lb ≤ 4096 ∧ ld ≤ 4096)) :
    Calls Eftg.prog 4 #[.slice A la ca, .slice C lc cc, .slice B lb cb, .slice D ld cd] w fun e w' => e = .returned (.bool true) ∧ Below w.heap.size w w' := by
  have h13 := zz13_any A B C D la ca lc cc lb cb ld cd sa sb w hla hlb hA hB
  have H13 : Hid (Calls Eftg.prog 13 #[.slice A la ca, .slice C lc cc, .slice B lb cb, .slice D ld cd] w fun e w' => SomeBool e ∧ w' = w) := h13
  clear h13 hA hB hla hlb
  rcases (show (4096 < la ∨ (la ≤ 4096 ∧ 4096 < lc) ∨ (la ≤ 4096 ∧ lc ≤ 4096 ∧ 4096 < lb) ∨ (la ≤ 4096 ∧ lc ≤ 4096 ∧ lb ≤ 4096 ∧ 4096 < ld)) from by omega) with h | ⟨h1, h⟩ | ⟨h1, h2, h⟩ | ⟨h1, h2, h3, h⟩
  all_goals
    clear hbig
    go_enter Eftg.func4, Eftg.ntmps4
    go_wp2_with fail
    refine H13.out.mono ?_
    rintro e w1 ⟨⟨z, rfl⟩, rfl⟩
    cases z
    all_goals
      go_wp2
      go_ret
      exact ⟨rfl, Below.refl _ _⟩

set_option maxRecDepth 100000 in
set_option maxHeartbeats 8000000 in
theorem law4_short (A C B D : Option Addr) (la ca lc cc lb cb ld cd : Nat) (sa sb : List ByteArray) (va vb : List Int) (w : World)
    (hla : la ≤ 4096) (hlc : lc ≤ 4096) (hlb : lb ≤ 4096) (hld : ld ≤ 4096) (nA : A = none → ca = 0) (nC : C = none → cc = 0) (nB : B = none → cb = 0) (nD : D = none → cd = 0)
    (hA : StrsAt w A la sa) (hC : IntsAt w C lc va) (hB : StrsAt w B lb sb) (hD : IntsAt w D ld vb) :
    Calls Eftg.prog 4 #[.slice A la ca, .slice C lc cc, .slice B lb cb, .slice D ld cd] w fun e w' => e = .returned (.bool true) ∧ Below w.heap.size w w' := by
  have HA : Hid (StrsAt w A la sa ∧ (A = none → ca = 0)) := ⟨hA, nA⟩
  have HB : Hid (StrsAt w B lb sb ∧ (B = none → cb = 0)) := ⟨hB, nB⟩
  have HC : Hid (IntsAt w C lc va ∧ (C = none → cc = 0)) := ⟨hC, nC⟩
  have HD : Hid (IntsAt w D ld vb ∧ (D = none → cd = 0)) := ⟨hD, nD⟩
  have HMA : Hid (la ≤ maxLen) := by show la ≤ maxLen; unfold maxLen; omega
  have HMB : Hid (lb ≤ maxLen) := by show lb ≤ maxLen; unfold maxLen; omega
  clear hA hB hC hD nA nB nC nD
  obtain ⟨na, hna⟩ : ∃ n, n = min la lc := ⟨_, rfl⟩
  obtain ⟨nb, hnb⟩ : ∃ n, n = min lb ld := ⟨_, rfl⟩
  have a1 : na ≤ la := by omega
  have a2 : na ≤ lc := by omega
  have b1 : nb ≤ lb := by omega
  have b2 : nb ≤ ld := by omega
  have HN : Hid (na = min la lc ∧ nb = min lb ld) := ⟨hna, hnb⟩
  clear hna hnb
  go_enter Eftg.func4, Eftg.ntmps4
  go_wp2_with fail
  refine (zz13_any A B C D la ca lc cc lb cb ld cd sa sb _ HMA.out HMB.out HA.out.1 HB.out.1).mono ?_
  rintro e w0 ⟨⟨z, rfl⟩, rfl⟩
  cases z
  · go_wp2
    go_ret
    exact ⟨rfl, Below.refl _ _⟩
  go_wp2_with fail
  refine (strBytes_any A la ca sa _ HMA.out HA.out.1).mono ?_
  rintro e w0 ⟨⟨z1, rfl⟩, rfl⟩
  go_wp2_with fail
  refine (strBytes_any B lb cb sb _ HMB.out HB.out.1).mono ?_
  rintro e w0 ⟨⟨z2, rfl⟩, rfl⟩
  go_wp2_with fail
  · go_ret
    exact ⟨rfl, Below.refl _ _⟩
  refine (cloneS_any A la ca sa _ (by omega) HA.out.2 HA.out.1).mono ?_
  rintro e w1 ⟨A', ca', rfl, hA, hb1⟩
  go_wp2_with fail
  refine (cloneI_any C lc cc va _ (by omega) HC.out.2 (HC.out.1.below hb1)).mono ?_
  rintro e w2 ⟨C', cc', rfl, hC, hb2⟩
  have hb12 := Below.step hb1 hb2
  go_wp2_with fail
  refine (cloneS_any B lb cb sb _ (by omega) HB.out.2 (HB.out.1.below hb12)).mono ?_
  rintro e w3 ⟨B', cb', rfl, hB, hb3⟩
  have hb13 := Below.step hb12 hb3
  go_wp2_with fail
  refine (cloneI_any D ld cd vb _ (by omega) HD.out.2 (HD.out.1.below hb13)).mono ?_
  rintro e w4 ⟨D', cd', rfl, hD, hb4⟩
  have HB4 : Hid (Below w0.heap.size w0 w4) := Below.step hb13 hb4
  have HA4 : Hid (StrsAt w4 A' la sa) := hA.below (Below.step (Below.step hb2 hb3) hb4)
  have HC4 : Hid (IntsAt w4 C' lc va) := hC.below (Below.step hb3 hb4)
  have HB4' : Hid (StrsAt w4 B' lb sb) := hB.below hb4
  have HD4 : Hid (IntsAt w4 D' ld vb) := hD
  clear hA hC hB hD hb1 hb2 hb3 hb4 hb12 hb13 HA HB HC HD
  go_wp2_with fail
  refine (minInt_nat la lc na HN.out.1 _).mono ?_
  rintro e w5 ⟨rfl, hw5⟩
  obtain rfl : w5 = w4 := hw5
  go_wp2_with fail
  refine (minInt_nat lb ld nb HN.out.2 _).mono ?_
  rintro e w6 ⟨rfl, hw6⟩
  obtain rfl : w6 = w5 := hw6
  go_wp2_with fail
  refine (build_any A' C' la ca' lc cc' na sa va _ (by omega) a1 a2 HA4.out HC4.out).mono ?_
  rintro e w7 ⟨oa, ma, rfl, hpa, hma, hb7⟩
  have HB7 := HB4'.out.below hb7
  have HD7 := HD4.out.below hb7
  have HB07 : Hid (Below w0.heap.size w0 w7) := Below.step HB4.out hb7
  clear HA4 HC4 HB4' HD4 HB4 hb7
  go_wp2_with fail
  refine (build_any B' D' lb cb' ld cd' nb sb vb _ (by omega) b1 b2 HB7 HD7).mono ?_
  rintro e w8 ⟨ob, mb, rfl, hpb, hmb, hb8⟩
  have hpA := hpa
  have hpa8 := (hpa.below hb8).cell
  have hpb8 := hpb.cell
  have hma8 := hma.below hb8
  have HB08 : Hid (Below w0.heap.size w0 w8) := Below.step HB07.out hb8
  clear HB7 HD7 hpa hma HB07
  go_wp2_with fail
  refine (equals_29 oa ob ma mb na nb _ _ _ hpa8 hpb8 hma8 hmb).mono ?_
  rintro e w9 ⟨zab, rfl, hzab, hb9⟩
  have hpa9 := hpA.below (Below.step hb8 hb9)
  have hpb9 := hpb.below hb9
  have hma9 := hma8.below hb9
  have hmb9 := hmb.below hb9
  have HB09 : Hid (Below w0.heap.size w0 w9) := Below.step HB08.out hb9
  have hpa9c := hpa9.cell
  have hpb9c := hpb9.cell
  have HZ1 : Hid (zab = true ↔ Plain.Same (Plain.dictTo (keysOf sa) va na) (Plain.dictTo (keysOf sb) vb nb)) := hzab
  clear hpA hpb hma8 hmb hb8 hb9 HB08 hzab hpa8 hpb8
  go_wp2_with fail
  refine (equals_29 ob oa mb ma nb na _ _ _ hpb9c hpa9c hmb9 hma9).mono ?_
  rintro e w10 ⟨zba, rfl, hzba, hb10⟩
  have heq : zab = zba := Bool.eq_iff_iff.2 (HZ1.out.trans ((same_comm _ _ _ _ _ _).trans hzba.symm))
  subst heq
  have hpa10 := hpa9.below hb10
  have hpb10 := hpb9.below hb10
  have hma10 := hma9.below hb10
  have hmb10 := hmb9.below hb10
  have HB010 : Hid (Below w0.heap.size w0 w10) := Below.step HB09.out hb10
  have hpa10c := hpa10.cell
  clear hpa9 hpb9 hma9 hmb9 hpa9c hpb9c hb10 hzba HB09
  go_wp2_with fail
  refine (copy_any oa ma na _ _ (by omega) hpa10c hma10).mono ?_
  rintro e w11 ⟨oc, mc, nc, F, rfl, hpc, hmc, hsame, hb11⟩
  have hpa11 := hpa10.below hb11
  have hpb11 := hpb10.below hb11
  have hma11 := hma10.below hb11
  have hmb11 := hmb10.below hb11
  have HB011 : Hid (Below w0.heap.size w0 w11) := Below.step HB010.out hb11
  have hpa11c := hpa11.cell
  have hpc11c := hpc.cell
  have HSame : Hid (Plain.Same (Plain.dictTo (keysOf sa) va na) F) := hsame
  clear hpa10 hpb10 hma10 hmb10 hpa10c hb11 hsame HB010
  go_wp2_with fail
  refine (equals_29 oa oc ma mc na nc _ _ _ hpa11c hpc11c hma11 hmc).mono ?_
  rintro e w12 ⟨zcp, rfl, hzcp, hb12⟩
  have hcp : zcp = true := hzcp.2 HSame.out
  subst hcp
  have hpa12 := hpa11.below hb12
  have hpb12 := hpb11.below hb12
  have hma12 := hma11.below hb12
  have hmb12 := hmb11.below hb12
  have HB012 : Hid (Below w0.heap.size w0 w12) := Below.step HB011.out hb12
  have hpb12c := hpb12.cell
  have hpa12l := hpa12.lt
  clear hpa11 hpb11 hma11 hmb11 hpa11c hpc11c hpc hmc hb12 hzcp HSame HB011
  have HBA : Hid (Below w12.heap.size w12 (w12.alloc (.cells #[.map (some mb)] 42))) := (Below.refl _ _).alloc (Nat.le_refl _) _
  have HCI : Hid ((w12.alloc (.cells #[.map (some mb)] 42)).cell? ⟨w12.heap.size, 0, none⟩ = some (.map (some mb))) := by
    show (w12.alloc (.cells #[.map (some mb)] 42)).cell? ⟨w12.heap.size, 0, none⟩ = some (.map (some mb))
    rw [World.cell?_alloc_at _ _ _ _ rfl]
    rfl
  go_wp2_with fail
  refine (equals_36 oa w12.heap.size ma mb na nb _ _ _ (hpa12.below HBA.out).cell HCI.out (hma12.below HBA.out) (hmb12.below HBA.out)).mono ?_
  rintro e w13 ⟨zim, rfl, hzim, hb13⟩
  have heq2 : zab = zim := Bool.eq_iff_iff.2 (HZ1.out.trans hzim.symm)
  subst heq2
  have HB013 : Hid (Below w0.heap.size w0 w13) := Below.step (Below.step HB012.out HBA.out) hb13
  clear hpa12 hpb12 hma12 hmb12 hpb12c hpa12l HBA HCI hzim hb13 HB012 HZ1
  go_wp2_with fail
  refine (equals_array _ _ _).mono ?_
  rintro e w14 ⟨rfl, rfl⟩
  go_wp2
  go_ret
  exact ⟨rfl, HB013.out.alloc HB013.out.size _⟩

theorem law4_any (A C B D : Option Addr) (la ca lc cc lb cb ld cd : Nat) (sa sb : List ByteArray) (va vb : List Int) (w : World)
    (hla : la ≤ maxLen) (hlb : lb ≤ maxLen) (nA : A = none → ca = 0) (nC : C = none → cc = 0) (nB : B = none → cb = 0) (nD : D = none → cd = 0)
    (hA : StrsAt w A la sa) (hC : IntsAt w C lc va) (hB : StrsAt w B lb sb) (hD : IntsAt w D ld vb) :
    Calls Eftg.prog 4 #[.slice A la ca, .slice C lc cc, .slice B lb cb, .slice D ld cd] w fun e w' => e = .returned (.bool true) ∧ Below w.heap.size w w' := by
  by_cases h : la ≤ 4096 ∧ lc ≤ 4096 ∧ lb ≤ 4096 ∧ ld ≤ 4096
  · exact law4_short A C B D la ca lc cc lb cb ld cd sa sb va vb w h.1 h.2.1 h.2.2.1 h.2.2.2 nA nC nB nD hA hC hB hD
  · exact law4_long A C B D la ca lc cc lb cb ld cd sa sb w hla hlb hA hB h

end Go.Proofs.Yoeftw
