/-
  modelEqual (function 12).
-/
import Derived.Test.YoeftwCount
import Derived.Test.YoeftwBuild
import Derived.WalkSmall
namespace Go.Proofs.Yoeftw
open Go.RowKit

/-- What modelEqual leaves. -/
def MdAns (w w' : World) (sa : List ByteArray) (va : List Int) (na : Nat) (sb : List ByteArray) (vb : List Int) (nb : Nat) (e : Ending) : Prop :=
  ∃ z, e = .returned (.bool z) ∧ (z = true ↔ (Plain.countTo (keysOf sa) na na = Plain.countTo (keysOf sb) nb nb ∧ Plain.ModelTo (keysOf sa) va na (keysOf sb) vb nb na)) ∧ ∃ n, w' = w.drewN n

theorem md_len {w : World} {sa : List ByteArray} {va : List Int} {na : Nat} {sb : List ByteArray} {vb : List Int} {nb : Nat} (h : ¬ Plain.countTo (keysOf sa) na na = Plain.countTo (keysOf sb) nb nb) : MdAns w w sa va na sb vb nb (.returned (.bool false)) :=
  ⟨false, rfl, ⟨fun h => (by cases h), fun h' => absurd h'.1 h⟩, 0, rfl⟩

theorem md_yes {w : World} {sa : List ByteArray} {va : List Int} {na : Nat} {sb : List ByteArray} {vb : List Int} {nb : Nat} (h : Plain.countTo (keysOf sa) na na = Plain.countTo (keysOf sb) nb nb)
    (hm : Plain.ModelTo (keysOf sa) va na (keysOf sb) vb nb na) (n : Nat) : MdAns w (w.drewN n) sa va na sb vb nb (.returned (.bool true)) :=
  ⟨true, rfl, ⟨fun _ => ⟨h, hm⟩, fun _ => rfl⟩, n, rfl⟩

theorem md_absent {w : World} {sa : List ByteArray} {va : List Int} {na : Nat} {sb : List ByteArray} {vb : List Int} {nb k : Nat} {s : ByteArray} (hk : k < na) (hl : k < sa.length) (hs : s = sa.getD k ByteArray.empty)
    (h1 : Plain.lastIdx (keysOf sa) s.data.toList na = (k : Int)) (h2 : Plain.lastIdx (keysOf sb) s.data.toList nb = -1) (n n' : Nat) : MdAns w ((w.drewN n).drewN n') sa va na sb vb nb (.returned (.bool false)) := by
  refine ⟨false, rfl, ⟨fun h => (by cases h), fun h => ?_⟩, n + n', by simp⟩
  obtain ⟨j, hj, _⟩ := h.2 k hk _ (key_get hl hs) h1
  rw [h2] at hj
  omega

theorem md_differ {w : World} {sa : List ByteArray} {va : List Int} {na : Nat} {sb : List ByteArray} {vb : List Int} {nb k m : Nat} {s : ByteArray} (hk : k < na) (hl : k < sa.length) (hs : s = sa.getD k ByteArray.empty)
    (h1 : Plain.lastIdx (keysOf sa) s.data.toList na = (k : Int)) (h2 : Plain.lastIdx (keysOf sb) s.data.toList nb = (m : Int)) (h3 : ¬ vb.getD m 0 = va.getD k 0) (n n' : Nat) : MdAns w ((w.drewN n).drewN n') sa va na sb vb nb (.returned (.bool false)) := by
  refine ⟨false, rfl, ⟨fun h => (by cases h), fun h => ?_⟩, n + n', by simp⟩
  obtain ⟨j, hj, hv⟩ := h.2 k hk _ (key_get hl hs) h1
  rw [h2] at hj
  have : j = m := by omega
  subst this
  exact absurd hv h3

theorem model_skip {sa : List ByteArray} {va : List Int} {na : Nat} {sb : List ByteArray} {vb : List Int} {nb k : Nat} {s : ByteArray} (hm : Plain.ModelTo (keysOf sa) va na (keysOf sb) vb nb k) (hl : k < sa.length) (hs : s = sa.getD k ByteArray.empty)
    (h1 : ¬ Plain.lastIdx (keysOf sa) s.data.toList na = (k : Int)) : Plain.ModelTo (keysOf sa) va na (keysOf sb) vb nb (k + 1) := by
  intro i hi key hkey hli
  by_cases e : i = k
  · subst e
    rw [key_get hl hs] at hkey
    rw [← Option.some.inj hkey] at hli
    exact absurd hli h1
  · exact hm i (by omega) key hkey hli

theorem model_same {sa : List ByteArray} {va : List Int} {na : Nat} {sb : List ByteArray} {vb : List Int} {nb k m : Nat} {s : ByteArray} (hm : Plain.ModelTo (keysOf sa) va na (keysOf sb) vb nb k) (hl : k < sa.length) (hs : s = sa.getD k ByteArray.empty)
    (h2 : Plain.lastIdx (keysOf sb) s.data.toList nb = (m : Int)) (h3 : vb.getD m 0 = va.getD k 0) : Plain.ModelTo (keysOf sa) va na (keysOf sb) vb nb (k + 1) := by
  intro i hi key hkey hli
  by_cases e : i = k
  · subst e
    rw [key_get hl hs] at hkey
    rw [← Option.some.inj hkey]
    exact ⟨m, h2, h3⟩
  · exact hm i (by omega) key hkey hli

/-- lastOf, its answer under a name. -/
theorem lastOf_at (a : Option Addr) (len cap n : Nat) (key : ByteArray) (ss : List ByteArray) (w : World) (hl : len ≤ maxLen) (hn : n ≤ len) (hs : StrsAt w a len ss) {L : Int} (hL : Plain.lastIdx (keysOf ss) key.data.toList n = L) :
    Calls Eftg.prog 16 #[.slice a len cap, .int .i64 n, .string key] w fun e w' => e = .returned (.int .i64 L) ∧ w' = w := by
  rw [← hL]
  exact lastOf_any a len cap n key ss w hl hn hs

theorem count_at (a : Option Addr) (len cap n : Nat) (ss : List ByteArray) (w : World) (hl : len ≤ maxLen) (hn : n ≤ len) (hs : StrsAt w a len ss) {c : Nat} (hc : Plain.countTo (keysOf ss) n n = c) :
    Calls Eftg.prog 15 #[.slice a len cap, .int .i64 n] w fun e w' => e = .returned (.int .i64 c) ∧ w' = w := by
  rw [← hc]
  exact count_any a len cap n ss w hl hn hs

theorem strs_drewN {w : World} {a : Option Addr} {len : Nat} {ss : List ByteArray} (h : StrsAt w a len ss) (n : Nat) : StrsAt (w.drewN n) a len ss := h

set_option maxRecDepth 100000 in
set_option maxHeartbeats 4000000 in
theorem model_core (A C B D : Option Addr) (la ca lc cc lb cb ld cd na nb ba oa bc oc bd od : Nat) (sa : List ByteArray) (va : List Int) (sb : List ByteArray) (vb : List Int) (w : World)
    (hla : la ≤ 1048576) (hlb : lb ≤ 1048576) (hna : na ≤ la) (hnc : na ≤ lc) (hnb : nb ≤ lb) (hnd : nb ≤ ld) (hlc : lc ≤ 1048576) (_hld : ld ≤ 1048576)
    (hA : na ≤ 0 ∨ (A = some ⟨ba, oa, none⟩ ∧ C = some ⟨bc, oc, none⟩)) (hD : nb ≤ 0 ∨ D = some ⟨bd, od, none⟩)
    (hsa : StrsAt w A la sa) (hsb : StrsAt w B lb sb)
    (hca : ∀ i, i < na → w.cell? ⟨ba, oa + i, none⟩ = some (.string (sa.getD i ByteArray.empty)))
    (hcc : ∀ i, i < na → w.cell? ⟨bc, oc + i, none⟩ = some (.int .i64 (va.getD i 0)))
    (hcd : ∀ i, i < nb → w.cell? ⟨bd, od + i, none⟩ = some (.int .i64 (vb.getD i 0))) :
    Calls Eftg.prog 12 #[.slice A la ca, .slice C lc cc, .int .i64 na, .slice B lb cb, .slice D ld cd, .int .i64 nb] w fun e w' => MdAns w w' sa va na sb vb nb e := by
  have HA : Hid (∀ i, i < na → w.cell? ⟨ba, oa + i, none⟩ = some (.string (sa.getD i ByteArray.empty))) := hca
  have HC : Hid (∀ i, i < na → w.cell? ⟨bc, oc + i, none⟩ = some (.int .i64 (va.getD i 0))) := hcc
  have HD : Hid (∀ i, i < nb → w.cell? ⟨bd, od + i, none⟩ = some (.int .i64 (vb.getD i 0))) := hcd
  have HSA : Hid (StrsAt w A la sa) := hsa
  have HSB : Hid (StrsAt w B lb sb) := hsb
  have HMA : Hid (la ≤ maxLen) := by show la ≤ maxLen; unfold maxLen; omega
  have HMB : Hid (lb ≤ maxLen) := by show lb ≤ maxLen; unfold maxLen; omega
  clear hca hcc hcd hsa hsb
  obtain ⟨cA, hcA⟩ : ∃ c, Plain.countTo (keysOf sa) na na = c := ⟨_, rfl⟩
  obtain ⟨cB, hcB⟩ : ∃ c, Plain.countTo (keysOf sb) nb nb = c := ⟨_, rfl⟩
  have HcA : Hid (Plain.countTo (keysOf sa) na na = cA) := hcA
  have HcB : Hid (Plain.countTo (keysOf sb) nb nb = cB) := hcB
  clear hcA hcB
  by_cases hlen : cA = cB
  · have hq : ((cA : Int) != (cB : Int)) = false := by rw [hlen]; simp
    have HL : Hid (cA = cB) := hlen
    clear hlen
    rcases hA with hA0 | ⟨rfl, rfl⟩ <;> rcases hD with hD0 | rfl
    all_goals
      go_enter Eftg.func12, Eftg.ntmps12
      go_wp2_with fail
      refine (count_at _ la ca na sa _ HMA.out hna HSA.out HcA.out).mono ?_
      rintro e w' ⟨rfl, rfl⟩
      go_wp2_with fail
      refine (count_at _ lb cb nb sb _ HMB.out hnb HSB.out HcB.out).mono ?_
      rintro e w ⟨rfl, rfl⟩
      go_wp2_with fail
      clear hq
      go_loopw [13] (fun i wr => ∃ k : Nat, k ≤ na ∧ i = .int .i64 k ∧ Plain.ModelTo (keysOf sa) va na (keysOf sb) vb nb k ∧ ∃ nd, wr = w.drewN nd) (fun i _ => na - (intOf i).toNat)
      case atStart => exact ⟨0, Nat.zero_le _, rfl, fun i hi => absurd hi (Nat.not_lt_zero _), 0, rfl⟩
      case round =>
        obtain ⟨k, hk, rfl, hm, nd, rfl⟩ := hrel
        have HM : Hid (Plain.ModelTo (keysOf sa) va na (keysOf sb) vb nb k) := hm
        clear hm
        by_cases hlt : k < na
        · first
          | (exfalso; omega)
          | (obtain ⟨s, hs⟩ : ∃ s, s = sa.getD k ByteArray.empty := ⟨_, rfl⟩
             have c1 : w.cell? ⟨ba, oa + k, none⟩ = some (.string s) := by rw [hs]; exact HA.out k hlt
             have c2 : w.cell? ⟨bc, oc + k, none⟩ = some (.int .i64 (va.getD k 0)) := HC.out k hlt
             have HS : Hid (s = sa.getD k ByteArray.empty) := hs
             have HKL : Hid (k < sa.length) := by show k < sa.length; rw [HSA.out.1]; omega
             clear hs
             by_cases h1 : Plain.lastIdx (keysOf sa) s.data.toList na = (k : Int)
             · have H1 : Hid (Plain.lastIdx (keysOf sa) s.data.toList na = (k : Int)) := h1
               clear h1
               have q1 : ((k : Int) != (k : Int)) = false := by simp
               by_cases h2 : Plain.lastIdx (keysOf sb) s.data.toList nb = -1
               · have H2 : Hid (Plain.lastIdx (keysOf sb) s.data.toList nb = -1) := h2
                 clear h2
                 go_wp2_with fail
                 refine (lastOf_at _ la ca na s sa _ HMA.out hna (strs_drewN HSA.out nd) H1.out).mono ?_
                 rintro e w' ⟨rfl, rfl⟩
                 go_wp2_with fail
                 refine (lastOf_at _ lb cb nb s sb _ HMB.out hnb (strs_drewN HSB.out nd) H2.out).mono ?_
                 rintro e w' ⟨rfl, rfl⟩
                 go_wp2_with fail
                 go_quiet (fail)
                 go_wp2
                 go_ret
                 exact md_absent hlt HKL.out HS.out H1.out H2.out _ _
               · obtain ⟨m, hm, hmn⟩ : ∃ m : Nat, Plain.lastIdx (keysOf sb) s.data.toList nb = (m : Int) ∧ m < nb := by
                   have hb := Plain.lastIdx_lt (keysOf sb) s.data.toList nb
                   exact ⟨(Plain.lastIdx (keysOf sb) s.data.toList nb).toNat, by omega, by omega⟩
                 have H2 : Hid (Plain.lastIdx (keysOf sb) s.data.toList nb = (m : Int)) := hm
                 clear hm h2
                 first
                 | (exfalso; omega)
                 | (have c3 : w.cell? ⟨bd, od + m, none⟩ = some (.int .i64 (vb.getD m 0)) := HD.out m hmn
                    have hd : decide ((m : Int) < 0) = false := by simp
                    have j1 : (0 : Int) ≤ (m : Int) := by omega
                    have j2 : (m : Int) < (ld : Int) := by omega
                    have j3 : (0 : Int) ≤ (k : Int) := by omega
                    have j4 : (k : Int) < (lc : Int) := by omega
                    generalize hx : va.getD k 0 = x at *
                    generalize hz : vb.getD m 0 = z at *
                    have HX : Hid (va.getD k 0 = x) := hx
                    have HZ : Hid (vb.getD m 0 = z) := hz
                    clear hx hz
                    by_cases h3 : z = x
                    · have q3 : (z != x) = false := by simp [h3]
                      have H3 : Hid (z = x) := h3
                      clear h3
                      go_wp2_with fail
                      refine (lastOf_at _ la ca na s sa _ HMA.out hna (strs_drewN HSA.out nd) H1.out).mono ?_
                      rintro e w' ⟨rfl, rfl⟩
                      go_wp2_with fail
                      refine (lastOf_at _ lb cb nb s sb _ HMB.out hnb (strs_drewN HSB.out nd) H2.out).mono ?_
                      rintro e w' ⟨rfl, rfl⟩
                      go_wp2_with fail
                      go_quiet (fail)
                      go_wp2
                      go_roundw
                      case rel => exact ⟨k + 1, by omega, by go_num, model_same HM.out HKL.out HS.out H2.out (by rw [HX.out, HZ.out]; exact H3.out), _, rfl⟩
                      case measure => simp [intOf]; omega
                    · have q3 : (z != x) = true := by simp [h3]
                      have H3 : Hid (¬ z = x) := h3
                      clear h3
                      go_wp2_with fail
                      refine (lastOf_at _ la ca na s sa _ HMA.out hna (strs_drewN HSA.out nd) H1.out).mono ?_
                      rintro e w' ⟨rfl, rfl⟩
                      go_wp2_with fail
                      refine (lastOf_at _ lb cb nb s sb _ HMB.out hnb (strs_drewN HSB.out nd) H2.out).mono ?_
                      rintro e w' ⟨rfl, rfl⟩
                      go_wp2_with fail
                      go_quiet (fail)
                      go_wp2
                      go_ret
                      exact md_differ hlt HKL.out HS.out H1.out H2.out (by rw [HX.out, HZ.out]; exact H3.out) _ _)
             · obtain ⟨L, hL⟩ : ∃ L, Plain.lastIdx (keysOf sa) s.data.toList na = L := ⟨_, rfl⟩
               have H1 : Hid (¬ Plain.lastIdx (keysOf sa) s.data.toList na = (k : Int)) := h1
               have q1 : (L != (k : Int)) = true := by rw [← hL]; simp [h1]
               have HLL : Hid (Plain.lastIdx (keysOf sa) s.data.toList na = L) := hL
               clear h1 hL
               go_wp2_with fail
               refine (lastOf_at _ la ca na s sa _ HMA.out hna (strs_drewN HSA.out nd) HLL.out).mono ?_
               rintro e w' ⟨rfl, rfl⟩
               go_wp2
               go_roundw
               case rel => exact ⟨k + 1, by omega, by go_num, model_skip HM.out HKL.out HS.out H1.out, _, rfl⟩
               case measure => simp [intOf]; omega)
        · obtain rfl : k = na := by omega
          go_wp2
          go_ret
          exact md_yes (by rw [HcA.out, HcB.out]; exact HL.out) HM.out _
  · have hq : ((cA : Int) != (cB : Int)) = true := by simp; omega
    have HL : Hid (¬ cA = cB) := hlen
    clear hlen
    go_enter Eftg.func12, Eftg.ntmps12
    go_wp2_with fail
    refine (count_at _ la ca na sa _ HMA.out hna HSA.out HcA.out).mono ?_
    rintro e w' ⟨rfl, rfl⟩
    go_wp2_with fail
    refine (count_at _ lb cb nb sb _ HMB.out hnb HSB.out HcB.out).mono ?_
    rintro e w'' ⟨rfl, rfl⟩
    go_wp2
    go_ret
    exact md_len (by rw [HcA.out, HcB.out]; exact HL.out)

theorem model_any (A C B D : Option Addr) (la ca lc cc lb cb ld cd na nb : Nat) (sa : List ByteArray) (va : List Int) (sb : List ByteArray) (vb : List Int) (w : World)
    (hla : la ≤ 1048576) (hlc : lc ≤ 1048576) (hlb : lb ≤ 1048576) (hld : ld ≤ 1048576) (hna : na ≤ la) (hnc : na ≤ lc) (hnb : nb ≤ lb) (hnd : nb ≤ ld)
    (hA : StrsAt w A la sa) (hC : IntsAt w C lc va) (hB : StrsAt w B lb sb) (hD : IntsAt w D ld vb) :
    Calls Eftg.prog 12 #[.slice A la ca, .slice C lc cc, .int .i64 na, .slice B lb cb, .slice D ld cd, .int .i64 nb] w fun e w' => MdAns w w' sa va na sb vb nb e := by
  obtain ⟨ba, oa, a1, a2⟩ := strs_view hA
  obtain ⟨bc, oc, c1, c2⟩ := ints_view hC
  obtain ⟨bd, od, d1, d2⟩ := ints_view hD
  refine model_core A C B D la ca lc cc lb cb ld cd na nb ba oa bc oc bd od sa va sb vb w hla hlb hna hnc hnb hnd hlc hld ?_ ?_ hA hB (fun i hi => a2 i (by omega)) (fun i hi => c2 i (by omega)) (fun i hi => d2 i (by omega))
  · rcases a1 with a1 | a1
    · exact Or.inl (by omega)
    · rcases c1 with c1 | c1
      · exact Or.inl (by omega)
      · exact Or.inr ⟨a1, c1⟩
  · rcases d1 with d1 | d1
    · exact Or.inl (by omega)
    · exact Or.inr d1

end Go.Proofs.Yoeftw
