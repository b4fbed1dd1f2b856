/-
  'zzBytes_..' (functions 5 and 13, one text): it answers some bool and turns nothing.
-/
import Derived.Test.YoeftwSmall
namespace Go.Proofs.Yoeftw
open Go.RowKit

/-- The call has answered some bool. -/
def SomeBool (e : Ending) : Prop := ∃ z, e = .returned (.bool z)

theorem strs_view {w : World} {a : Option Addr} {len : Nat} {ss : List ByteArray} (h : StrsAt w a len ss) :
    ∃ b off : Nat, (len ≤ 0 ∨ a = some ⟨b, off, none⟩) ∧ ∀ i, i < len → w.cell? ⟨b, off + i, none⟩ = some (.string (ss.getD i ByteArray.empty)) := by
  obtain ⟨_, _, h3⟩ := h
  rcases Nat.eq_zero_or_pos len with h0 | hp
  · subst h0
    exact ⟨0, 0, Or.inl (Nat.le_refl _), fun i hi => absurd hi (by omega)⟩
  · obtain ⟨b, off, ha, hc⟩ := h3 hp
    exact ⟨b, off, Or.inr ha, hc⟩

set_option maxRecDepth 100000 in
set_option maxHeartbeats 4000000 in
theorem zz5_core (A B a1 a3 : Option Addr) (la ca l1 c1 lb cb l3 c3 ba oa bb ob : Nat) (sa sb : List ByteArray) (w : World)
    (hla : la ≤ 9223372036854775807) (hlb : lb ≤ 9223372036854775807)
    (hA : la ≤ 0 ∨ A = some ⟨ba, oa, none⟩) (hB : lb ≤ 0 ∨ B = some ⟨bb, ob, none⟩)
    (hca : ∀ i, i < la → w.cell? ⟨ba, oa + i, none⟩ = some (.string (sa.getD i ByteArray.empty)))
    (hcb : ∀ i, i < lb → w.cell? ⟨bb, ob + i, none⟩ = some (.string (sb.getD i ByteArray.empty))) :
    Calls Eftg.prog 5 #[.slice A la ca, .slice a1 l1 c1, .slice B lb cb, .slice a3 l3 c3] w fun e w' => SomeBool e ∧ w' = w := by
  have HA : Hid (∀ i, i < la → w.cell? ⟨ba, oa + i, none⟩ = some (.string (sa.getD i ByteArray.empty))) := hca
  have HB : Hid (∀ i, i < lb → w.cell? ⟨bb, ob + i, none⟩ = some (.string (sb.getD i ByteArray.empty))) := hcb
  clear hca hcb
  rcases hA with hA0 | rfl <;> rcases hB with hB0 | rfl
  all_goals
    go_enter Eftg.func5, Eftg.ntmps5
    go_wp2
    all_goals first
      | (go_ret; exact ⟨⟨_, rfl⟩, rfl⟩)
      | skip
    go_loop [9, 10] (fun t i => ∃ k : Nat, k ≤ la ∧ i = .int .i64 k ∧ ∃ z, t = .int .i64 z) (fun _ i => la - (intOf i).toNat)
    case atStart => exact ⟨0, Nat.zero_le _, rfl, _, rfl⟩
    case round =>
      obtain ⟨k, hk, rfl, z, rfl⟩ := hrel
      have hcx : k < la → w.cell? ⟨ba, oa + k, none⟩ = some (.string (sa.getD k ByteArray.empty)) := fun h => HA.out k h
      go_wp2
      all_goals first
        | (go_ret; exact ⟨⟨_, rfl⟩, rfl⟩)
        | (go_round
           case rel => exact ⟨k + 1, by omega, by go_num, _, rfl⟩
           case measure => simp [intOf]; omega)
        | skip
      go_loop [9, 11] (fun t i => ∃ m : Nat, m ≤ lb ∧ i = .int .i64 m ∧ ∃ z, t = .int .i64 z) (fun _ i => lb - (intOf i).toNat)
      case atStart => exact ⟨0, Nat.zero_le _, rfl, _, rfl⟩
      case round =>
        obtain ⟨m, hm, rfl, z, rfl⟩ := hrel
        have hcy : m < lb → w.cell? ⟨bb, ob + m, none⟩ = some (.string (sb.getD m ByteArray.empty)) := fun h => HB.out m h
        go_wp2
        all_goals first
          | (go_ret; exact ⟨⟨_, rfl⟩, rfl⟩)
          | (go_round
             case rel => exact ⟨m + 1, by omega, by go_num, _, rfl⟩
             case measure => simp [intOf]; omega)

theorem zz5_any (A B a1 a3 : Option Addr) (la ca l1 c1 lb cb l3 c3 : Nat) (sa sb : List ByteArray) (w : World) (hla : la ≤ maxLen) (hlb : lb ≤ maxLen) (hA : StrsAt w A la sa) (hB : StrsAt w B lb sb) :
    Calls Eftg.prog 5 #[.slice A la ca, .slice a1 l1 c1, .slice B lb cb, .slice a3 l3 c3] w fun e w' => SomeBool e ∧ w' = w := by
  obtain ⟨ba, oa, h1, h2⟩ := strs_view hA
  obtain ⟨bb, ob, h3, h4⟩ := strs_view hB
  exact zz5_core A B a1 a3 la ca l1 c1 lb cb l3 c3 ba oa bb ob sa sb w hla hlb h1 h3 h2 h4

set_option maxRecDepth 100000 in
set_option maxHeartbeats 4000000 in
theorem zz13_core (A B a1 a3 : Option Addr) (la ca l1 c1 lb cb l3 c3 ba oa bb ob : Nat) (sa sb : List ByteArray) (w : World)
    (hla : la ≤ 9223372036854775807) (hlb : lb ≤ 9223372036854775807)
    (hA : la ≤ 0 ∨ A = some ⟨ba, oa, none⟩) (hB : lb ≤ 0 ∨ B = some ⟨bb, ob, none⟩)
    (hca : ∀ i, i < la → w.cell? ⟨ba, oa + i, none⟩ = some (.string (sa.getD i ByteArray.empty)))
    (hcb : ∀ i, i < lb → w.cell? ⟨bb, ob + i, none⟩ = some (.string (sb.getD i ByteArray.empty))) :
    Calls Eftg.prog 13 #[.slice A la ca, .slice a1 l1 c1, .slice B lb cb, .slice a3 l3 c3] w fun e w' => SomeBool e ∧ w' = w := by
  have HA : Hid (∀ i, i < la → w.cell? ⟨ba, oa + i, none⟩ = some (.string (sa.getD i ByteArray.empty))) := hca
  have HB : Hid (∀ i, i < lb → w.cell? ⟨bb, ob + i, none⟩ = some (.string (sb.getD i ByteArray.empty))) := hcb
  clear hca hcb
  rcases hA with hA0 | rfl <;> rcases hB with hB0 | rfl
  all_goals
    go_enter Eftg.func13, Eftg.ntmps13
    go_wp2
    all_goals first
      | (go_ret; exact ⟨⟨_, rfl⟩, rfl⟩)
      | skip
    go_loop [9, 10] (fun t i => ∃ k : Nat, k ≤ la ∧ i = .int .i64 k ∧ ∃ z, t = .int .i64 z) (fun _ i => la - (intOf i).toNat)
    case atStart => exact ⟨0, Nat.zero_le _, rfl, _, rfl⟩
    case round =>
      obtain ⟨k, hk, rfl, z, rfl⟩ := hrel
      have hcx : k < la → w.cell? ⟨ba, oa + k, none⟩ = some (.string (sa.getD k ByteArray.empty)) := fun h => HA.out k h
      go_wp2
      all_goals first
        | (go_ret; exact ⟨⟨_, rfl⟩, rfl⟩)
        | (go_round
           case rel => exact ⟨k + 1, by omega, by go_num, _, rfl⟩
           case measure => simp [intOf]; omega)
        | skip
      go_loop [9, 11] (fun t i => ∃ m : Nat, m ≤ lb ∧ i = .int .i64 m ∧ ∃ z, t = .int .i64 z) (fun _ i => lb - (intOf i).toNat)
      case atStart => exact ⟨0, Nat.zero_le _, rfl, _, rfl⟩
      case round =>
        obtain ⟨m, hm, rfl, z, rfl⟩ := hrel
        have hcy : m < lb → w.cell? ⟨bb, ob + m, none⟩ = some (.string (sb.getD m ByteArray.empty)) := fun h => HB.out m h
        go_wp2
        all_goals first
          | (go_ret; exact ⟨⟨_, rfl⟩, rfl⟩)
          | (go_round
             case rel => exact ⟨m + 1, by omega, by go_num, _, rfl⟩
             case measure => simp [intOf]; omega)

theorem zz13_any (A B a1 a3 : Option Addr) (la ca l1 c1 lb cb l3 c3 : Nat) (sa sb : List ByteArray) (w : World) (hla : la ≤ maxLen) (hlb : lb ≤ maxLen) (hA : StrsAt w A la sa) (hB : StrsAt w B lb sb) :
    Calls Eftg.prog 13 #[.slice A la ca, .slice a1 l1 c1, .slice B lb cb, .slice a3 l3 c3] w fun e w' => SomeBool e ∧ w' = w := by
  obtain ⟨ba, oa, h1, h2⟩ := strs_view hA
  obtain ⟨bb, ob, h3, h4⟩ := strs_view hB
  exact zz13_core A B a1 a3 la ca l1 c1 lb cb l3 c3 ba oa bb ob sa sb w hla hlb h1 h3 h2 h4

end Go.Proofs.Yoeftw
