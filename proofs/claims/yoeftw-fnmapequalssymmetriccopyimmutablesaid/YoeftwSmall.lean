import Derived.Test.YoeftwChecked
import Derived.Test.YoeftwPlain
import Derived.WalkKit
import Derived.BigQuiet
import Derived.Deep.QuietTactic
namespace Go.Proofs.Yoeftw
open Go.RowKit

/-- The keys of a list of strings. -/
def keysOf (ss : List ByteArray) : List (List UInt8) := ss.map (fun s => s.data.toList)

/-- A slice of strings: its elements are ss. -/
def StrsAt (w : World) (a : Option Addr) (len : Nat) (ss : List ByteArray) : Prop :=
  ss.length = len ∧ (∀ s ∈ ss, s.size ≤ maxLen) ∧ (0 < len → ∃ b off, a = some ⟨b, off, none⟩ ∧ ∀ i, i < len → w.cell? ⟨b, off + i, none⟩ = some (.string (ss.getD i ByteArray.empty)))

/-- A slice of int64: its elements are zs. -/
def IntsAt (w : World) (a : Option Addr) (len : Nat) (zs : List Int) : Prop :=
  zs.length = len ∧ (0 < len → ∃ b off, a = some ⟨b, off, none⟩ ∧ ∀ i, i < len → w.cell? ⟨b, off + i, none⟩ = some (.int .i64 (zs.getD i 0)))

theorem ret_int {k : IntKind} {a b : Int} (h : a = b) : Ending.returned (.int k a) = .returned (.int k b) := by rw [h]
theorem ret_bool {a b : Bool} (h : a = b) : Ending.returned (.bool a) = .returned (.bool b) := by rw [h]

theorem minInt_any (x y : Int) (w : World) :
    Calls Eftg.prog 9 #[.int .i64 x, .int .i64 y] w fun e w' => e = .returned (.int .i64 (min x y)) ∧ w' = w := by
  by_cases h : x < y
  · go_enter Eftg.func9, Eftg.ntmps9
    go_wp2
    go_ret
    exact ⟨ret_int (Int.min_eq_left (by omega)).symm, rfl⟩
  · go_enter Eftg.func9, Eftg.ntmps9
    go_wp2
    go_ret
    exact ⟨ret_int (Int.min_eq_right (by omega)).symm, rfl⟩

set_option maxRecDepth 100000 in
theorem strBytes_none (a : Option Addr) (cap : Nat) (w : World) :
    Calls Eftg.prog 6 #[.slice a 0 cap] w fun e w' => (∃ z, e = .returned (.int .i64 z)) ∧ w' = w := by
  go_enter Eftg.func6, Eftg.ntmps6
  go_wp2
  refine wp_loop_rounds 1 ?_
  rw [rounds_succ]
  go_wp2
  go_ret
  exact ⟨⟨_, rfl⟩, rfl⟩

set_option maxRecDepth 100000 in
theorem strBytes_some (b off len cap : Nat) (ss : List ByteArray) (w : World) (hl : len ≤ maxLen)
    (hc : ∀ i, i < len → w.cell? ⟨b, off + i, none⟩ = some (.string (ss.getD i ByteArray.empty))) :
    Calls Eftg.prog 6 #[.slice (some ⟨b, off, none⟩) len cap] w fun e w' => (∃ z, e = .returned (.int .i64 z)) ∧ w' = w := by
  unfold maxLen at hl
  go_enter Eftg.func6, Eftg.ntmps6
  go_wp2
  go_loop [3, 4] (fun t i => ∃ k : Nat, k ≤ len ∧ i = .int .i64 k ∧ ∃ z, t = .int .i64 z) (fun _ i => len - (intOf i).toNat)
  case atStart => exact ⟨0, Nat.zero_le _, rfl, _, rfl⟩
  case round =>
    obtain ⟨k, hk, rfl, z, rfl⟩ := hrel
    have hcx : k < len → w.cell? ⟨b, off + k, none⟩ = some (.string (ss.getD k ByteArray.empty)) := fun _ => hc k (by omega)
    go_wp2
    · go_round
      case rel => exact ⟨k + 1, by omega, by go_num, _, rfl⟩
      case measure => simp [intOf]; omega
    · go_ret
      exact ⟨⟨_, rfl⟩, rfl⟩

theorem strBytes_any (a : Option Addr) (len cap : Nat) (ss : List ByteArray) (w : World) (hl : len ≤ maxLen) (hs : StrsAt w a len ss) :
    Calls Eftg.prog 6 #[.slice a len cap] w fun e w' => (∃ z, e = .returned (.int .i64 z)) ∧ w' = w := by
  rcases Nat.eq_zero_or_pos len with h0 | hp
  · subst h0
    exact strBytes_none a cap w
  · obtain ⟨_, _, h3⟩ := hs
    obtain ⟨b, off, rfl, hc⟩ := h3 hp
    exact strBytes_some b off len cap ss w hl hc


theorem key_at {ss : List ByteArray} {k : Nat} (h : k < ss.length) : (keysOf ss)[k]? = some (ss.getD k ByteArray.empty).data.toList := by
  simp [keysOf, h]

theorem lastIdx_step (ss : List ByteArray) (key : ByteArray) (k : Nat) (h : k < ss.length) :
    Plain.lastIdx (keysOf ss) key.data.toList (k + 1) = if ((ss[k]?.getD ByteArray.empty).toList == key.toList) = true then (k : Int) else Plain.lastIdx (keysOf ss) key.data.toList k := by
  rw [ByteArray.toList_eq, ByteArray.toList_eq]
  simp only [Plain.lastIdx, key_at h, Option.some.injEq, beq_iff_eq, List.getD_eq_getElem?_getD]

set_option maxRecDepth 100000 in
theorem lastOf_none (a : Option Addr) (len cap : Nat) (key : ByteArray) (w : World) :
    Calls Eftg.prog 16 #[.slice a len cap, .int .i64 0, .string key] w fun e w' => e = .returned (.int .i64 (-1)) ∧ w' = w := by
  go_enter Eftg.func16, Eftg.ntmps16
  go_wp2
  refine wp_loop_rounds 1 ?_
  rw [rounds_succ]
  go_wp2
  go_ret
  exact ⟨rfl, rfl⟩

set_option maxRecDepth 100000 in
theorem lastOf_some (b off len cap n : Nat) (key : ByteArray) (ss : List ByteArray) (w : World) (hl : len ≤ maxLen) (hn : n ≤ len) (hlen : ss.length = len)
    (hc : ∀ i, i < len → w.cell? ⟨b, off + i, none⟩ = some (.string (ss.getD i ByteArray.empty))) :
    Calls Eftg.prog 16 #[.slice (some ⟨b, off, none⟩) len cap, .int .i64 n, .string key] w fun e w' => e = .returned (.int .i64 (Plain.lastIdx (keysOf ss) key.data.toList n)) ∧ w' = w := by
  unfold maxLen at hl
  go_enter Eftg.func16, Eftg.ntmps16
  go_wp2
  go_loop [7] (fun j => ∃ k : Nat, k ≤ n ∧ j = .int .i64 ((k : Int) - 1) ∧ Plain.lastIdx (keysOf ss) key.data.toList n = Plain.lastIdx (keysOf ss) key.data.toList k) (fun j => (intOf j + 1).toNat)
  case atStart => exact ⟨n, Nat.le_refl _, rfl, rfl⟩
  case round =>
    obtain ⟨k, hk, rfl, hlast⟩ := hrel
    have HL : Hid (Plain.lastIdx (keysOf ss) key.data.toList n = Plain.lastIdx (keysOf ss) key.data.toList k) := hlast
    clear hlast
    cases k with
    | zero =>
      go_wp2
      go_ret
      exact ⟨ret_int (by rw [HL.out]; rfl), rfl⟩
    | succ k =>
      have hcx : w.cell? ⟨b, off + k, none⟩ = some (.string (ss.getD k ByteArray.empty)) := hc k (by omega)
      have e1 : (((k + 1 : Nat) : Int) - 1) = (k : Int) := by omega
      rw [e1]
      have hst := lastIdx_step ss key k (by omega)
      have HS : Hid (Plain.lastIdx (keysOf ss) key.data.toList (k + 1) = if ((ss[k]?.getD ByteArray.empty).toList == key.toList) = true then (k : Int) else Plain.lastIdx (keysOf ss) key.data.toList k) := hst
      clear hst
      go_wp2
      · go_ret
        refine ⟨ret_int ?_, rfl⟩
        rw [HL.out, HS.out, if_pos ‹_›]
      · go_round
        case rel =>
          refine ⟨k, by omega, rfl, ?_⟩
          rw [HL.out, HS.out, if_neg (by simp only [‹((ss[k]?.getD ByteArray.empty).toList == key.toList) = false›]; simp)]
        case measure => simp [intOf]

theorem lastOf_any (a : Option Addr) (len cap n : Nat) (key : ByteArray) (ss : List ByteArray) (w : World) (hl : len ≤ maxLen) (hn : n ≤ len) (hs : StrsAt w a len ss) :
    Calls Eftg.prog 16 #[.slice a len cap, .int .i64 n, .string key] w fun e w' => e = .returned (.int .i64 (Plain.lastIdx (keysOf ss) key.data.toList n)) ∧ w' = w := by
  rcases Nat.eq_zero_or_pos len with h0 | hp
  · subst h0
    obtain rfl : n = 0 := by omega
    exact lastOf_none a 0 cap key w
  · obtain ⟨h1, _, h3⟩ := hs
    obtain ⟨b, off, rfl, hc⟩ := h3 hp
    exact lastOf_some b off len cap n key ss w hl hn h1 hc

end Go.Proofs.Yoeftw
