import Derived.Test.YoeftwSmall
namespace Go.Proofs.Yoeftw
open Go.RowKit

set_option maxRecDepth 100000 in
theorem count_none (a : Option Addr) (len cap : Nat) (w : World) :
    Calls Eftg.prog 15 #[.slice a len cap, .int .i64 0] w fun e w' => e = .returned (.int .i64 0) ∧ w' = w := by
  go_enter Eftg.func15, Eftg.ntmps15
  go_wp2
  refine wp_loop_rounds 1 ?_
  rw [rounds_succ]
  go_wp2
  go_ret
  exact ⟨rfl, rfl⟩

theorem count_hit {ss : List ByteArray} {n k : Nat} {s : ByteArray} (hk : k < ss.length) (hs : s = ss.getD k ByteArray.empty) (h : (Plain.lastIdx (keysOf ss) s.data.toList n == (k : Int)) = true) :
    ((Plain.countTo (keysOf ss) n k : Nat) : Int) + 1 = ((Plain.countTo (keysOf ss) n (k + 1) : Nat) : Int) := by
  subst hs
  have e : Plain.isLast (keysOf ss) n k = true := by rw [Plain.isLast_of (key_at hk)]; simpa using h
  simp [Plain.countTo, e]

theorem count_miss {ss : List ByteArray} {n k : Nat} {s : ByteArray} (hk : k < ss.length) (hs : s = ss.getD k ByteArray.empty) (h : (Plain.lastIdx (keysOf ss) s.data.toList n == (k : Int)) = false) :
    ((Plain.countTo (keysOf ss) n k : Nat) : Int) = ((Plain.countTo (keysOf ss) n (k + 1) : Nat) : Int) := by
  subst hs
  have e : Plain.isLast (keysOf ss) n k = false := by rw [Plain.isLast_of (key_at hk)]; simpa using h
  simp [Plain.countTo, e]

set_option maxRecDepth 100000 in
theorem count_some (b off len cap n : Nat) (ss : List ByteArray) (w : World) (hl : len ≤ maxLen) (hn : n ≤ len) (hlen : ss.length = len)
    (hc : ∀ i, i < len → w.cell? ⟨b, off + i, none⟩ = some (.string (ss.getD i ByteArray.empty))) :
    Calls Eftg.prog 15 #[.slice (some ⟨b, off, none⟩) len cap, .int .i64 n] w fun e w' => e = .returned (.int .i64 (Plain.countTo (keysOf ss) n n)) ∧ w' = w := by
  have hl' := hl
  unfold maxLen at hl'
  have HC : Hid (∀ i, i < len → w.cell? ⟨b, off + i, none⟩ = some (.string (ss.getD i ByteArray.empty))) := hc
  have HL : Hid (ss.length = len) := hlen
  clear hc hlen
  go_enter Eftg.func15, Eftg.ntmps15
  go_wp2
  go_loop [5, 6] (fun c i => ∃ k : Nat, k ≤ n ∧ i = .int .i64 k ∧ c = .int .i64 (Plain.countTo (keysOf ss) n k)) (fun _ i => n - (intOf i).toNat)
  case atStart => exact ⟨0, Nat.zero_le _, rfl, rfl⟩
  case round =>
    obtain ⟨k, hk, rfl, rfl⟩ := hrel
    have hcl := Plain.countTo_le (keysOf ss) n k
    by_cases hlt : k < n
    · obtain ⟨s, hs⟩ : ∃ s, s = ss.getD k ByteArray.empty := ⟨_, rfl⟩
      have hcx : w.cell? ⟨b, off + k, none⟩ = some (.string s) := by rw [hs]; exact HC.out k (by omega)
      have HS : Hid (s = ss.getD k ByteArray.empty) := hs
      clear hs
      go_wp2_with (go_at_call 16; refine (lastOf_some b off len cap n s ss _ hl hn HL.out HC.out).mono ?_; rintro e w' ⟨rfl, rfl⟩)
      · go_round
        case rel => exact ⟨k + 1, by omega, by go_num, congrArg (Value.int .i64) (count_hit (by rw [HL.out]; omega) HS.out ‹_›)⟩
        case measure => simp [intOf]; omega
      · go_round
        case rel => exact ⟨k + 1, by omega, by go_num, congrArg (Value.int .i64) (count_miss (by rw [HL.out]; omega) HS.out ‹_›)⟩
        case measure => simp [intOf]; omega
    · obtain rfl : k = n := by omega
      go_wp2
      go_ret
      exact ⟨rfl, rfl⟩

theorem count_any (a : Option Addr) (len cap n : Nat) (ss : List ByteArray) (w : World) (hl : len ≤ maxLen) (hn : n ≤ len) (hs : StrsAt w a len ss) :
    Calls Eftg.prog 15 #[.slice a len cap, .int .i64 n] w fun e w' => e = .returned (.int .i64 (Plain.countTo (keysOf ss) n n)) ∧ w' = w := by
  rcases Nat.eq_zero_or_pos len with h0 | hp
  · subst h0
    obtain rfl : n = 0 := by omega
    exact count_none a 0 cap w
  · obtain ⟨h1, _, h3⟩ := hs
    obtain ⟨b, off, rfl, hc⟩ := h3 hp
    exact count_some b off len cap n ss w hl hn h1 hc

end Go.Proofs.Yoeftw
