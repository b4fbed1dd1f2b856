/-
  cloneS, cloneI (functions 7 and 8): a new slice with the same elements; nothing that was there turns.
-/
import Derived.Test.YoeftwZz
import Derived.Deep.OwnRows
import Derived.WalkSpells
namespace Go.Proofs.Yoeftw
open Go.RowKit

theorem Eftg.info9 : (Eftg.prog.info? 9).map (fun i => (i.zero, i.size, i.bytes)) = some (some (.string ByteArray.empty), 1, 16) := by kernel_rfl
theorem Eftg.info2 : (Eftg.prog.info? 2).map (fun i => (i.zero, i.size, i.bytes)) = some (some (.int .i64 0), 1, 8) := by kernel_rfl

/-- What a clone of a []string leaves. -/
def ClonedS (w w' : World) (len : Nat) (ss : List ByteArray) (e : Ending) : Prop := ∃ a' c', e = .returned (.slice a' len c') ∧ StrsAt w' a' len ss ∧ Below w.heap.size w w'
/-- What a clone of a []int64 leaves. -/
def ClonedI (w w' : World) (len : Nat) (zs : List Int) (e : Ending) : Prop := ∃ a' c', e = .returned (.slice a' len c') ∧ IntsAt w' a' len zs ∧ Below w.heap.size w w'

theorem ints_view {w : World} {a : Option Addr} {len : Nat} {zs : List Int} (h : IntsAt w a len zs) :
    ∃ b off : Nat, (len ≤ 0 ∨ a = some ⟨b, off, none⟩) ∧ ∀ i, i < len → w.cell? ⟨b, off + i, none⟩ = some (.int .i64 (zs.getD i 0)) := by
  obtain ⟨_, h3⟩ := h
  rcases Nat.eq_zero_or_pos len with h0 | hp
  · subst h0
    exact ⟨0, 0, Or.inl (Nat.le_refl _), fun i hi => absurd hi (by omega)⟩
  · obtain ⟨b, off, ha, hc⟩ := h3 hp
    exact ⟨b, off, Or.inr ha, hc⟩

theorem strs_of_row {w : World} {B len : Nat} {ss : List ByteArray} (h1 : ss.length = len) (h2 : ∀ s ∈ ss, s.size ≤ maxLen) (hr : w.rowIs B 9 len (fun j => .string (ss.getD j ByteArray.empty))) : StrsAt w (some ⟨B, 0, none⟩) len ss :=
  ⟨h1, h2, fun _ => ⟨B, 0, rfl, fun i hi => by rw [Nat.zero_add]; exact hr.cell hi⟩⟩
theorem ints_of_row {w : World} {B len : Nat} {zs : List Int} (h1 : zs.length = len) (hr : w.rowIs B 2 len (fun j => .int .i64 (zs.getD j 0))) : IntsAt w (some ⟨B, 0, none⟩) len zs :=
  ⟨h1, fun _ => ⟨B, 0, rfl, fun i hi => by rw [Nat.zero_add]; exact hr.cell hi⟩⟩

/-- The row after k rounds. -/
def half (f : Nat → Value) (z : Value) (k j : Nat) : Value := if j < k then f j else z

theorem half_start {w : World} {B t n : Nat} {f : Nat → Value} {z : Value} (h : w.rowIs B t n (fun _ => z)) : w.rowIs B t n (half f z 0) := h.congr (fun i _ => by simp [half])
theorem half_step {w : World} {B t n k : Nat} {f : Nat → Value} {z v : Value} (h : w.rowIs B t n (half f z k)) (hv : v = f k) : (w.setCell ⟨B, k, none⟩ v).rowIs B t n (half f z (k + 1)) := by
  refine (h.set k v).congr (fun i _ => ?_)
  unfold half
  by_cases e : i = k
  · subst e
    simp [hv]
  · rw [if_neg e]
    by_cases h1 : i < k
    · rw [if_pos h1, if_pos (by omega)]
    · rw [if_neg h1, if_neg (by omega)]
theorem half_end {w : World} {B t n : Nat} {f : Nat → Value} {z : Value} (h : w.rowIs B t n (half f z n)) : w.rowIs B t n f := h.congr (fun i hi => by simp [half, hi])

set_option maxRecDepth 100000 in
theorem cloneS_nil (w : World) (ss : List ByteArray) (h : ss.length = 0) : Calls Eftg.prog 7 #[.slice none 0 0] w fun e w' => ClonedS w w' 0 ss e := by
  have HH : Hid (ss.length = 0) := h
  clear h
  have hq := Lib.run_eql_slice_nil (P := Eftg.prog) w 22 9 none 0 0 0 0 Eftg.underlying22
  simp only [Option.isNone] at hq
  go_enter Eftg.func7, Eftg.ntmps7
  go_wp2
  go_ret
  exact ⟨none, 0, rfl, ⟨HH.out, by have := List.eq_nil_of_length_eq_zero HH.out; subst this; simp, fun h => absurd h (by omega)⟩, Below.refl _ _⟩

set_option maxRecDepth 100000 in
set_option maxHeartbeats 1000000 in
theorem cloneS_core (A : Addr) (len cap ba oa : Nat) (ss : List ByteArray) (w : World) (hl : len ≤ 1048576)
    (hA : len ≤ 0 ∨ A = ⟨ba, oa, none⟩) (hs : StrsAt w (some A) len ss)
    (hc : ∀ i, i < len → w.cell? ⟨ba, oa + i, none⟩ = some (.string (ss.getD i ByteArray.empty))) :
    Calls Eftg.prog 7 #[.slice (some A) len cap] w fun e w' => ClonedS w w' len ss e := by
  have HC : Hid (∀ i, i < len → w.cell? ⟨ba, oa + i, none⟩ = some (.string (ss.getD i ByteArray.empty))) := hc
  have HS : Hid (StrsAt w (some A) len ss) := hs
  clear hc hs
  have hmk := run_make_row' (P := Eftg.prog) 22 9 (.string ByteArray.empty) 16 Eftg.underlying22 Eftg.info9 rfl .i64 .i64 len (by omega) (by omega)
  have hq := Lib.run_eql_slice_nil (P := Eftg.prog) w 22 9 (some A) len cap 0 0 Eftg.underlying22
  simp only [Option.isNone] at hq
  rcases hA with hA0 | rfl
  all_goals
    go_enter Eftg.func7, Eftg.ntmps7
    go_wp2
    clear hmk hq
    go_loopw [4] (fun i wr => ∃ k : Nat, k ≤ len ∧ i = .int .i64 k ∧ wr.rowIs w.heap.size 9 len (half (fun j => Value.string (ss.getD j ByteArray.empty)) (.string ByteArray.empty) k) ∧ Below w.heap.size w wr) (fun i _ => len - (intOf i).toNat)
    case atStart => exact ⟨0, Nat.zero_le _, rfl, half_start (World.rowIs_made w _ len 9), (Below.refl _ _).alloc (Nat.le_refl _) _⟩
    case round =>
      obtain ⟨k, hk, rfl, hrow, hbel⟩ := hrel
      by_cases hlt : k < len
      · first
        | (exfalso; omega)
        | (obtain ⟨v, hv⟩ : ∃ v, v = ss.getD k ByteArray.empty := ⟨_, rfl⟩
           have hcx : wr.cell? ⟨ba, oa + k, none⟩ = some (.string v) := by
             have h0 := HC.out k hlt
             have hlt0 : ba < w.heap.size := block_lt_of_cell h0
             rw [hv]
             exact (hbel.cell hlt0).trans h0
           have HV : Hid (v = ss.getD k ByteArray.empty) := hv
           clear hv
           have hcy := hrow.cell hlt
           have hfy := hrow.frozen k
           have HR : Hid (wr.rowIs w.heap.size 9 len (half (fun j => Value.string (ss.getD j ByteArray.empty)) (.string ByteArray.empty) k)) := hrow
           clear hrow
           go_wp2
           go_roundw
           case rel => exact ⟨k + 1, by omega, by go_num, half_step HR.out (by rw [HV.out]), hbel.setCell (Nat.le_refl _) _⟩
           case measure => simp [intOf]; omega)
      · obtain rfl : k = len := by omega
        have HR : Hid (wr.rowIs w.heap.size 9 k (half (fun j => Value.string (ss.getD j ByteArray.empty)) (.string ByteArray.empty) k)) := hrow
        clear hrow
        go_wp2
        go_ret
        exact ⟨_, _, rfl, strs_of_row HS.out.1 HS.out.2.1 (half_end HR.out), hbel⟩

theorem cloneS_any (a : Option Addr) (len cap : Nat) (ss : List ByteArray) (w : World) (hl : len ≤ 1048576) (hnil : a = none → cap = 0) (hs : StrsAt w a len ss) :
    Calls Eftg.prog 7 #[.slice a len cap] w fun e w' => ClonedS w w' len ss e := by
  obtain ⟨b, off, h1, h2⟩ := strs_view hs
  cases a with
  | none =>
    obtain rfl : cap = 0 := hnil rfl
    obtain rfl : len = 0 := by
      rcases h1 with h | h
      · omega
      · cases h
    exact cloneS_nil w ss hs.1
  | some A =>
    exact cloneS_core A len cap b off ss w hl (by rcases h1 with h | h; exact Or.inl h; exact Or.inr (Option.some.inj h)) hs h2

set_option maxRecDepth 100000 in
theorem cloneI_nil (w : World) (zs : List Int) (h : zs.length = 0) : Calls Eftg.prog 8 #[.slice none 0 0] w fun e w' => ClonedI w w' 0 zs e := by
  have HH : Hid (zs.length = 0) := h
  clear h
  have hq := Lib.run_eql_slice_nil (P := Eftg.prog) w 23 2 none 0 0 0 0 Eftg.underlying23
  simp only [Option.isNone] at hq
  go_enter Eftg.func8, Eftg.ntmps8
  go_wp2
  go_ret
  exact ⟨none, 0, rfl, ⟨HH.out, fun h => absurd h (by omega)⟩, Below.refl _ _⟩

set_option maxRecDepth 100000 in
set_option maxHeartbeats 1000000 in
theorem cloneI_core (A : Addr) (len cap ba oa : Nat) (zs : List Int) (w : World) (hl : len ≤ 1048576)
    (hA : len ≤ 0 ∨ A = ⟨ba, oa, none⟩) (hs : IntsAt w (some A) len zs)
    (hc : ∀ i, i < len → w.cell? ⟨ba, oa + i, none⟩ = some (.int .i64 (zs.getD i 0))) :
    Calls Eftg.prog 8 #[.slice (some A) len cap] w fun e w' => ClonedI w w' len zs e := by
  have HC : Hid (∀ i, i < len → w.cell? ⟨ba, oa + i, none⟩ = some (.int .i64 (zs.getD i 0))) := hc
  have HS : Hid (IntsAt w (some A) len zs) := hs
  clear hc hs
  have hmk := run_make_row' (P := Eftg.prog) 23 2 (.int .i64 0) 8 Eftg.underlying23 Eftg.info2 rfl .i64 .i64 len (by omega) (by omega)
  have hq := Lib.run_eql_slice_nil (P := Eftg.prog) w 23 2 (some A) len cap 0 0 Eftg.underlying23
  simp only [Option.isNone] at hq
  rcases hA with hA0 | rfl
  all_goals
    go_enter Eftg.func8, Eftg.ntmps8
    go_wp2
    clear hmk hq
    go_loopw [4] (fun i wr => ∃ k : Nat, k ≤ len ∧ i = .int .i64 k ∧ wr.rowIs w.heap.size 2 len (half (fun j => Value.int .i64 (zs.getD j 0)) (.int .i64 0) k) ∧ Below w.heap.size w wr) (fun i _ => len - (intOf i).toNat)
    case atStart => exact ⟨0, Nat.zero_le _, rfl, half_start (World.rowIs_made w _ len 2), (Below.refl _ _).alloc (Nat.le_refl _) _⟩
    case round =>
      obtain ⟨k, hk, rfl, hrow, hbel⟩ := hrel
      by_cases hlt : k < len
      · first
        | (exfalso; omega)
        | (obtain ⟨v, hv⟩ : ∃ v, v = zs.getD k 0 := ⟨_, rfl⟩
           have hcx : wr.cell? ⟨ba, oa + k, none⟩ = some (.int .i64 v) := by
             have h0 := HC.out k hlt
             have hlt0 : ba < w.heap.size := block_lt_of_cell h0
             rw [hv]
             exact (hbel.cell hlt0).trans h0
           have HV : Hid (v = zs.getD k 0) := hv
           clear hv
           have hcy := hrow.cell hlt
           have hfy := hrow.frozen k
           have HR : Hid (wr.rowIs w.heap.size 2 len (half (fun j => Value.int .i64 (zs.getD j 0)) (.int .i64 0) k)) := hrow
           clear hrow
           go_wp2
           go_roundw
           case rel => exact ⟨k + 1, by omega, by go_num, half_step HR.out (by rw [HV.out]), hbel.setCell (Nat.le_refl _) _⟩
           case measure => simp [intOf]; omega)
      · obtain rfl : k = len := by omega
        have HR : Hid (wr.rowIs w.heap.size 2 k (half (fun j => Value.int .i64 (zs.getD j 0)) (.int .i64 0) k)) := hrow
        clear hrow
        go_wp2
        go_ret
        exact ⟨_, _, rfl, ints_of_row HS.out.1 (half_end HR.out), hbel⟩

theorem cloneI_any (a : Option Addr) (len cap : Nat) (zs : List Int) (w : World) (hl : len ≤ 1048576) (hnil : a = none → cap = 0) (hs : IntsAt w a len zs) :
    Calls Eftg.prog 8 #[.slice a len cap] w fun e w' => ClonedI w w' len zs e := by
  obtain ⟨b, off, h1, h2⟩ := ints_view hs
  cases a with
  | none =>
    obtain rfl : cap = 0 := hnil rfl
    obtain rfl : len = 0 := by
      rcases h1 with h | h
      · omega
      · cases h
    exact cloneI_nil w zs hs.1
  | some A =>
    exact cloneI_core A len cap b off zs w hl (by rcases h1 with h | h; exact Or.inl h; exact Or.inr (Option.some.inj h)) hs h2

end Go.Proofs.Yoeftw
