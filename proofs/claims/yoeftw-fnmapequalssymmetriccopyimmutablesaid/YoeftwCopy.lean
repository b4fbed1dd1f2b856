/-
  '(*Map).Copy' (function 14) over a map of Ints.
-/
import Derived.Test.YoeftwBuild
import Derived.Test.YoeftwEquals
namespace Go.Proofs.Yoeftw
open Go.RowKit Go.Maps Go.WideMaps

theorem meth_copy (v : Value) (w : World) : (method 184 47 v "Copy").run Eftg.prog w = .ok (57, v) w := by kernel_rfl
attribute [local go_sem] meth_copy

/-- What Copy leaves. -/
def CopyAns (w w' : World) (E : List (List UInt8 × Int)) (e : Ending) : Prop :=
  ∃ o mb n F, e = .returned (.iface 29 (.pointer (some ⟨o, 0, none⟩))) ∧ PtrIn w' o mb ∧ HoldsMap w' mb n F ∧ Plain.Same E F ∧ Below w.heap.size w w'

/-- The copy holds just those entries that are no longer to come. -/
def Gone (E F : List (List UInt8 × Int)) (left : Lit → Bool) : Prop := ∀ k x, (k, x) ∈ F ↔ ((k, x) ∈ E ∧ left (.string k) = false)

theorem gone_start {w : World} {D : DataW Unit} {E : List (List UInt8 × Int)} (hr : Reads w D E) : Gone E [] (Maps.has D) := by
  intro k x
  constructor
  · intro h
    simp at h
  · rintro ⟨hk, hl⟩
    obtain ⟨b, hat, _⟩ := hr.there k x hk
    rw [has_true_of_atKey hat] at hl
    cases hl

theorem gone_step {E F : List (List UInt8 × Int)} {left : Lit → Bool} (h : Gone E F left) (hE : Plain.Keys E) {k : List UInt8} {x : Int} (h1 : (k, x) ∈ E) : Gone E (Plain.put F k x) (fun z => left z && !z.sameKey (.string k)) := by
  intro j y
  rw [Plain.mem_put]
  by_cases e : j = k
  · subst e
    have hs : (Lit.string j).sameKey (.string j) = true := WideAt.sameKey_self trivial
    simp only [hs]
    constructor
    · rintro (⟨_, rfl⟩ | ⟨hne, _⟩)
      · exact ⟨h1, by simp⟩
      · exact absurd rfl hne
    · rintro ⟨hy, _⟩
      exact Or.inl ⟨by simp, hE.one hy h1⟩
  · have hs : (Lit.string j).sameKey (.string k) = false := Maps.sameKey_ne (fun e' => e (by injection e'))
    simp only [hs]
    rw [h j y]
    simp [e]

theorem gone_end {E F : List (List UInt8 × Int)} {left : Lit → Bool} (h : Gone E F left) (hl : ∀ kl, left kl = false) (hE : Plain.Keys E) (hF : Plain.Keys F) : Plain.Same E F :=
  Plain.same_of_mem hE hF (fun p => ⟨fun hp => (h p.1 p.2).2 ⟨hp, hl _⟩, fun hp => ((h p.1 p.2).1 hp).1⟩)

theorem HoldsMap.keys {w : World} {mb n : Nat} {E : List (List UInt8 × Int)} (h : HoldsMap w mb n E) : Plain.Keys E := by
  obtain ⟨D, _, hr⟩ := h
  exact hr.keys
theorem HoldsMap.lt {w : World} {mb n : Nat} {E : List (List UInt8 × Int)} (h : HoldsMap w mb n E) : mb < w.heap.size := by
  obtain ⟨D, ho, _⟩ := h
  exact ho.lt
theorem HoldsMap.mono {w : World} {mb n m : Nat} {E : List (List UInt8 × Int)} (h : HoldsMap w mb n E) (hn : n ≤ m) : HoldsMap w mb m E := by
  obtain ⟨D, ho, hr⟩ := h
  exact ⟨D, ho.mono hn, hr⟩

/-- Other blocks are written, none of them this map's nor an Int's. -/
theorem HoldsMap.kept {w w' : World} {mb n r : Nat} {E : List (List UInt8 × Int)} (h : HoldsMap w mb n E) (hg : w.grownBy w' (some r)) (hne : mb ≠ r) (hr : ∀ b x, IntIn w b x → b ≠ r) : HoldsMap w' mb n E := by
  obtain ⟨D, ho, hrd⟩ := h
  exact ⟨D, ho.kept hg (fun e => hne (Option.some.inj e)), hrd.stay (fun b x hi => hi.kept hg (fun e => hr b x hi (Option.some.inj e)))⟩

theorem HoldsMap.alloc {w : World} {mb n : Nat} {E : List (List UInt8 × Int)} (h : HoldsMap w mb n E) (o : Obj) : HoldsMap (w.alloc o) mb n E :=
  h.below ((Below.refl _ _).alloc (Nat.le_refl _) o)

/-- One write of an Int that is there. -/
theorem put_there {W : World} {mb k b : Nat} {E : List (List UInt8 × Int)} {x : Int} (hm : HoldsMap W mb k E) (hk : k < maxLen) {s : ByteArray} (hs : s.size ≤ maxLen) (hi : IntIn W b x) :
    ∃ w', (Instr.mapUpdate 39 (.map (some mb)) (.string s) (.iface 47 (.pointer (some ⟨b, 0, none⟩)))).run Eftg.prog W = .ok () w' ∧
      HoldsMap w' mb (k + 1) (Plain.put E s.data.toList x) ∧ W.grownBy w' (some mb) := by
  obtain ⟨D, ho, hr⟩ := hm
  obtain ⟨w', hrun, ho2, hg⟩ := ho.update law Eftg.underlying39 hk (keyOf_string_mk Eftg.underlying9 hs) (objElem_mk b)
  refine ⟨w', hrun, ⟨_, ho2, hr.put (ho.tidy law) (fun c y hc => hc.kept hg (fun e => hc.ne_map ho (Option.some.inj e))) (hi.kept hg (fun e => hi.ne_map ho (Option.some.inj e))) _⟩, hg⟩

/-- No Int lies in the iterator's block. -/
theorem ranges_no_int {w : World} {b r n : Nat} {D : DataW Unit} {left : Lit → Bool} {cnt : Nat} (h : w.ranges Eftg.prog 9 objElem b r n D left cnt) {c : Nat} {x : Int} (hi : IntIn w c x) : c ≠ r := by
  obtain ⟨es, clock, since, seen, c0, _, _, _, _, hr, _⟩ := h
  intro e
  subst e
  unfold IntIn at hi
  rw [hi] at hr
  cases hr

set_option maxRecDepth 100000 in
set_option maxHeartbeats 2000000 in
theorem copy_any (o ma na : Nat) (E : List (List UInt8 × Int)) (w : World) (hna : na ≤ 1048576) (hoc : w.cell? ⟨o, 0, none⟩ = some (.map (some ma))) (hA : HoldsMap w ma na E) :
    Calls Eftg.prog 14 #[.pointer (some ⟨o, 0, none⟩)] w fun e w' => CopyAns w w' E e := by
  have hmm := @run_makeMap Eftg.prog
  obtain ⟨DA, hoA, hrA⟩ := hA
  have HrA : Hid (Reads w DA E) := hrA
  have hsz := hoA.size_le
  have hlt := hoA.lt
  have hol : o < w.heap.size := block_lt_of_cell hoc
  have e1 : (w.alloc (.map #[] 0)).heap.size = w.heap.size + 1 := by simp
  have HE1 : Hid ((w.alloc (.map #[] 0)).heap.size = w.heap.size + 1) := e1
  clear hrA e1
  go_enter Eftg.func14, Eftg.ntmps14
  go_wp2_with (first
    | (at_range; refine wpList_range_own _ rfl _ 39 rfl 9 34 law Eftg.underlying39 _ ma na DA rfl (hoA.alloc _) ?_; intro w0 hrg0 hg0 hs0))
  go_frame
  rw [HE1.out] at hrg0 hs0 ⊢
  clear hmm hoc hol
  go_loopw [4] (fun _ wr => ∃ (left : Lit → Bool) (cnt : Nat) (F : List (List UInt8 × Int)), wr.ranges Eftg.prog 9 objElem ma (w.heap.size + 1) na DA left cnt ∧ cnt ≤ Maps.size DA ∧
      HoldsMap wr w.heap.size (Maps.size DA - cnt) F ∧ Gone E F left ∧ Below w.heap.size w wr)
    (fun _ wr => wr.rangeLeft ma (w.heap.size + 1))
  case atStart =>
    refine ⟨_, _, [], hrg0, Nat.le_refl _, ⟨.map [], ((World.ownsMap_made _ _ _ _).kept hg0 (by simp)).mono (Nat.zero_le _), reads_empty _⟩, gone_start HrA.out, ((Below.refl _ _).alloc (Nat.le_refl _) _).grown hg0 (by simp) (fun j hj => by cases hj)⟩
  case round =>
    obtain ⟨left, cnt, F, hrg, hcs, hout, hgone, hbel⟩ := hrel
    have HO : Hid (HoldsMap wr w.heap.size (Maps.size DA - cnt) F) := hout
    have HG : Hid (Gone E F left) := hgone
    have HB : Hid (Below w.heap.size w wr) := hbel
    clear hrg0 hg0 hs0 hout hgone hbel
    go_wp2_with (first
      | (at_next; refine wpList_next_obj _ rfl _ rfl ma (w.heap.size + 1) na _ _ _ rfl hrg ?_ ?_))
    · intro hc0 hl0
      go_wp2
      go_ret
      refine ⟨_, w.heap.size, _, F, rfl, ptrIn_new wr w.heap.size, HO.out.alloc _, gone_end HG.out hl0 HrA.out.keys HO.out.keys, HB.out.alloc HB.out.size _⟩
    · intro s b w1 cnt1 hssz hlk hat hrg1 hlt1 hg1 hs1 hen
      have HB1 : Hid (Below w.heap.size w w1) := HB.out.grown hg1 HB.out.size (fun j hj => by cases hj; exact Nat.le_succ _)
      obtain ⟨x, hx, hi⟩ := entry_there HrA.out hat
      have hcx : w1.cell? ⟨b, 0, none⟩ = some (.int .i64 x) := (hi.below HB1.out).cell
      have hO1 : HoldsMap w1 w.heap.size (Maps.size DA - cnt) F := HO.out.kept hg1 (by omega) (fun c y hc => ranges_no_int hrg hc)
      obtain ⟨w2, hrun, hO2, hg2⟩ := put_there (hO1.alloc (.cells #[.int .i64 x] 49)) (by unfold maxLen; omega) hssz (intIn_new w1 x)
      have hrg2 := (hrg1.alloc (.cells #[.int .i64 x] 49)).kept hg2 (fun e => by have := Option.some.inj e; omega) (fun e => by have := Option.some.inj e; omega)
      have HB2 : Hid (Below w.heap.size w w2) := (HB1.out.alloc HB1.out.size _).grown hg2 (by have := HB1.out.size; simp; omega) (fun j hj => by cases hj; exact Nat.le_refl _)
      have HG2 : Hid (Gone E (Plain.put F s.data.toList x) (fun z => left z && !z.sameKey (.string s.data.toList))) := gone_step HG.out HrA.out.keys hx
      have HO2 : Hid (HoldsMap w2 w.heap.size (Maps.size DA - cnt + 1) (Plain.put F s.data.toList x)) := hO2
      clear hx hi hO1 hO2 hat hlk hg1 hs1 hg2
      go_wp2_with fail
      refine (intCopy b x _ hcx).mono ?_
      rintro e w3 ⟨rfl, rfl⟩
      go_wp2
      go_roundw
      case rel => exact ⟨_, cnt1, _, hrg2, by omega, HO2.out.mono (by omega), HG2.out, HB2.out⟩
      case measure => rw [hrg2.left_eq, hrg.left_eq]; exact hlt1

end Go.Proofs.Yoeftw
