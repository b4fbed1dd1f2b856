/-
  '(*Map).Equals' (function 11) over maps of Ints.
-/
import Derived.Test.YoeftwMap
import Derived.WalkSmall
namespace Go.Proofs.Yoeftw
open Go.RowKit Go.Maps Go.WideMaps

theorem as29_29 (v : Value) (w : World) : (Instr.typeAssert (.iface 29 v) 34 29 true).run Eftg.prog w = .ok (.tuple #[v, .bool true]) w := by kernel_rfl
theorem as36_29 (v : Value) (w : World) : (Instr.typeAssert (.iface 36 v) 34 29 true).run Eftg.prog w = .ok (.tuple #[.pointer none, .bool false]) w := by kernel_rfl
theorem as36_36 (v : Value) (w : World) : (Instr.typeAssert (.iface 36 v) 34 36 true).run Eftg.prog w = .ok (.tuple #[v, .bool true]) w := by kernel_rfl
theorem as43_29 (v : Value) (w : World) : (Instr.typeAssert (.iface 43 v) 34 29 true).run Eftg.prog w = .ok (.tuple #[.pointer none, .bool false]) w := by kernel_rfl
theorem as43_36 (v : Value) (w : World) : (Instr.typeAssert (.iface 43 v) 34 36 true).run Eftg.prog w = .ok (.tuple #[.pointer none, .bool false]) w := by kernel_rfl
theorem meth_equals (v : Value) (w : World) : (method 184 47 v "Equals").run Eftg.prog w = .ok (58, v) w := by kernel_rfl
attribute [local go_sem] meth_equals as29_29 as36_29 as36_36 as43_29 as43_36

/-- What Equals leaves. -/
def EqAns (w w' : World) (E F : List (List UInt8 × Int)) (e : Ending) : Prop := ∃ z, e = .returned (.bool z) ∧ (z = true ↔ Plain.Same E F) ∧ Below w.heap.size w w'

set_option maxRecDepth 100000 in
/-- An Array is no map. -/
theorem equals_array (o : Option Addr) (v : Value) (w : World) :
    Calls Eftg.prog 11 #[.pointer o, .iface 43 v] w fun e w' => e = .returned (.bool false) ∧ w' = w := by
  go_enter Eftg.func11, Eftg.ntmps11
  go_wp2
  go_ret
  exact ⟨rfl, rfl⟩

/-- The keys that are no longer to come stand in F as in E. -/
def Seen (E F : List (List UInt8 × Int)) (left : Lit → Bool) : Prop := ∀ k x, (k, x) ∈ E → left (.string k) = false → (k, x) ∈ F

theorem ranges_drewN {w : World} {b r n : Nat} {D : DataW Unit} {left : Lit → Bool} {cnt : Nat} (h : w.ranges Eftg.prog 9 objElem b r n D left cnt) (m : Nat) : (w.drewN m).ranges Eftg.prog 9 objElem b r n D left cnt :=
  h.kept (row := none) ⟨rfl, rfl, rfl, Nat.le_refl _, fun _ _ _ => rfl⟩ (by simp) (by simp)

/-- THE STEP OF A RANGE, over such a map. -/
theorem wpList_next_obj (w : World) {ops : Array Oper} {rest : List Oper} {o : Oper} {a : Act} {Q : Exit → Act → World → Prop} (hg : o.guard = none) (it : Operand) (hop : o.op = Op.next it false)
    (b r n : Nat) (D : DataW Unit) (left : Lit → Bool) (cnt : Nat) (hit : a.eval it = .pointer (some ⟨r, 0, none⟩)) (h : w.ranges Eftg.prog 9 objElem b r n D left cnt)
    (hDone : cnt = 0 → (∀ kl, left kl = false) → wpList Eftg.prog ops Q rest (a.put o.dst (.tuple #[.bool false])) w)
    (hMore : ∀ (s : ByteArray) (c : Nat) (w' : World) (cnt' : Nat), s.size ≤ maxLen → left (.string s.data.toList) = true → (∀ zd, D.atKey (.string s.data.toList) zd = blkDat c) →
      w'.ranges Eftg.prog 9 objElem b r n D (fun z => left z && !z.sameKey (.string s.data.toList)) cnt' → cnt' < cnt → w.grownBy w' (some r) → w'.heap.size = w.heap.size →
      (Instr.entry (.pointer (some ⟨r, 0, none⟩))).run Eftg.prog w' = .ok (.tuple #[.string s, .iface 47 (.pointer (some ⟨c, 0, none⟩))]) w' →
      wpList Eftg.prog ops Q rest (a.put o.dst (.tuple #[.bool true, .string s, .iface 47 (.pointer (some ⟨c, 0, none⟩))])) w') :
    wpList Eftg.prog ops Q (o :: rest) a w :=
  wpList_next_ranges w hg it hop 9 law objElem Value.string (fun b : Nat => Value.iface 47 (.pointer (some ⟨b, 0, none⟩))) (fun _ _ hk => key_string_inv hk) (fun v y hv => by obtain ⟨b, hb, _⟩ := objElem_inv hv; exact ⟨b, hb⟩) b r n D left cnt hit h hDone
    (fun s c kl y w' cnt' hkey hlk hv hat hrg hlt hgr hsz hen => by
      obtain ⟨rfl, hs⟩ := key_string_lit hkey
      obtain ⟨c', hc', rfl⟩ := objElem_inv hv
      have e : c = c' := by simpa [objPtr] using hc'
      subst e
      exact hMore s c w' cnt' hs hlk hat hrg hlt hgr hsz hen)

theorem seen_start (E F : List (List UInt8 × Int)) {w : World} {D : DataW Unit} (hr : Reads w D E) : Seen E F (Maps.has D) := by
  intro k x hk hl
  obtain ⟨b, hat, _⟩ := hr.there k x hk
  rw [has_true_of_atKey hat] at hl
  cases hl

theorem seen_step {E F : List (List UInt8 × Int)} {left : Lit → Bool} (h : Seen E F left) (hE : Plain.Keys E) {k : List UInt8} {x : Int} (h1 : (k, x) ∈ E) (h2 : (k, x) ∈ F) : Seen E F (fun z => left z && !z.sameKey (.string k)) := by
  intro j y hj hl
  by_cases e : j = k
  · subst e
    rw [hE.one hj h1]
    exact h2
  · refine h j y hj ?_
    have hk : (Lit.string j).sameKey (.string k) = false := Maps.sameKey_ne (fun e' => e (by injection e'))
    simp only [hk] at hl
    simpa using hl

theorem eq_yes {w w' : World} {E F : List (List UInt8 × Int)} {left : Lit → Bool} (h : Seen E F left) (hl : ∀ kl, left kl = false) (hlen : E.length = F.length) (hb : Below w.heap.size w w') : EqAns w w' E F (.returned (.bool true)) :=
  ⟨true, rfl, ⟨fun _ => ⟨hlen, fun p hp => h p.1 p.2 hp (hl _)⟩, fun _ => rfl⟩, hb⟩

theorem eq_no {w w' : World} {E F : List (List UInt8 × Int)} {k : List UInt8} {x : Int} (h1 : (k, x) ∈ E) (h2 : (k, x) ∉ F) (hb : Below w.heap.size w w') : EqAns w w' E F (.returned (.bool false)) :=
  ⟨false, rfl, ⟨fun h => (by cases h), fun h => absurd (h.2 _ h1) h2⟩, hb⟩

theorem eq_len {w w' : World} {E F : List (List UInt8 × Int)} (h : ¬ E.length = F.length) (hb : Below w.heap.size w w') : EqAns w w' E F (.returned (.bool false)) :=
  ⟨false, rfl, ⟨fun h => (by cases h), fun h' => absurd h'.1 h⟩, hb⟩

/-- What one entry of the range finds in the other map. -/
theorem one_entry {w w1 : World} {mb nb : Nat} {DA DB : DataW Unit} {E F : List (List UInt8 × Int)} (hrA : Reads w DA E) (hoB : w.ownsMap Eftg.prog 9 objElem mb nb DB) (hrB : Reads w DB F) (hb : Below w.heap.size w w1)
    {s : ByteArray} {b : Nat} (hs : s.size ≤ maxLen) (hat : ∀ z, DA.atKey (.string s.data.toList) z = blkDat b) :
    ∃ x, (s.data.toList, x) ∈ E ∧ w1.cell? ⟨b, 0, none⟩ = some (.int .i64 x) ∧
      ((∃ c z, (Instr.lookup 39 (.map (some mb)) (.string s) false).run Eftg.prog w1 = .ok (.iface 47 (.pointer (some ⟨c, 0, none⟩))) w1 ∧ w1.cell? ⟨c, 0, none⟩ = some (.int .i64 z) ∧ (s.data.toList, z) ∈ F) ∨
       ((Instr.lookup 39 (.map (some mb)) (.string s) false).run Eftg.prog w1 = .ok .nilIface w1 ∧ ∀ z, (s.data.toList, z) ∉ F)) := by
  obtain ⟨x, hx, hi⟩ := entry_there hrA hat
  have hrB1 : Reads w1 DB F := hrB.stay (fun b x hi => hi.below hb)
  have hoB1 : w1.ownsMap Eftg.prog 9 objElem mb nb DB := by
    have hlt := hoB.lt
    obtain ⟨es, clock, hbk, F0, hs0, hD⟩ := hoB
    exact ⟨es, clock, (hb.block mb hlt).trans hbk, F0, hs0, hD⟩
  refine ⟨x, hx, (hi.below hb).cell, ?_⟩
  by_cases hF : ∃ z, (s.data.toList, z) ∈ F
  · obtain ⟨z, hz⟩ := hF
    obtain ⟨c, hrun, hc⟩ := look_there hoB1 hrB1 hs hz
    exact Or.inl ⟨c, z, hrun, hc.cell, hz⟩
  · exact Or.inr ⟨look_absent hoB1 hrB1 hs (fun z hz => hF ⟨z, hz⟩), fun z hz => hF ⟨z, hz⟩⟩

set_option maxRecDepth 100000 in
set_option maxHeartbeats 2000000 in
theorem equals_29 (o p ma mb na nb : Nat) (E F : List (List UInt8 × Int)) (w : World) (hoc : w.cell? ⟨o, 0, none⟩ = some (.map (some ma))) (hpc : w.cell? ⟨p, 0, none⟩ = some (.map (some mb)))
    (hA : HoldsMap w ma na E) (hB : HoldsMap w mb nb F) :
    Calls Eftg.prog 11 #[.pointer (some ⟨o, 0, none⟩), .iface 29 (.pointer (some ⟨p, 0, none⟩))] w fun e w' => EqAns w w' E F e := by
  obtain ⟨DA, hoA, hrA⟩ := hA
  obtain ⟨DB, hoB, hrB⟩ := hB
  have HrA : Hid (Reads w DA E) := hrA
  have HrB : Hid (Reads w DB F) := hrB
  clear hrA hrB
  by_cases hlen : E.length = F.length
  · have hne : (((Maps.size DA : Nat) : Int) != ((Maps.size DB : Nat) : Int)) = false := by rw [HrA.out.size, HrB.out.size, hlen]; simp
    have HL : Hid (E.length = F.length) := hlen
    clear hlen
    go_enter Eftg.func11, Eftg.ntmps11
    go_wp2_with (first
      | (at_len; refine wpList_len_own _ rfl (.tmp 30) 39 rfl 9 34 Eftg.underlying39 _ ma na DA rfl hoA ?_)
      | (at_len; refine wpList_len_own _ rfl (.tmp 32) 39 rfl 9 34 Eftg.underlying39 _ mb nb DB rfl hoB ?_)
      | (at_range; refine wpList_range_own _ rfl _ 39 rfl 9 34 law Eftg.underlying39 _ ma na DA rfl hoA ?_; intro w0 hrg0 hg0 hs0))
    go_frame
    clear hne
    go_loopw [9] (fun _ wr => ∃ (left : Lit → Bool) (cnt : Nat), wr.ranges Eftg.prog 9 objElem ma w.heap.size na DA left cnt ∧ Seen E F left ∧ Below w.heap.size w wr)
      (fun _ wr => wr.rangeLeft ma w.heap.size)
    case atStart => exact ⟨_, _, hrg0, seen_start E F HrA.out, (Below.refl _ _).grown hg0 (Nat.le_refl _) (fun j hj => by cases hj)⟩
    case round =>
      obtain ⟨left, cnt, hrg, hseen, hbel⟩ := hrel
      have HSeen : Hid (Seen E F left) := hseen
      have HB : Hid (Below w.heap.size w wr) := hbel
      clear hseen hbel hrg0 hg0 hs0 hoc hpc
      go_wp2_with (first
        | (at_next; refine wpList_next_obj _ rfl _ rfl ma w.heap.size na _ _ _ rfl hrg ?_ ?_))
      · intro hc0 hl0
        go_wp2
        go_ret
        exact eq_yes HSeen.out hl0 HL.out HB.out
      · intro s b w1 cnt1 hsz hlk hat hrg1 hlt hg1 hs1 hen
        have HB1 : Hid (Below w.heap.size w w1) := HB.out.grown hg1 HB.out.size (fun j hj => by cases hj; exact Nat.le_refl _)
        obtain ⟨x, hx, hcx, hcase⟩ := one_entry HrA.out hoB HrB.out HB1.out hsz hat
        have HX : Hid ((s.data.toList, x) ∈ E) := hx
        clear hx hlk hat hg1 hs1
        rcases hcase with ⟨c, z, hrun, hcc, hz⟩ | ⟨hrun, hz⟩
        · have HZ : Hid ((s.data.toList, z) ∈ F) := hz
          clear hz
          by_cases hxz : x = z
          · have hq : (x == z) = true := by simp [hxz]
            have HXZ : Hid (x = z) := hxz
            clear hxz
            go_wp2_with fail
            refine (intEq_int b c x z _ hcx hcc).mono ?_
            rintro e w2 ⟨rfl, nd, rfl⟩
            go_wp2
            go_roundw
            case rel => exact ⟨_, cnt1, ranges_drewN hrg1 nd, seen_step HSeen.out HrA.out.keys HX.out (HXZ.out ▸ HZ.out), below_drewN HB1.out nd⟩
            case measure => rw [show (w1.drewN nd).rangeLeft ma w.heap.size = w1.rangeLeft ma w.heap.size from rfl, hrg1.left_eq, hrg.left_eq]; exact hlt
          · have hq : (x == z) = false := by simp [hxz]
            have HXZ : Hid (¬ x = z) := hxz
            clear hxz
            go_wp2_with fail
            refine (intEq_int b c x z _ hcx hcc).mono ?_
            rintro e w2 ⟨rfl, nd, rfl⟩
            go_wp2
            go_ret
            exact eq_no HX.out (fun h => HXZ.out (HrB.out.keys.one h HZ.out)) (below_drewN HB1.out nd)
        · have HZ : Hid (∀ z, (s.data.toList, z) ∉ F) := hz
          clear hz
          go_wp2_with fail
          refine (intEq_nil b _).mono ?_
          rintro e w2 ⟨rfl, rfl⟩
          go_wp2
          go_ret
          exact eq_no HX.out (HZ.out x) HB1.out
  · have hne : (((Maps.size DA : Nat) : Int) != ((Maps.size DB : Nat) : Int)) = true := by rw [HrA.out.size, HrB.out.size]; simp; omega
    have HL : Hid (¬ E.length = F.length) := hlen
    clear hlen
    go_enter Eftg.func11, Eftg.ntmps11
    go_wp2_with (first
      | (at_len; refine wpList_len_own _ rfl (.tmp 30) 39 rfl 9 34 Eftg.underlying39 _ ma na DA rfl hoA ?_)
      | (at_len; refine wpList_len_own _ rfl (.tmp 32) 39 rfl 9 34 Eftg.underlying39 _ mb nb DB rfl hoB ?_))
    go_ret
    exact eq_len HL.out (Below.refl _ _)

set_option maxRecDepth 100000 in
set_option maxHeartbeats 2000000 in
theorem equals_36 (o p ma mb na nb : Nat) (E F : List (List UInt8 × Int)) (w : World) (hoc : w.cell? ⟨o, 0, none⟩ = some (.map (some ma))) (hpc : w.cell? ⟨p, 0, none⟩ = some (.map (some mb)))
    (hA : HoldsMap w ma na E) (hB : HoldsMap w mb nb F) :
    Calls Eftg.prog 11 #[.pointer (some ⟨o, 0, none⟩), .iface 36 (.pointer (some ⟨p, 0, none⟩))] w fun e w' => EqAns w w' E F e := by
  obtain ⟨DA, hoA, hrA⟩ := hA
  obtain ⟨DB, hoB, hrB⟩ := hB
  have HrA : Hid (Reads w DA E) := hrA
  have HrB : Hid (Reads w DB F) := hrB
  clear hrA hrB
  by_cases hlen : E.length = F.length
  · have hne : (((Maps.size DA : Nat) : Int) != ((Maps.size DB : Nat) : Int)) = false := by rw [HrA.out.size, HrB.out.size, hlen]; simp
    have HL : Hid (E.length = F.length) := hlen
    clear hlen
    go_enter Eftg.func11, Eftg.ntmps11
    go_wp2_with (first
      | (at_len; refine wpList_len_own _ rfl (.tmp 30) 39 rfl 9 34 Eftg.underlying39 _ ma na DA rfl hoA ?_)
      | (at_len; refine wpList_len_own _ rfl (.tmp 32) 39 rfl 9 34 Eftg.underlying39 _ mb nb DB rfl hoB ?_)
      | (at_range; refine wpList_range_own _ rfl _ 39 rfl 9 34 law Eftg.underlying39 _ ma na DA rfl hoA ?_; intro w0 hrg0 hg0 hs0))
    go_frame
    clear hne
    go_loopw [9] (fun _ wr => ∃ (left : Lit → Bool) (cnt : Nat), wr.ranges Eftg.prog 9 objElem ma w.heap.size na DA left cnt ∧ Seen E F left ∧ Below w.heap.size w wr)
      (fun _ wr => wr.rangeLeft ma w.heap.size)
    case atStart => exact ⟨_, _, hrg0, seen_start E F HrA.out, (Below.refl _ _).grown hg0 (Nat.le_refl _) (fun j hj => by cases hj)⟩
    case round =>
      obtain ⟨left, cnt, hrg, hseen, hbel⟩ := hrel
      have HSeen : Hid (Seen E F left) := hseen
      have HB : Hid (Below w.heap.size w wr) := hbel
      clear hseen hbel hrg0 hg0 hs0 hoc hpc
      go_wp2_with (first
        | (at_next; refine wpList_next_obj _ rfl _ rfl ma w.heap.size na _ _ _ rfl hrg ?_ ?_))
      · intro hc0 hl0
        go_wp2
        go_ret
        exact eq_yes HSeen.out hl0 HL.out HB.out
      · intro s b w1 cnt1 hsz hlk hat hrg1 hlt hg1 hs1 hen
        have HB1 : Hid (Below w.heap.size w w1) := HB.out.grown hg1 HB.out.size (fun j hj => by cases hj; exact Nat.le_refl _)
        obtain ⟨x, hx, hcx, hcase⟩ := one_entry HrA.out hoB HrB.out HB1.out hsz hat
        have HX : Hid ((s.data.toList, x) ∈ E) := hx
        clear hx hlk hat hg1 hs1
        rcases hcase with ⟨c, z, hrun, hcc, hz⟩ | ⟨hrun, hz⟩
        · have HZ : Hid ((s.data.toList, z) ∈ F) := hz
          clear hz
          by_cases hxz : x = z
          · have hq : (x == z) = true := by simp [hxz]
            have HXZ : Hid (x = z) := hxz
            clear hxz
            go_wp2_with fail
            refine (intEq_int b c x z _ hcx hcc).mono ?_
            rintro e w2 ⟨rfl, nd, rfl⟩
            go_wp2
            go_roundw
            case rel => exact ⟨_, cnt1, ranges_drewN hrg1 nd, seen_step HSeen.out HrA.out.keys HX.out (HXZ.out ▸ HZ.out), below_drewN HB1.out nd⟩
            case measure => rw [show (w1.drewN nd).rangeLeft ma w.heap.size = w1.rangeLeft ma w.heap.size from rfl, hrg1.left_eq, hrg.left_eq]; exact hlt
          · have hq : (x == z) = false := by simp [hxz]
            have HXZ : Hid (¬ x = z) := hxz
            clear hxz
            go_wp2_with fail
            refine (intEq_int b c x z _ hcx hcc).mono ?_
            rintro e w2 ⟨rfl, nd, rfl⟩
            go_wp2
            go_ret
            exact eq_no HX.out (fun h => HXZ.out (HrB.out.keys.one h HZ.out)) (below_drewN HB1.out nd)
        · have HZ : Hid (∀ z, (s.data.toList, z) ∉ F) := hz
          clear hz
          go_wp2_with fail
          refine (intEq_nil b _).mono ?_
          rintro e w2 ⟨rfl, rfl⟩
          go_wp2
          go_ret
          exact eq_no HX.out (HZ.out x) HB1.out
  · have hne : (((Maps.size DA : Nat) : Int) != ((Maps.size DB : Nat) : Int)) = true := by rw [HrA.out.size, HrB.out.size]; simp; omega
    have HL : Hid (¬ E.length = F.length) := hlen
    clear hlen
    go_enter Eftg.func11, Eftg.ntmps11
    go_wp2_with (first
      | (at_len; refine wpList_len_own _ rfl (.tmp 30) 39 rfl 9 34 Eftg.underlying39 _ ma na DA rfl hoA ?_)
      | (at_len; refine wpList_len_own _ rfl (.tmp 32) 39 rfl 9 34 Eftg.underlying39 _ mb nb DB rfl hoB ?_))
    go_ret
    exact eq_len HL.out (Below.refl _ _)

end Go.Proofs.Yoeftw
