/-
  A MAP OF POINTERS TO Ints ('map[string]tengo.Object' whose elements are all '*tengo.Int'): WHAT ITS BLOCK READS AS.
  The library's 'ownsMap' takes any reader of elements: ours reads the element '*Int at block b' as the NUMBER b; what lies in block b is told beside it.
-/
import Derived.Test.YoeftwClone
import Derived.Test.YoeftwInt
import Derived.Maps.RangeWalk
namespace Go.Proofs.Yoeftw
open Go.RowKit Go.Maps Go.WideMaps

theorem law : Keyed Eftg.prog 9 := string_keyed Eftg.underlying9
theorem zero34 (w : World) : (zeroValue 34).run Eftg.prog w = .ok .nilIface w := by kernel_rfl

/-- The number of a block, as a datum. -/
def blkDat (b : Nat) : DataW Unit := .lit (.int .i64 b)

theorem blkDat_inj {b c : Nat} (h : blkDat b = blkDat c) : b = c := by
  unfold blkDat at h
  injection h with h
  injection h with _ h
  omega

/-- How an element reads: a pointer to the head of block b, of type *Int: the number b. -/
def objElem (v : Value) : Option (DataW Unit × List MemPlace) :=
  match v with
  | .iface t (.pointer (some a)) => if t = 47 ∧ a = ⟨a.block, 0, none⟩ then some (blkDat a.block, []) else none
  | _ => none

theorem objElem_mk (b : Nat) : objElem (objPtr b) = some (blkDat b, []) := by simp [objElem, objPtr]

theorem objElem_inv {v : Value} {y : DataW Unit × List MemPlace} (h : objElem v = some y) : ∃ b, v = objPtr b ∧ y = (blkDat b, []) := by
  unfold objElem at h
  split at h
  · rename_i t a
    split at h
    · rename_i hc
      obtain ⟨rfl, ha⟩ := hc
      cases h
      exact ⟨a.block, by unfold objPtr; rw [← ha], rfl⟩
    · cases h
  · cases h

/-- Block b is an Int that holds x. -/
def IntIn (w : World) (b : Nat) (x : Int) : Prop := w.heap[b]? = some (.cells #[.int .i64 x] 49 (0, 0))

theorem IntIn.lt {w : World} {b : Nat} {x : Int} (h : IntIn w b x) : b < w.heap.size := (Array.getElem?_eq_some_iff.1 h).1
theorem IntIn.cell {w : World} {b : Nat} {x : Int} (h : IntIn w b x) : w.cell? ⟨b, 0, none⟩ = some (.int .i64 x) := by
  unfold IntIn at h
  simp [World.cell?, h]
theorem IntIn.one {w : World} {b : Nat} {x y : Int} (h : IntIn w b x) (h' : IntIn w b y) : x = y := by
  unfold IntIn at h h'
  rw [h] at h'
  simp at h'
  exact h'
theorem IntIn.kept {w w' : World} {row : Option Nat} {b : Nat} {x : Int} (h : IntIn w b x) (hg : w.grownBy w' row) (hne : some b ≠ row) : IntIn w' b x := (hg.block b h.lt hne).trans h
theorem IntIn.below {w w' : World} {b : Nat} {x : Int} (h : IntIn w b x) (hg : Below w.heap.size w w') : IntIn w' b x := (hg.block b h.lt).trans h
theorem IntIn.ne_map {w : World} {P : Program} {k : TypeId} {R : Value → Option (DataW Unit × List MemPlace)} {mb n b : Nat} {D : DataW Unit} {x : Int} (h : IntIn w b x) (hm : w.ownsMap P k R mb n D) : b ≠ mb := by
  obtain ⟨es, clock, hb, _⟩ := hm
  intro e
  subst e
  unfold IntIn at h
  rw [h] at hb
  cases hb
theorem intIn_new (w : World) (x : Int) : IntIn (w.alloc (.cells #[.int .i64 x] 49)) w.heap.size x := (MapKept.heap_alloc w _).1

/-- THE DATUM D (keys, and numbers of blocks), READ IN w, IS THE DICTIONARY E. -/
structure Reads (w : World) (D : DataW Unit) (E : List (List UInt8 × Int)) : Prop where
  keys : Plain.Keys E
  size : Maps.size D = E.length
  there : ∀ k x, (k, x) ∈ E → ∃ b, (∀ z, D.atKey (.string k) z = blkDat b) ∧ IntIn w b x
  has : ∀ k, Maps.has D (.string k) = true → ∃ x, (k, x) ∈ E

theorem Reads.stay {w w' : World} {D : DataW Unit} {E : List (List UInt8 × Int)} (h : Reads w D E) (hs : ∀ b x, IntIn w b x → IntIn w' b x) : Reads w' D E :=
  ⟨h.keys, h.size, fun k x hk => by obtain ⟨b, h1, h2⟩ := h.there k x hk; exact ⟨b, h1, hs b x h2⟩, h.has⟩

theorem reads_empty (w : World) : Reads w (.map []) [] :=
  ⟨List.Pairwise.nil, rfl, fun k x h => by simp at h, fun k h => by simp [Maps.has] at h⟩

theorem Reads.put {w w' : World} {D : DataW Unit} {E : List (List UInt8 × Int)} (h : Reads w D E) (hm : Maps.Tidy D) (hs : ∀ b x, IntIn w b x → IntIn w' b x) {b : Nat} {x : Int} (hb : IntIn w' b x) (k : List UInt8) :
    Reads w' (D.put (.string k) (blkDat b)) (Plain.put E k x) := by
  refine ⟨Plain.keys_put h.keys k x, ?_, ?_, ?_⟩
  · rw [size_put hm]
    cases hh : Maps.has D (.string k) with
    | true =>
      obtain ⟨y, hy⟩ := h.has k hh
      rw [if_pos rfl, Plain.length_put_there h.keys hy, h.size]
    | false =>
      rw [if_neg (by simp), Plain.length_put_absent, h.size]
      intro y hy
      obtain ⟨b', hat, _⟩ := h.there k y hy
      rw [has_true_of_atKey hat] at hh
      cases hh
  · intro j y hj
    rcases Plain.mem_put.1 hj with ⟨rfl, rfl⟩ | ⟨hne, hj⟩
    · exact ⟨b, fun z => atKey_put_same (k := .string j) hm.isMap trivial _ z, hb⟩
    · obtain ⟨b', hat, hi⟩ := h.there j y hj
      refine ⟨b', fun z => ?_, hs b' y hi⟩
      rw [atKey_put_other (fun e => hne (by injection e)), hat]
  · intro j hj
    by_cases e : j = k
    · exact ⟨x, Plain.mem_put.2 (Or.inl ⟨e, rfl⟩)⟩
    · rw [has_put_other (fun e' => e (by injection e'))] at hj
      obtain ⟨y, hy⟩ := h.has j hj
      exact ⟨y, Plain.mem_put.2 (Or.inr ⟨e, hy⟩)⟩

/-- BLOCK mb OF w IS A MAP OF AT MOST n ENTRIES THAT READS AS THE DICTIONARY E. -/
def HoldsMap (w : World) (mb n : Nat) (E : List (List UInt8 × Int)) : Prop := ∃ D, w.ownsMap Eftg.prog 9 objElem mb n D ∧ Reads w D E

theorem HoldsMap.below {w w' : World} {mb n : Nat} {E : List (List UInt8 × Int)} (h : HoldsMap w mb n E) (hb : Below w.heap.size w w') : HoldsMap w' mb n E := by
  obtain ⟨D, ho, hr⟩ := h
  refine ⟨D, ?_, hr.stay (fun b x hi => hi.below hb)⟩
  have hlt := ho.lt
  obtain ⟨es, clock, hbk, F, hs, hD⟩ := ho
  exact ⟨es, clock, (hb.block mb hlt).trans hbk, F, hs, hD⟩

/-- 'm[k]' at a key that is there. -/
theorem look_there {w : World} {mb n : Nat} {D : DataW Unit} {E : List (List UInt8 × Int)} (ho : w.ownsMap Eftg.prog 9 objElem mb n D) (hr : Reads w D E) {s : ByteArray} (hs : s.size ≤ maxLen) {x : Int} (hk : (s.data.toList, x) ∈ E) :
    ∃ b, (Instr.lookup 39 (.map (some mb)) (.string s) false).run Eftg.prog w = .ok (.iface 47 (.pointer (some ⟨b, 0, none⟩))) w ∧ IntIn w b x := by
  obtain ⟨b, hat, hi⟩ := hr.there _ _ hk
  obtain ⟨es, clock, hb, F, _, rfl⟩ := ho
  rcases Maps.fit_look false law Eftg.underlying39 (zero34 w) hb F (keyOf_string_mk Eftg.underlying9 hs) with ⟨_, _, hat0⟩ | ⟨e0, y, _, _, hrun, hRv, hat1, _⟩
  · have h1 := hat (blkDat (b + 1))
    rw [hat0] at h1
    exact absurd (blkDat_inj h1) (by omega)
  · obtain ⟨c, hv, rfl⟩ := objElem_inv hRv
    have h1 := hat (blkDat 0)
    rw [hat1] at h1
    have e := blkDat_inj h1
    subst e
    refine ⟨c, ?_, hi⟩
    rw [hv] at hrun
    exact hrun

/-- 'm[k]' at a key that is not there. -/
theorem look_absent {w : World} {mb n : Nat} {D : DataW Unit} {E : List (List UInt8 × Int)} (ho : w.ownsMap Eftg.prog 9 objElem mb n D) (hr : Reads w D E) {s : ByteArray} (hs : s.size ≤ maxLen) (hk : ∀ x, (s.data.toList, x) ∉ E) :
    (Instr.lookup 39 (.map (some mb)) (.string s) false).run Eftg.prog w = .ok .nilIface w := by
  obtain ⟨es, clock, hb, F, _, rfl⟩ := ho
  rcases Maps.fit_look false law Eftg.underlying39 (zero34 w) hb F (keyOf_string_mk Eftg.underlying9 hs) with ⟨hrun, _, _⟩ | ⟨e0, y, _, _, _, _, hat1, _⟩
  · exact hrun
  · obtain ⟨x, hx⟩ := hr.has _ (has_true_of_atKey hat1)
    exact absurd hx (hk x)

/-- An entry that comes out of a range: it stands in the dictionary. -/
theorem entry_there {w : World} {D : DataW Unit} {E : List (List UInt8 × Int)} (hr : Reads w D E) {k : List UInt8} {b : Nat} (hat : ∀ z, D.atKey (.string k) z = blkDat b) : ∃ x, (k, x) ∈ E ∧ IntIn w b x := by
  obtain ⟨x, hx⟩ := hr.has k (has_true_of_atKey hat)
  obtain ⟨b', hat', hi⟩ := hr.there k x hx
  have h1 := hat (blkDat 0)
  rw [hat'] at h1
  have e := blkDat_inj h1
  subst e
  exact ⟨x, hx, hi⟩

theorem key_string_inv {key : Value} {kl : Lit} (h : keyOf Eftg.prog 9 key = some kl) : ∃ s : ByteArray, key = .string s := by
  cases key <;> simp [keyOf, Eftg.underlying9, mapKey] at h
  exact ⟨_, rfl⟩
theorem key_string_lit {s : ByteArray} {kl : Lit} (h : keyOf Eftg.prog 9 (.string s) = some kl) : kl = .string s.data.toList ∧ s.size ≤ maxLen := by
  simp [keyOf, Eftg.underlying9, mapKey] at h
  exact ⟨h.2.symm, h.1⟩

end Go.Proofs.Yoeftw
