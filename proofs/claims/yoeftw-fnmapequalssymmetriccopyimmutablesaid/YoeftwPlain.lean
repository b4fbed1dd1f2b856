/-
  PLAIN LISTS: NO Go IN SIGHT. A dictionary (last write wins) as a list of pairs in which no key stands twice; the last index of a key; how many keys are different.
-/
import Derived.KernelRfl
namespace Go.Proofs.Yoeftw.Plain

set_option linter.unusedSectionVars false
variable {α : Type} [DecidableEq α]

/-- The last index below n at which key stands, or -1. -/
def lastIdx (ks : List α) (key : α) : Nat → Int
  | 0 => -1
  | n + 1 => if ks[n]? = some key then (n : Int) else lastIdx ks key n

theorem lastIdx_lt (ks : List α) (key : α) : ∀ n, -1 ≤ lastIdx ks key n ∧ lastIdx ks key n < n
  | 0 => by simp [lastIdx]
  | n + 1 => by
    have := lastIdx_lt ks key n
    unfold lastIdx
    split <;> omega

theorem lastIdx_get (ks : List α) (key : α) : ∀ n j : Nat, lastIdx ks key n = (j : Int) → ks[j]? = some key ∧ j < n
  | 0, j, h => by simp [lastIdx] at h
  | n + 1, j, h => by
    unfold lastIdx at h
    split at h
    · have : j = n := by omega
      subst this
      exact ⟨by assumption, by omega⟩
    · have := lastIdx_get ks key n j h
      exact ⟨this.1, by omega⟩

theorem lastIdx_neg (ks : List α) (key : α) : ∀ n, lastIdx ks key n = -1 → ∀ i, i < n → ks[i]? ≠ some key
  | 0, _, i, hi => by omega
  | n + 1, h, i, hi => by
    unfold lastIdx at h
    split at h
    · omega
    · by_cases e : i = n
      · subst e; assumption
      · exact lastIdx_neg ks key n h i (by omega)

/-- Is m the last place (below n) of its key? -/
def isLast (ks : List α) (n m : Nat) : Bool :=
  match ks[m]? with
  | some k => decide (lastIdx ks k n = (m : Int))
  | none => false

theorem isLast_of {ks : List α} {m : Nat} {k : α} (h : ks[m]? = some k) (n : Nat) : isLast ks n m = decide (lastIdx ks k n = (m : Int)) := by
  simp [isLast, h]

/-- How many i below m are the last place (below n) of their key. -/
def countTo (ks : List α) (n : Nat) : Nat → Nat
  | 0 => 0
  | m + 1 => countTo ks n m + if isLast ks n m then 1 else 0

theorem countTo_le (ks : List α) (n : Nat) : ∀ m, countTo ks n m ≤ m
  | 0 => Nat.le_refl _
  | m + 1 => by
    have := countTo_le ks n m
    unfold countTo
    split <;> omega

/-! ### lists without doubles -/
theorem length_le_of_subset {β : Type} [DecidableEq β] : ∀ {l l' : List β}, l.Nodup → (∀ x, x ∈ l → x ∈ l') → l.length ≤ l'.length
  | [], l', _, _ => Nat.zero_le _
  | a :: l, l', hn, hs => by
    obtain ⟨h1, h2⟩ := List.nodup_cons.1 hn
    have ha : a ∈ l' := hs a (List.mem_cons_self ..)
    have ih := length_le_of_subset (l := l) (l' := l'.erase a) h2 (fun x hx => by
      have hx' : x ∈ l' := hs x (List.mem_cons_of_mem _ hx)
      have hne : x ≠ a := fun e => h1 (e ▸ hx)
      exact (List.mem_erase_of_ne hne).2 hx')
    have hl := List.length_erase_of_mem ha
    have hp : 0 < l'.length := List.length_pos_of_mem ha
    simp only [List.length_cons]
    omega

theorem subset_of_length {β : Type} [DecidableEq β] {l l' : List β} (hn : l.Nodup) (hs : ∀ x, x ∈ l → x ∈ l') (hl : l'.length ≤ l.length) : ∀ x, x ∈ l' → x ∈ l := by
  intro x hx
  by_cases hm : x ∈ l
  · exact hm
  · exfalso
    have := length_le_of_subset (l := x :: l) (l' := l') (List.nodup_cons.2 ⟨hm, hn⟩) (fun y hy => by
      rcases List.mem_cons.1 hy with e | hy
      · exact e ▸ hx
      · exact hs y hy)
    simp only [List.length_cons] at this
    omega

/-! ### the dictionary -/
/-- No key stands twice. -/
def Keys (E : List (α × Int)) : Prop := E.Pairwise (fun p q => p.1 ≠ q.1)

theorem Keys.nodup {E : List (α × Int)} (h : Keys E) : E.Nodup := by
  induction E with
  | nil => exact List.nodup_nil
  | cons p E ih =>
    obtain ⟨h1, h2⟩ := List.pairwise_cons.1 h
    exact List.nodup_cons.2 ⟨fun hm => h1 p hm rfl, ih h2⟩

theorem Keys.one {E : List (α × Int)} (h : Keys E) {k : α} {x y : Int} (hx : (k, x) ∈ E) (hy : (k, y) ∈ E) : x = y := by
  induction E with
  | nil => simp at hx
  | cons p E ih =>
    obtain ⟨h1, h2⟩ := List.pairwise_cons.1 h
    rcases List.mem_cons.1 hx with ex | hx
    · rcases List.mem_cons.1 hy with ey | hy
      · have := ex.trans ey.symm
        exact (Prod.mk.inj this).2
      · exact absurd (by rw [← ex]) (h1 _ hy)
    · rcases List.mem_cons.1 hy with ey | hy
      · exact absurd (by rw [← ey]) (h1 _ hx)
      · exact ih h2 hx hy

/-- Written at k. -/
def put (E : List (α × Int)) (k : α) (x : Int) : List (α × Int) := (k, x) :: E.filter (fun p => p.1 ≠ k)

theorem mem_put {E : List (α × Int)} {k j : α} {x y : Int} : (j, y) ∈ put E k x ↔ (j = k ∧ y = x) ∨ (j ≠ k ∧ (j, y) ∈ E) := by
  unfold put
  simp only [List.mem_cons, Prod.mk.injEq, List.mem_filter, decide_eq_true_eq, ne_eq]
  constructor
  · rintro (h | h)
    · exact Or.inl h
    · exact Or.inr ⟨h.2, h.1⟩
  · rintro (h | h)
    · exact Or.inl h
    · exact Or.inr ⟨h.2, h.1⟩

theorem keys_put {E : List (α × Int)} (h : Keys E) (k : α) (x : Int) : Keys (put E k x) := by
  refine List.pairwise_cons.2 ⟨?_, h.filter _⟩
  intro q hq
  have := (List.mem_filter.1 hq).2
  simp only [ne_eq, decide_eq_true_eq] at this
  exact fun e => this e.symm

theorem filter_absent {E : List (α × Int)} {k : α} (h : ∀ x, (k, x) ∉ E) : E.filter (fun p => p.1 ≠ k) = E := by
  refine List.filter_eq_self.2 ?_
  intro p hp
  simp only [ne_eq, decide_eq_true_eq]
  exact fun e => h p.2 (by rw [← e]; exact hp)

theorem length_put_absent {E : List (α × Int)} {k : α} (h : ∀ x, (k, x) ∉ E) (x : Int) : (put E k x).length = E.length + 1 := by
  unfold put
  rw [filter_absent h]
  rfl

theorem length_put_there {E : List (α × Int)} (hk : Keys E) {k : α} {y : Int} (h : (k, y) ∈ E) (x : Int) : (put E k x).length = E.length := by
  induction E with
  | nil => simp at h
  | cons p E ih =>
    obtain ⟨h1, h2⟩ := List.pairwise_cons.1 hk
    by_cases e : p.1 = k
    · have hab : ∀ x, (k, x) ∉ E := fun z hz => h1 _ hz e
      unfold put
      rw [List.filter_cons_of_neg (by simp [e]), filter_absent hab]
      rfl
    · have hm : (k, y) ∈ E := by
        rcases List.mem_cons.1 h with e' | h
        · exact absurd (by rw [← e']) e
        · exact h
      have := ih h2 hm
      unfold put at this ⊢
      rw [List.filter_cons_of_pos (by simp [e])]
      simp only [List.length_cons] at this ⊢
      omega

/-- The dictionary of the first n writes. -/
def dictTo (ks : List α) (vs : List Int) : Nat → List (α × Int)
  | 0 => []
  | n + 1 => match ks[n]? with
    | some k => put (dictTo ks vs n) k (vs.getD n 0)
    | none => dictTo ks vs n

theorem dictTo_succ {ks : List α} {n : Nat} {k : α} (h : ks[n]? = some k) (vs : List Int) : dictTo ks vs (n + 1) = put (dictTo ks vs n) k (vs.getD n 0) := by
  simp [dictTo, h]

theorem keys_dictTo (ks : List α) (vs : List Int) : ∀ n, Keys (dictTo ks vs n)
  | 0 => List.Pairwise.nil
  | n + 1 => by
    unfold dictTo
    split
    · exact keys_put (keys_dictTo ks vs n) _ _
    · exact keys_dictTo ks vs n

theorem mem_dictTo (ks : List α) (vs : List Int) : ∀ n (k : α) (x : Int), (k, x) ∈ dictTo ks vs n ↔ ∃ j : Nat, lastIdx ks k n = (j : Int) ∧ x = vs.getD j 0
  | 0, k, x => by
    simp only [dictTo, List.not_mem_nil, lastIdx, false_iff]
    rintro ⟨j, hj, _⟩
    omega
  | n + 1, k, x => by
    have ih := mem_dictTo ks vs n k x
    cases hn : ks[n]? with
    | none =>
      have e : dictTo ks vs (n + 1) = dictTo ks vs n := by simp [dictTo, hn]
      have e2 : lastIdx ks k (n + 1) = lastIdx ks k n := by simp [lastIdx, hn]
      rw [e, e2]
      exact ih
    | some k0 =>
      rw [dictTo_succ hn, mem_put, ih]
      by_cases hk : k = k0
      · subst hk
        have e2 : lastIdx ks k (n + 1) = (n : Int) := by simp [lastIdx, hn]
        rw [e2]
        constructor
        · rintro (⟨_, h⟩ | ⟨h, _⟩)
          · exact ⟨n, rfl, h⟩
          · exact absurd rfl h
        · rintro ⟨j, hj, hx⟩
          have : j = n := by omega
          subst this
          exact Or.inl ⟨rfl, hx⟩
      · have e2 : lastIdx ks k (n + 1) = lastIdx ks k n := by
          have : ¬ k0 = k := fun e => hk e.symm
          simp [lastIdx, hn, this]
        rw [e2]
        simp [hk]

/-- The keys' last places, in their order. -/
def lasts (ks : List α) (n : Nat) : List Nat := (List.range n).filter (isLast ks n)

theorem countTo_eq (ks : List α) (n : Nat) : ∀ m, countTo ks n m = ((List.range m).filter (isLast ks n)).length
  | 0 => rfl
  | m + 1 => by
    rw [List.range_succ, List.filter_append, List.length_append, ← countTo_eq ks n m]
    cases h : isLast ks n m <;> simp [countTo, h]

theorem mem_lasts {ks : List α} {n i : Nat} : i ∈ lasts ks n ↔ ∃ k, ks[i]? = some k ∧ lastIdx ks k n = (i : Int) := by
  unfold lasts
  simp only [List.mem_filter, List.mem_range]
  constructor
  · rintro ⟨_, h⟩
    unfold isLast at h
    split at h
    · rename_i k hk
      exact ⟨k, hk, by simpa using h⟩
    · simp at h
  · rintro ⟨k, hk, hl⟩
    refine ⟨?_, by rw [isLast_of hk]; simpa using hl⟩
    have := (lastIdx_lt ks k n).2
    omega

/-- How many keys are different is how long the dictionary is. -/
theorem length_dictTo (ks : List α) (vs : List Int) (n : Nat) : (dictTo ks vs n).length = countTo ks n n := by
  rw [countTo_eq]
  show _ = (lasts ks n).length
  have hL : (lasts ks n).Nodup := (List.nodup_range).filter _
  have h1 : (lasts ks n).length ≤ (dictTo ks vs n).length := by
    -- each last place is a key's
    have hle := length_le_of_subset (l := (lasts ks n).map (fun i => (ks[i]?))) (l' := (dictTo ks vs n).map (fun p => some p.1)) ?_ ?_
    · simpa using hle
    · refine List.pairwise_map.2 (hL.imp_of_mem ?_)
      intro a b ha hb hab e
      obtain ⟨k, hk, hl⟩ := mem_lasts.1 ha
      obtain ⟨k', hk', hl'⟩ := mem_lasts.1 hb
      rw [hk, hk'] at e
      have e' := Option.some.inj e
      subst e'
      rw [hl] at hl'
      exact hab (by omega)
    · intro x hx
      obtain ⟨i, hi, rfl⟩ := List.mem_map.1 hx
      obtain ⟨k, hk, hl⟩ := mem_lasts.1 hi
      rw [hk]
      exact List.mem_map.2 ⟨(k, vs.getD i 0), (mem_dictTo ks vs n k _).2 ⟨i, hl, rfl⟩, rfl⟩
  have h2 : (dictTo ks vs n).length ≤ (lasts ks n).length := by
    have hle := length_le_of_subset (l := (dictTo ks vs n).map (fun p => lastIdx ks p.1 n)) (l' := (lasts ks n).map (fun i : Nat => (i : Int))) ?_ ?_
    · simpa using hle
    · refine List.pairwise_map.2 ((keys_dictTo ks vs n).imp_of_mem ?_)
      intro a b ha hb hab e
      obtain ⟨j, hj, _⟩ := (mem_dictTo ks vs n a.1 a.2).1 ha
      obtain ⟨j', hj', _⟩ := (mem_dictTo ks vs n b.1 b.2).1 hb
      rw [hj, hj'] at e
      have : j = j' := by omega
      subst this
      have g1 := (lastIdx_get ks a.1 n j hj).1
      have g2 := (lastIdx_get ks b.1 n j hj').1
      rw [g1] at g2
      exact hab (Option.some.inj g2)
    · intro x hx
      obtain ⟨p, hp, rfl⟩ := List.mem_map.1 hx
      obtain ⟨j, hj, _⟩ := (mem_dictTo ks vs n p.1 p.2).1 hp
      exact List.mem_map.2 ⟨j, mem_lasts.2 ⟨p.1, (lastIdx_get ks p.1 n j hj).1, hj⟩, by rw [hj]⟩
  omega

/-- What '(*Map).Equals' finds. -/
def Same (E F : List (α × Int)) : Prop := E.length = F.length ∧ ∀ p, p ∈ E → p ∈ F

theorem Same.symm {E F : List (α × Int)} (hE : Keys E) (h : Same E F) : Same F E :=
  ⟨h.1.symm, subset_of_length hE.nodup h.2 (Nat.le_of_eq h.1.symm)⟩

theorem same_of_mem {E F : List (α × Int)} (hE : Keys E) (hF : Keys F) (h : ∀ p, p ∈ E ↔ p ∈ F) : Same E F :=
  ⟨Nat.le_antisymm (length_le_of_subset hE.nodup (fun p => (h p).1)) (length_le_of_subset hF.nodup (fun p => (h p).2)), fun p => (h p).1⟩

/-- Does every last place i below m of the first find its key in the second, with the same number? -/
def ModelTo (ka : List α) (va : List Int) (na : Nat) (kb : List α) (vb : List Int) (nb : Nat) (m : Nat) : Prop :=
  ∀ i, i < m → ∀ k, ka[i]? = some k → lastIdx ka k na = (i : Int) → ∃ j : Nat, lastIdx kb k nb = (j : Int) ∧ vb.getD j 0 = va.getD i 0

theorem same_iff_model (ka : List α) (va : List Int) (na : Nat) (kb : List α) (vb : List Int) (nb : Nat) :
    Same (dictTo ka va na) (dictTo kb vb nb) ↔ (countTo ka na na = countTo kb nb nb ∧ ModelTo ka va na kb vb nb na) := by
  unfold Same
  rw [length_dictTo, length_dictTo]
  refine and_congr_right fun _ => ?_
  constructor
  · intro h i hi k hk hl
    obtain ⟨j, hj, hx⟩ := (mem_dictTo kb vb nb k _).1 (h (k, va.getD i 0) ((mem_dictTo ka va na k _).2 ⟨i, hl, rfl⟩))
    exact ⟨j, hj, hx.symm⟩
  · rintro h ⟨k, x⟩ hp
    obtain ⟨i, hl, hx⟩ := (mem_dictTo ka va na k x).1 hp
    obtain ⟨hk, hi⟩ := lastIdx_get ka k na i hl
    obtain ⟨j, hj, hv⟩ := h i hi k hk hl
    exact (mem_dictTo kb vb nb k x).2 ⟨j, hj, by rw [hv]; exact hx⟩

end Go.Proofs.Yoeftw.Plain
