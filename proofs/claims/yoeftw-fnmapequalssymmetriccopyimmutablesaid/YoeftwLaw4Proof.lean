/-
  THE STATEMENT 'Rows.FnMapEqualsSymmetricCopyImmutableSaid': the frame (after the guide's own shell for slices: howto/shells/bytes-and-an-int) round the walk 'law4_any'.
-/
import Derived.Test.YoeftwRows
import Derived.Test.YoeftwLaw4
import Derived.WalkKit
import Derived.ProofKit
import Derived.ShutString
import Derived.ChangeOld
import Derived.Below
import Derived.SliceStrings
namespace Go.Proofs.Yoeftw.law4Proof
open Go.ChangeShapes Go.WideShapes Go.ChangeAt Go.RowKit Go.Proofs.Yoeftw
open Go.ChangeMaps (open_string shut_string)

theorem own : ownKnob Eftg.prog.godebug = none := by kernel_rfl
theorem laidOut : laidOutB Eftg.prog = true := by kernel_rfl

theorem add_none (b off i : Nat) : (⟨b, off, none⟩ : Addr).add i = ⟨b, off + i, none⟩ := by
  by_cases h : i = 0 <;> simp [Addr.add, h]

/-- A []string that came in. -/
theorem view_strs {H : Type} {enc : TypeId × Value → H} {W : World} {a : Option Addr} {len cap : Nat} {d : DataW H} {ps : List MemPlace} (h : DataW.Trod enc Eftg.prog W 0 (fun _ => true) true 22 (.slice a len cap) d ps) :
    ∃ ss, StrsAt W a len ss ∧ (a = none → cap = 0) ∧ len ≤ maxLen := by
  obtain ⟨fuel, hf⟩ := h
  rcases open_strings Eftg.underlying22 Eftg.underlying9 (by kernel_rfl) hf with ⟨hcs, _⟩ | ⟨x, l, c, ss, hcs, _, hl, hm, hz, _, hcell, hws⟩
  · simp [Value.cells] at hcs
    obtain ⟨rfl, rfl, rfl⟩ := hcs
    exact ⟨[], ⟨rfl, by simp, fun h => absurd h (by omega)⟩, fun _ => rfl, Nat.zero_le _⟩
  · simp [Value.cells] at hcs
    obtain ⟨rfl, rfl, rfl⟩ := hcs
    have hz' : ss.length = cap := by simpa using hz
    refine ⟨ss.take len, ⟨by simp; omega, fun s hs => hws s (List.mem_of_mem_take hs), fun hp => ?_⟩, fun h => (by cases h), Nat.le_trans hl hm⟩
    obtain ⟨b, off, spot⟩ := x
    have h0 := hcell 0 (by omega)
    have hspot : spot = none := by simpa [Addr.add] using World.cell?_spot h0
    subst hspot
    refine ⟨b, off, rfl, fun i hi => ?_⟩
    have hi' := hcell i (by omega)
    rw [add_none] at hi'
    rw [hi']
    simp [hi]

/-- A []int64 that came in. -/
theorem view_ints {H : Type} {enc : TypeId × Value → H} {W : World} {a : Option Addr} {len cap : Nat} {d : DataW H} {ps : List MemPlace} (h : DataW.Trod enc Eftg.prog W 0 (fun _ => true) true 23 (.slice a len cap) d ps) :
    ∃ zs, IntsAt W a len zs ∧ (a = none → cap = 0) := by
  obtain ⟨fuel, hf⟩ := h
  rcases open_ints Eftg.underlying23 Eftg.underlying2 (by kernel_rfl) hf with ⟨hcs, _⟩ | ⟨x, l, c, zs, hcs, _, hl, hm, hz, _, hcell, hwz⟩
  · simp [Value.cells] at hcs
    obtain ⟨rfl, rfl, rfl⟩ := hcs
    exact ⟨[], ⟨rfl, fun h => absurd h (by omega)⟩, fun _ => rfl⟩
  · simp [Value.cells] at hcs
    obtain ⟨rfl, rfl, rfl⟩ := hcs
    have hz' : zs.length = cap := by simpa using hz
    refine ⟨zs.take len, ⟨by simp; omega, fun hp => ?_⟩, fun h => (by cases h)⟩
    obtain ⟨b, off, spot⟩ := x
    have h0 := hcell 0 (by omega)
    have hspot : spot = none := by simpa [Addr.add] using World.cell?_spot h0
    subst hspot
    refine ⟨b, off, rfl, fun i hi => ?_⟩
    have hi' := hcell i (by omega)
    rw [add_none] at hi'
    rw [hi']
    simp [hi]

set_option maxRecDepth 100000 in
theorem lifted (os : Os) (started : os.Started) (H : Type) (enc : TypeId × Value → H) :
    ReturnsInHanded {} Eftg.checked os 4 .any (Rows.fnMapEqualsSymmetricCopyImmutableSpec.pre6 enc Eftg.prog Eftg.f4 Rows.fnMapEqualsSymmetricCopyImmutableRow.domain false) (Rows.fnMapEqualsSymmetricCopyImmutableSpec.post enc Eftg.prog Eftg.f4 false true false false) := by
  refine returnsInHanded_of_change (C := Eftg.checked) own started (by kernel_rfl) Eftg.func4
    (ChangeSpec.witness6 (enc := enc) (C := Eftg.checked) false ⟨#[], #[.slice none 0 0, .slice none 0 0, .slice none 0 0, .slice none 0 0], []⟩ 8 (by kernel_rfl) (by kernel_rfl) (by kernel_rfl) (by kernel_rfl)) ?_
  intro W base args ds gs before hval0 hW hcnd _
  have hval : ∀ (j : Nat) t v, Eftg.f4.params[j]? = some t → args[j]? = some v → Value.okWide Eftg.prog W .any base t v := hval0
  have hW' := hW
  obtain ⟨p, q, hA0, hV, rfl, hfz, hnd⟩ := hW
  have hA : DataW.TrodAll enc Eftg.prog W 0 (fun _ => true) true Eftg.f4.params.toList args.toList ds p := hA0
  rw [Eftg.params4] at hA hval
  obtain ⟨v0, vs0, d0, ds0, p0, q0, hargs, rfl, rfl, h0, r0⟩ := trodAll_cons hA
  obtain ⟨v1, vs1, d1, ds1, p1, q1, rfl, rfl, rfl, h1, r1⟩ := trodAll_cons r0
  obtain ⟨v2, vs2, d2, ds2, p2, q2, rfl, rfl, rfl, h2, r2⟩ := trodAll_cons r1
  obtain ⟨v3, vs3, d3, ds3, p3, q3, rfl, rfl, rfl, h3, r3⟩ := trodAll_cons r2
  obtain ⟨rfl, rfl, rfl⟩ := trodAll_nil r3
  obtain rfl : args = #[v0, v1, v2, v3] := by cases args; simp_all
  obtain ⟨rfl, rfl⟩ := trodVars_none hV
  obtain ⟨a0, len0, cap0, rfl⟩ := okWide_slice Eftg.underlying22 (hval 0 22 v0 rfl rfl)
  obtain ⟨a1, len1, cap1, rfl⟩ := okWide_slice Eftg.underlying23 (hval 1 23 v1 rfl rfl)
  obtain ⟨a2, len2, cap2, rfl⟩ := okWide_slice Eftg.underlying22 (hval 2 22 v2 rfl rfl)
  obtain ⟨a3, len3, cap3, rfl⟩ := okWide_slice Eftg.underlying23 (hval 3 23 v3 rfl rfl)
  have lt0 : ∀ x ∈ p0, x.block < W.heap.size := by obtain ⟨m, hm⟩ := h0; exact DataW.trod_lt m _ _ _ hm
  have lt1 : ∀ x ∈ p1, x.block < W.heap.size := by obtain ⟨m, hm⟩ := h1; exact DataW.trod_lt m _ _ _ hm
  have lt2 : ∀ x ∈ p2, x.block < W.heap.size := by obtain ⟨m, hm⟩ := h2; exact DataW.trod_lt m _ _ _ hm
  have lt3 : ∀ x ∈ p3, x.block < W.heap.size := by obtain ⟨m, hm⟩ := h3; exact DataW.trod_lt m _ _ _ hm
  obtain ⟨s0, w0, n0, m0⟩ := view_strs h0
  obtain ⟨z1, w1, n1⟩ := view_ints h1
  obtain ⟨s2, w2, n2, m2⟩ := view_strs h2
  obtain ⟨z3, w3, n3⟩ := view_ints h3
  clear hA0 hval0
  refine (law4_any a0 a1 a2 a3 len0 cap0 len1 cap1 len2 cap2 len3 cap3 s0 s2 z1 z3 W m0 m2 n0 n1 n2 n3 w0 w1 w2 w3).mono fun e W' ⟨he, bel⟩ => ?_
  subst he
  exact ⟨_, rfl, _, _, _, [], _, [], hW', trodAll_mk1 (shut_bool Eftg.underlying4 _), (trodAll_mk4 (Below.trod laidOut (by kernel_rfl) (of_decide_eq_true (by kernel_rfl)) h0 bel lt0) (Below.trod laidOut (by kernel_rfl) (of_decide_eq_true (by kernel_rfl)) h1 bel lt1) (Below.trod laidOut (by kernel_rfl) (of_decide_eq_true (by kernel_rfl)) h2 bel lt2) (Below.trod laidOut (by kernel_rfl) (of_decide_eq_true (by kernel_rfl)) h3 bel lt3)), rfl, bel.frame _, fun h => by cases h⟩

theorem over : Rows.fnMapEqualsSymmetricCopyImmutableRow.holds Eftg.pinned (OpenSpec.ofChange Rows.fnMapEqualsSymmetricCopyImmutableSpec) :=
  OpenClaim.holds_of_wide 4 Eftg.f4 rfl rfl rfl rfl rfl rfl rfl ⟨rfl, rfl, rfl, rfl, rfl⟩ rfl rfl rfl rfl rfl (by kernel_rfl) Eftg.func4 (by kernel_rfl)
    (of_decide_eq_true (by kernel_rfl)) (by unfold Func.isWrapper; first | (rw [if_pos (by decide +kernel)]; kernel_rfl) | (rw [if_neg (by decide +kernel)]; exact ⟨rfl, rfl⟩))
    (fun os started H enc _ => lifted os started H enc)

end Go.Proofs.Yoeftw.law4Proof
namespace Go.Proofs.Yoeftw

/-- THE STATEMENT. -/
theorem fnMapEqualsSymmetricCopyImmutable_proved : Rows.FnMapEqualsSymmetricCopyImmutableSaid := law4Proof.over

end Go.Proofs.Yoeftw
