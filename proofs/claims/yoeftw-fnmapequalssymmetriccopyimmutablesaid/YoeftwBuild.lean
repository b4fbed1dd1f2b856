/-
  buildMap (function 10).
-/
import Derived.Test.YoeftwMap
import Derived.Deep.RegionHeld3
namespace Go.Proofs.Yoeftw
open Go.RowKit Go.Maps Go.WideMaps

/-- Block o is a Map struct whose field Value is the map in block mb. -/
def PtrIn (w : World) (o mb : Nat) : Prop := w.heap[o]? = some (.cells #[.map (some mb)] 41 (0, 0))

theorem PtrIn.lt {w : World} {b : Nat} {x : Nat} (h : PtrIn w b x) : b < w.heap.size := (Array.getElem?_eq_some_iff.1 h).1
theorem PtrIn.cell {w : World} {b : Nat} {x : Nat} (h : PtrIn w b x) : w.cell? ⟨b, 0, none⟩ = some (.map (some x)) := by
  unfold PtrIn at h
  simp [World.cell?, h]
theorem PtrIn.kept {w w' : World} {row : Option Nat} {b : Nat} {x : Nat} (h : PtrIn w b x) (hg : w.grownBy w' row) (hne : some b ≠ row) : PtrIn w' b x := (hg.block b h.lt hne).trans h
theorem PtrIn.below {w w' : World} {b : Nat} {x : Nat} (h : PtrIn w b x) (hg : Below w.heap.size w w') : PtrIn w' b x := (hg.block b h.lt).trans h
theorem ptrIn_new (w : World) (x : Nat) : PtrIn (w.alloc (.cells #[.map (some x)] 41)) w.heap.size x := (MapKept.heap_alloc w _).1

/-- What buildMap leaves. -/
def Built (w w' : World) (n : Nat) (E : List (List UInt8 × Int)) (e : Ending) : Prop := ∃ o mb, e = .returned (.pointer (some ⟨o, 0, none⟩)) ∧ PtrIn w' o mb ∧ HoldsMap w' mb n E ∧ Below w.heap.size w w'

/-- One write, and what it leaves. -/
theorem put_step {wr : World} {mb k : Nat} {E : List (List UInt8 × Int)} (hm : HoldsMap wr mb k E) (hk : k < maxLen) {s : ByteArray} (hs : s.size ≤ maxLen) (x : Int) :
    ∃ w', (Instr.mapUpdate 39 (.map (some mb)) (.string s) (.iface 47 (.pointer (some ⟨wr.heap.size, 0, none⟩)))).run Eftg.prog (wr.alloc (.cells #[.int .i64 x] 49)).drew = .ok () w' ∧
      HoldsMap w' mb (k + 1) (Plain.put E s.data.toList x) ∧ wr.grownBy w' (some mb) := by
  obtain ⟨D, ho, hr⟩ := hm
  have ho1 : (wr.alloc (.cells #[.int .i64 x] 49)).drew.ownsMap Eftg.prog 9 objElem mb k D := (ho.alloc _).drew
  obtain ⟨w', hrun, ho2, hg⟩ := ho1.update law Eftg.underlying39 hk (keyOf_string_mk Eftg.underlying9 hs) (objElem_mk wr.heap.size)
  have hga : wr.grownBy (wr.alloc (.cells #[.int .i64 x] 49)).drew (some mb) := by
    have h0 := World.grownBy_alloc wr (.cells #[.int .i64 x] 49) (some mb)
    exact ⟨h0.os, h0.tape, h0.output, h0.size, h0.block⟩
  have hnew : IntIn (wr.alloc (.cells #[.int .i64 x] 49)).drew wr.heap.size x := intIn_new wr x
  refine ⟨w', hrun, ⟨_, ho2, hr.put (ho.tidy law) (fun b y hb => ?_) ?_ _⟩, hga.trans hg⟩
  · refine (hb.kept hga ?_).kept hg ?_ <;> exact fun e => hb.ne_map ho (Option.some.inj e)
  · refine hnew.kept hg (fun e => ?_)
    have := Option.some.inj e
    have hlt := ho.lt
    omega

theorem key_get {ss : List ByteArray} {k : Nat} {s : ByteArray} (hk : k < ss.length) (hs : s = ss.getD k ByteArray.empty) : (keysOf ss)[k]? = some s.data.toList := by
  rw [hs]
  exact key_at hk

theorem key_size {ss : List ByteArray} {k : Nat} {s : ByteArray} (hk : k < ss.length) (hs : s = ss.getD k ByteArray.empty) (h : ∀ s ∈ ss, s.size ≤ maxLen) : s.size ≤ maxLen := by
  rw [hs, List.getD, List.getElem?_eq_getElem hk]
  exact h _ (List.getElem_mem hk)

set_option maxRecDepth 100000 in
set_option maxHeartbeats 2000000 in
theorem build_core (A C : Option Addr) (la ca lc cc n bk ok bv ov : Nat) (ss : List ByteArray) (zs : List Int) (w : World) (hn : n ≤ 1048576) (hna : n ≤ la) (hnc : n ≤ lc)
    (hA : n ≤ 0 ∨ (A = some ⟨bk, ok, none⟩ ∧ C = some ⟨bv, ov, none⟩)) (hss : ss.length = la) (hsz : ∀ s ∈ ss, s.size ≤ maxLen)
    (hck : ∀ i, i < n → w.cell? ⟨bk, ok + i, none⟩ = some (.string (ss.getD i ByteArray.empty)))
    (hcv : ∀ i, i < n → w.cell? ⟨bv, ov + i, none⟩ = some (.int .i64 (zs.getD i 0))) :
    Calls Eftg.prog 10 #[.slice A la ca, .slice C lc cc, .int .i64 n] w fun e w' => Built w w' n (Plain.dictTo (keysOf ss) zs n) e := by
  have hmm := @run_makeMap Eftg.prog
  have HK : Hid (∀ i, i < n → w.cell? ⟨bk, ok + i, none⟩ = some (.string (ss.getD i ByteArray.empty))) := hck
  have HV : Hid (∀ i, i < n → w.cell? ⟨bv, ov + i, none⟩ = some (.int .i64 (zs.getD i 0))) := hcv
  have HL : Hid (ss.length = la) := hss
  have HZ : Hid (∀ s ∈ ss, s.size ≤ maxLen) := hsz
  clear hck hcv hss hsz
  rcases hA with hA0 | ⟨rfl, rfl⟩
  all_goals
    go_enter Eftg.func10, Eftg.ntmps10
    go_wp2
    clear hmm
    go_loopw [8] (fun i wr => ∃ k : Nat, k ≤ n ∧ i = .int .i64 k ∧ HoldsMap wr w.heap.size k (Plain.dictTo (keysOf ss) zs k) ∧ PtrIn wr (w.heap.size + 1) w.heap.size ∧ Below w.heap.size w wr) (fun i _ => n - (intOf i).toNat)
    case atStart =>
      refine ⟨0, Nat.zero_le _, rfl, ⟨.map [], (World.ownsMap_made _ _ _ _).alloc _, reads_empty _⟩, ?_, ((Below.refl _ _).alloc (Nat.le_refl _) _).alloc (by simp) _⟩
      have hp := ptrIn_new (w.alloc (.map #[] 0)) w.heap.size
      rw [show (w.alloc (.map #[] 0)).heap.size = w.heap.size + 1 from by simp] at hp
      exact hp
    case round =>
      obtain ⟨k, hk, rfl, hm, hp, hbel⟩ := hrel
      by_cases hlt : k < n
      · first
        | (exfalso; omega)
        | (obtain ⟨s, hs⟩ : ∃ s, s = ss.getD k ByteArray.empty := ⟨_, rfl⟩
           obtain ⟨x, hx⟩ : ∃ x, x = zs.getD k 0 := ⟨_, rfl⟩
           have b1 : bk < w.heap.size := block_lt_of_cell (HK.out k hlt)
           have b2 : bv < w.heap.size := block_lt_of_cell (HV.out k hlt)
           have c1 : wr.cell? ⟨bk, ok + k, none⟩ = some (.string s) := by
             rw [hs]
             exact (hbel.cell b1).trans (HK.out k hlt)
           have c2 : wr.cell? ⟨bv, ov + k, none⟩ = some (.int .i64 x) := by
             rw [hx]
             exact (hbel.cell b2).trans (HV.out k hlt)
           have c0 := hp.cell
           have hkl : k < ss.length := by rw [HL.out]; omega
           have hdict := Plain.dictTo_succ (key_get hkl hs) zs
           rw [← hx] at hdict
           obtain ⟨w2, hrun, hm2, hg2⟩ := put_step hm (by unfold maxLen; omega) (key_size hkl hs HZ.out) x
           have hp2 := hp.kept hg2 (by simp)
           have hb2 := hbel.grown hg2 hbel.size (fun j hj => by cases hj; exact Nat.le_refl _)
           rw [← hdict] at hm2
           have d0 := hp2.cell
           have d1 : w2.cell? ⟨bk, ok + k, none⟩ = some (.string s) := by
             rw [hs]
             exact (hb2.cell b1).trans (HK.out k hlt)
           have d2 : w2.cell? ⟨bv, ov + k, none⟩ = some (.int .i64 x) := by
             rw [hx]
             exact (hb2.cell b2).trans (HV.out k hlt)
           have HM : Hid (HoldsMap w2 w.heap.size (k + 1) (Plain.dictTo (keysOf ss) zs (k + 1)) ∧ PtrIn w2 (w.heap.size + 1) w.heap.size ∧ Below w.heap.size w w2) := ⟨hm2, hp2, hb2⟩
           clear hs hx hdict hm2 hp2 hb2 hg2 hm hp hbel hkl
           have n0 := World.new_ne wr _ c0
           have n1 := World.new_ne wr _ c1
           have n2 := World.new_ne wr _ c2
           have i0 : (0 : Int) ≤ (k : Int) := by omega
           have i1 : (k : Int) < (la : Int) := by omega
           have i2 : (k : Int) < (lc : Int) := by omega
           go_wp2
           go_region_held3 (fun w' => w'.cell? ⟨w.heap.size + 1, 0, none⟩ = some (.map (some w.heap.size)) ∧ w'.cell? ⟨bk, ok + k, none⟩ = some (.string s) ∧ w'.cell? ⟨bv, ov + k, none⟩ = some (.int .i64 x)) (go_keep) (fail)
           go_wp2
           go_roundw
           case rel => exact ⟨k + 1, by omega, by go_num, HM.out.1, HM.out.2.1, HM.out.2.2⟩
           case measure => simp [intOf]; omega)
      · obtain rfl : k = n := by omega
        have HM : Hid (HoldsMap wr w.heap.size k (Plain.dictTo (keysOf ss) zs k) ∧ PtrIn wr (w.heap.size + 1) w.heap.size ∧ Below w.heap.size w wr) := ⟨hm, hp, hbel⟩
        clear hm hp hbel
        go_wp2
        go_ret
        exact ⟨_, _, rfl, HM.out.2.1, HM.out.1, HM.out.2.2⟩

theorem build_any (A C : Option Addr) (la ca lc cc n : Nat) (ss : List ByteArray) (zs : List Int) (w : World) (hn : n ≤ 1048576) (hna : n ≤ la) (hnc : n ≤ lc) (hA : StrsAt w A la ss) (hC : IntsAt w C lc zs) :
    Calls Eftg.prog 10 #[.slice A la ca, .slice C lc cc, .int .i64 n] w fun e w' => Built w w' n (Plain.dictTo (keysOf ss) zs n) e := by
  obtain ⟨bk, ok, h1, h2⟩ := strs_view hA
  obtain ⟨bv, ov, h3, h4⟩ := ints_view hC
  refine build_core A C la ca lc cc n bk ok bv ov ss zs w hn hna hnc ?_ hA.1 hA.2.1 (fun i hi => h2 i (by omega)) (fun i hi => h4 i (by omega))
  rcases h1 with h1 | h1
  · exact Or.inl (by omega)
  · rcases h3 with h3 | h3
    · exact Or.inl (by omega)
    · exact Or.inr ⟨h1, h3⟩

end Go.Proofs.Yoeftw
