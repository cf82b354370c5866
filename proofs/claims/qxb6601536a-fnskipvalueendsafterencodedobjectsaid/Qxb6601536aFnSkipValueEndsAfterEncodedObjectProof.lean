/-
  'Qxb6601536a.Rows.FnSkipValueEndsAfterEncodedObjectSaid', proved: the frame after the guide's own shell for the seat's other law; the walk stands in the texts that it imports.
-/
import Derived.Test.Qxb6601536aRows
import Derived.WalkKit
import Derived.ProofKit
import Derived.OpenShut
import Derived.ShutString
import Derived.ChangeOld
import Derived.Below
import Derived.Deep.Slices
import Derived.Test.Qxb6601536aLawV
namespace Go.Proofs.Qxb6601536a.fnSkipValueEndsAfterEncodedObject
open Go.ChangeShapes Go.WideShapes Go.ChangeAt Go.RowKit

theorem own : ownKnob Try.prog.godebug = none := by kernel_rfl
theorem laidOut : laidOutB Try.prog = true := by kernel_rfl

/-- a slice of bytes that was read: an item -/
theorem item_of {H : Type} {enc : TypeId × Value → H} {W : World} {fuel : Nat} {v : Value} {x : DataW H × List MemPlace} (h : DataW.trod enc Try.prog W 0 (fun _ => true) true fuel 22 [v] = some x) :
    ∃ it : Item, v = it.val ∧ Arg W it.1 it.2.1 it.2.2 ∧ it.2.2.length ≤ maxLen := by
  rcases open_ints Try.underlying22 Try.underlying5 (by kernel_rfl) h with ⟨hcs, _⟩ | ⟨a, len, cap, zs, hcs, _, hl, hm, hz, _, hc, hw⟩
  · simp at hcs
    subst hcs
    exact ⟨(none, 0, []), rfl, .inl ⟨rfl, rfl, rfl⟩, by simp [maxLen]⟩
  · simp at hcs
    subst hcs
    simp only [if_true] at hz
    have el : ((zs.take len).map (fun z => UInt8.ofNat z.toNat)).length = len := by simp; omega
    refine ⟨(some a, cap, (zs.take len).map (fun z => UInt8.ofNat z.toNat)), by rw [Item.val, el], .inr ⟨a, rfl, fun j b hb => ?_⟩, by rw [el]; omega⟩
    rw [List.getElem?_map, Option.map_eq_some_iff] at hb
    obtain ⟨z, hz1, rfl⟩ := hb
    rw [List.getElem?_take] at hz1
    split at hz1
    · have hj : j < zs.length := (List.getElem?_eq_some_iff.1 hz1).1
      have hbd := bounds_u8 (hw z (List.mem_of_getElem? hz1))
      have e : zs.getD j 0 = z := by simp [List.getD, hz1]
      rw [hc j hj, e]
      have e2 : ((UInt8.ofNat z.toNat).toNat : Int) = z := by simp; omega
      rw [e2]
    · cases hz1

/-- a slice of such slices that was read -/
theorem args_of {H : Type} {enc : TypeId × Value → H} {W : World} {fuel : Nat} {a : Option Addr} {len cap : Nat} {x : DataW H × List MemPlace} (h : DataW.trod enc Try.prog W 0 (fun _ => true) true fuel 29 [.slice a len cap] = some x) :
    ∃ its : List Item, its.length = len ∧ len ≤ maxLen ∧ Args W a its ∧ ∀ (j : Nat) (it : Item), its[j]? = some it → it.2.2.length ≤ maxLen := by
  rcases Deep.open_slice1 Try.underlying29 (by kernel_rfl) h with ⟨hcs, _⟩ | ⟨a', len', cap', m, n, V, D, Pl, hcs, _, hl, hm, hmm, _, hV⟩
  · simp at hcs
    obtain ⟨rfl, rfl, rfl⟩ := hcs
    exact ⟨[], rfl, by simp [maxLen], .inl rfl, fun j it h => by simp at h⟩
  · simp at hcs
    obtain ⟨rfl, rfl, rfl⟩ := hcs
    simp only [if_true] at hmm
    obtain ⟨f, hf⟩ := Deep.choose_lt (α := Item) (p := fun i it => W.cell? (a'.add i) = some it.val ∧ Arg W it.1 it.2.1 it.2.2 ∧ it.2.2.length ≤ maxLen) (n := len) (fun i hi => by
      obtain ⟨h1, h2⟩ := hV i (by omega)
      obtain ⟨it, e, h3, h4⟩ := item_of h2
      exact ⟨it, by rw [h1, e], h3, h4⟩)
    have hget : ∀ (j : Nat) (it : Item), ((List.range len).map f)[j]? = some it → j < len ∧ f j = it := fun j it h => by
      rw [List.getElem?_map, Option.map_eq_some_iff] at h
      obtain ⟨i, hi, rfl⟩ := h
      have hjl : j < len := by simpa using (List.getElem?_eq_some_iff.1 hi).1
      rw [List.getElem?_range hjl] at hi
      cases hi
      exact ⟨hjl, rfl⟩
    refine ⟨(List.range len).map f, by simp, by omega, ?_, fun j it h => ?_⟩
    · by_cases h0 : len = 0
      · exact .inl (by rw [h0]; rfl)
      · right
        obtain ⟨b, off, spot⟩ := a'
        have hc0 := (hf 0 (by omega)).1
        have hspot : spot = none := by simpa [Addr.add] using World.cell?_spot hc0
        subst hspot
        refine ⟨b, off, rfl, ?_, fun j it hj => ?_⟩
        · rw [add_plain'] at hc0
          exact World.block_lt_of_cell? W _ hc0
        · obtain ⟨h1, h2⟩ := hget j it hj
          have := hf j h1
          rw [h2, add_plain'] at this
          exact ⟨this.1, this.2.1⟩
    · obtain ⟨h1, h2⟩ := hget j it h
      have := hf j h1
      rw [h2] at this
      exact this.2.2

/-! ### THE ROW's STEP: WRITTEN OUT: LEAVE IT -/
set_option maxRecDepth 100000 in
theorem lifted (os : Os) (started : os.Started) (H : Type) (enc : TypeId × Value → H) :
    ReturnsInHanded {} Try.checked os 7 .any (Rows.fnSkipValueEndsAfterEncodedObjectSpec.pre6 enc Try.prog Try.f7 Rows.fnSkipValueEndsAfterEncodedObjectRow.domain false) (Rows.fnSkipValueEndsAfterEncodedObjectSpec.post enc Try.prog Try.f7 false true false false) := by
  refine returnsInHanded_of_change (C := Try.checked) own started (by kernel_rfl) Try.func7
    (ChangeSpec.witness6 (enc := enc) (C := Try.checked) false ⟨#[], #[.slice none 0 0, .slice none 0 0, .slice none 0 0, .slice none 0 0], []⟩ 8 (by kernel_rfl) (by kernel_rfl) (by kernel_rfl) (by kernel_rfl)) ?_
  intro W base args ds gs before hval0 hW hcnd _
  have hval : ∀ (j : Nat) t v, Try.f7.params[j]? = some t → args[j]? = some v → Value.okWide Try.prog W .any base t v := hval0
  have hW' := hW
  obtain ⟨p, q, hA0, hV, rfl, hfz, hnd⟩ := hW
  have hA : DataW.TrodAll enc Try.prog W 0 (fun _ => true) true Try.f7.params.toList args.toList ds p := hA0
  rw [Try.params7] at hA hval
  obtain ⟨v0, vs0, d0, ds0, p0, q0, hargs, rfl, rfl, h0, r0⟩ := trodAll_cons hA
  obtain ⟨v1, vs1, d1, ds1, p1, q1, rfl, rfl, rfl, h1, r1⟩ := trodAll_cons r0
  obtain ⟨v2, vs2, d2, ds2, p2, q2, rfl, rfl, rfl, h2, r2⟩ := trodAll_cons r1
  obtain ⟨v3, vs3, d3, ds3, p3, q3, rfl, rfl, rfl, h3, r3⟩ := trodAll_cons r2
  obtain ⟨rfl, rfl, rfl⟩ := trodAll_nil r3
  obtain rfl : args = #[v0, v1, v2, v3] := by cases args; simp_all
  obtain ⟨rfl, rfl⟩ := trodVars_none hV
  have k0 := h0
  have lt0 : ∀ x ∈ p0, x.block < W.heap.size := by obtain ⟨m, hm⟩ := k0; exact DataW.trod_lt m _ _ _ hm
  obtain ⟨a0, len0, cap0, rfl⟩ := okWide_slice Try.underlying22 (hval 0 22 v0 rfl rfl)
  obtain ⟨it0, e0, w0, b0⟩ : ∃ it : Item, Value.slice a0 len0 cap0 = it.val ∧ Arg W it.1 it.2.1 it.2.2 ∧ it.2.2.length ≤ maxLen := by
    obtain ⟨fuel, hf⟩ := h0
    exact item_of hf
  have k1 := h1
  have lt1 : ∀ x ∈ p1, x.block < W.heap.size := by obtain ⟨m, hm⟩ := k1; exact DataW.trod_lt m _ _ _ hm
  obtain ⟨a1, len1, cap1, rfl⟩ := okWide_slice Try.underlying22 (hval 1 22 v1 rfl rfl)
  obtain ⟨it1, e1, w1, b1⟩ : ∃ it : Item, Value.slice a1 len1 cap1 = it.val ∧ Arg W it.1 it.2.1 it.2.2 ∧ it.2.2.length ≤ maxLen := by
    obtain ⟨fuel, hf⟩ := h1
    exact item_of hf
  have k2 := h2
  have lt2 : ∀ x ∈ p2, x.block < W.heap.size := by obtain ⟨m, hm⟩ := k2; exact DataW.trod_lt m _ _ _ hm
  obtain ⟨a2, len2, cap2, rfl⟩ := okWide_slice Try.underlying22 (hval 2 22 v2 rfl rfl)
  obtain ⟨it2, e2, w2, b2⟩ : ∃ it : Item, Value.slice a2 len2 cap2 = it.val ∧ Arg W it.1 it.2.1 it.2.2 ∧ it.2.2.length ≤ maxLen := by
    obtain ⟨fuel, hf⟩ := h2
    exact item_of hf
  have k3 := h3
  have lt3 : ∀ x ∈ p3, x.block < W.heap.size := by obtain ⟨m, hm⟩ := k3; exact DataW.trod_lt m _ _ _ hm
  obtain ⟨a3, len3, cap3, rfl⟩ := okWide_slice Try.underlying29 (hval 3 29 v3 rfl rfl)
  obtain ⟨its, e3, b3, w3, b4⟩ : ∃ its : List Item, its.length = len3 ∧ len3 ≤ maxLen ∧ Args W a3 its ∧ ∀ (j : Nat) (it : Item), its[j]? = some it → it.2.2.length ≤ maxLen := by
    obtain ⟨fuel, hf⟩ := h3
    exact args_of hf
  clear hA0 hval0
  subst e3
  have hwalk := lawV_walk W it0.2.2 it1.2.2 it2.2.2 it0.1 it1.1 it2.1 a3 it0.2.1 it1.2.1 it2.2.1 cap3 its w0 w1 w2 w3 b0 b1 b2 b3 b4
  change Calls Try.prog 7 #[it0.val, it1.val, it2.val, .slice a3 its.length cap3] W (RetTrue W) at hwalk
  rw [← e0, ← e1, ← e2] at hwalk
  refine hwalk.mono fun e W' ⟨he, bel⟩ => ?_
  subst he
  exact ⟨_, rfl, _, _, _, [], _, [], hW', trodAll_mk1 (shut_bool Try.underlying4 _), (trodAll_cons_mk (Below.trod laidOut (by kernel_rfl) (of_decide_eq_true (by kernel_rfl)) k0 bel lt0) (trodAll_cons_mk (Below.trod laidOut (by kernel_rfl) (of_decide_eq_true (by kernel_rfl)) k1 bel lt1) (trodAll_cons_mk (Below.trod laidOut (by kernel_rfl) (of_decide_eq_true (by kernel_rfl)) k2 bel lt2) (trodAll_cons_mk (Below.trod laidOut (by kernel_rfl) (of_decide_eq_true (by kernel_rfl)) k3 bel lt3) trodAll_mk0)))), rfl, bel.frame _, fun h => by cases h⟩

theorem over : Rows.fnSkipValueEndsAfterEncodedObjectRow.holds Try.pinned (OpenSpec.ofChange Rows.fnSkipValueEndsAfterEncodedObjectSpec) :=
  OpenClaim.holds_of_wide 7 Try.f7 rfl rfl rfl rfl rfl rfl rfl ⟨rfl, rfl, rfl, rfl, rfl⟩ rfl rfl rfl rfl rfl (by kernel_rfl) Try.func7 (by kernel_rfl)
    (of_decide_eq_true (by kernel_rfl)) (by unfold Func.isWrapper; first | (rw [if_pos (by decide +kernel)]; kernel_rfl) | (rw [if_neg (by decide +kernel)]; exact ⟨rfl, rfl⟩))
    (fun os started H enc _ => lifted os started H enc)

/-- THE STATEMENT -/
theorem proved : Rows.FnSkipValueEndsAfterEncodedObjectSaid := over
#print axioms proved
end Go.Proofs.Qxb6601536a.fnSkipValueEndsAfterEncodedObject
