/-
  Seat b6601537a: a []byte that the call makes and appends to, and 'string(..)' of it.
-/
import Derived.Test.Qxb6601537aCut
import Derived.Laws.IdiomStrings
namespace Go.Proofs.Qxb6601537a
open Go.RowKit Go.Lib

/-- the slice v is the call's own and holds l; below B the memory is as it was in w0 -/
structure Owns (B : Nat) (w0 w : World) (v : Value) (l : List UInt8) : Prop where
  own : w.ownsRow B 5 1 v l.length (Lib.byteCells l)
  bel : Below B w0 w
  big : B ≤ w.heap.size

theorem Owns.push {B : Nat} {w0 w w1 : World} {v v' : Value} {l m : List UInt8} (h : Owns B w0 w v l)
    (h1 : w1.ownsRow B 5 1 v' (l.length + m.length) (Lib.byteCells l ++ Lib.byteCells m)) (hg : w.grownBy w1 v.ownBlock) : Owns B w0 w1 v' (l ++ m) := by
  refine ⟨?_, h.bel.grown hg h.big (fun k hk => (h.own.lt k hk).1), Nat.le_trans h.big hg.size⟩
  have e : Lib.byteCells (l ++ m) = Lib.byteCells l ++ Lib.byteCells m := by simp [Lib.byteCells]
  rw [e, List.length_append]
  exact h1

theorem Owns.alloc {B : Nat} {w0 w : World} {v : Value} {l : List UInt8} (h : Owns B w0 w v l) (o : Obj) : Owns B w0 (w.alloc o) v l :=
  ⟨h.own.alloc o, h.bel.alloc h.big o, Nat.le_trans h.big (by simp)⟩

theorem add_plain' (b o i : Nat) : (⟨b, o, none⟩ : Addr).add i = ⟨b, o + i, none⟩ := by
  unfold Addr.add; split <;> simp_all

theorem Owns.shape {B : Nat} {w0 w : World} {v : Value} {l : List UInt8} (h : Owns B w0 w v l) : ∃ ad cap, v = .slice ad l.length cap := by
  obtain ⟨hl, ⟨h1, h2⟩ | ⟨g, cap, cur, h1, _⟩⟩ := h.own
  · exact ⟨none, 0, by rw [h1, h2]⟩
  · exact ⟨_, cap, h1⟩

theorem bytes_one (l : List UInt8) : ∀ u ∈ Lib.byteCells l, u.oneCell' = true := by
  intro u hu
  simp only [Lib.byteCells, List.mem_map] at hu
  obtain ⟨b, _, rfl⟩ := hu
  rfl

/-- 'string(out)' -/
theorem Owns.text {B : Nat} {w0 w : World} {v : Value} {l : List UInt8} (h : Owns B w0 w v l) : (convert 30 9 v).run Try.prog w = .ok (.string ⟨l.toArray⟩) w := by
  have hown := h.own
  obtain ⟨hl, ⟨h1, h2⟩ | ⟨g, cap, cur, h1, _, _, hcap, hmax, _⟩⟩ := h.own
  · have h3 : l = [] := List.length_eq_zero_iff.1 h2
    subst h3
    rw [h1]
    exact run_convert_bytes_nil (P := Try.prog) w 30 5 Try.underlying30 Try.underlying5 0 0 9 Try.underlying9
  · rw [h1]
    refine run_convert_bytes_back (P := Try.prog) w 30 9 5 ⟨g, 0, none⟩ cap l Try.underlying30 Try.underlying5 Try.underlying9 fun j hj => ?_
    exact hown.cells (g := g) (by rw [h1]; rfl) j (.int .u8 l[j].toNat) (by simp [Lib.byteCells, List.getElem?_eq_getElem hj])

/-- 'out = append(out, c)', the byte in a new block -/
theorem wpList_appb {ops : Array Oper} {rest : List Oper} {o : Oper} {act : Act} {Q : Exit → Act → World → Prop} (hgd : o.guard = none) (s x : Operand)
    (ho : o.op = .call { callee := .builtin .append, args := #[s, x], argTypes := #[30, 30] })
    (w0 w : World) (v : Value) (acc m L : List UInt8) (arr : Array Value) (c : Nat) (harr : arr.toList = Lib.byteCells m) (hL : Hid (acc ++ m = L))
    (hs : act.eval s = v) (hx : act.eval x = .slice (some ⟨w.heap.size, 0, none⟩) m.length c)
    (hO : Owns w0.heap.size w0 w v acc) (hlen : acc.length + m.length ≤ 16777216)
    (h : ∀ ad cap w', Owns w0.heap.size w0 w' (.slice ad L.length cap) L → wpList Try.prog ops Q rest (act.put o.dst (.slice ad L.length cap)) w') :
    wpList Try.prog ops Q (o :: rest) act (w.alloc (.cells arr 5)) := by
  obtain ⟨i0, hi, hz0, hz1, hz2⟩ := info_parts info5
  refine wpList_append_own _ hgd s x 30 ho w0.heap.size 5 i0 (.int .u8 0) 1 1 Try.underlying30 hi hz0 hz1 hz2 rfl (by decide) v acc.length (Lib.byteCells acc) hs (hO.alloc _).own ⟨w.heap.size, 0, none⟩ m.length c (Lib.byteCells m) hx (by simp [Lib.byteCells]) ?_ (bytes_one m)
    (by unfold maxLen; omega) (by omega) (hO.alloc _).big ?_
  · intro j u hj
    rw [← harr, Array.getElem?_toList] at hj
    rw [add_plain', Nat.zero_add, World.cell?_alloc_at _ _ _ _ rfl]
    exact hj
  · intro v' w' h1 hg _
    have H := (hO.alloc (.cells arr 5)).push (m := m) h1 hg
    rw [hL.out] at H
    obtain ⟨ad', cap', rfl⟩ := H.shape
    exact h ad' cap' w' H

/-- 'out := make([]byte, 0, n)' -/
theorem wpList_made {ops : Array Oper} {rest : List Oper} {o : Oper} {act : Act} {Q : Exit → Act → World → Prop} (hgd : o.guard = none) (l c : Operand)
    (ho : o.op = Op.makeSlice 30 l c) (w0 w : World) (C : Int) (hl : act.eval l = .int .i64 0) (hc : act.eval c = .int .i64 C) (hC0 : 0 ≤ C) (hC : C ≤ 16777216)
    (hw : Below w0.heap.size w0 w)
    (h : ∀ ad cap w', Owns w0.heap.size w0 w' (.slice ad ([] : List UInt8).length cap) [] → wpList Try.prog ops Q rest (act.put o.dst (.slice ad 0 cap)) w') :
    wpList Try.prog ops Q (o :: rest) act w := by
  obtain ⟨i0, hi, hz0, hz1, hz2⟩ := info_parts info5
  refine wpList_make_own w hgd l c 30 ho w0.heap.size 5 i0 (.int .u8 0) 1 Try.underlying30 hi hz0 hz1 .i64 .i64 C C.toNat hl hc (by omega) (by rw [hz2]; omega) (by unfold maxLen; omega) hw.size ?_
  intro w' h1 hg
  exact h _ _ w' ⟨h1, hw.grown hg hw.size (fun k hk => by simp at hk), Nat.le_trans hw.size hg.size⟩

end Go.Proofs.Qxb6601537a
