/-
  Seat b6601536a: what the call owns and what came in: two laws at an append.
-/
import Derived.Test.Qxb6601536aQuote
import Derived.Laws.AppendOwnNone
namespace Go.Proofs.Qxb6601536a
open Go.RowKit

/-- a slice of bytes that came in, in the world w0 -/
def Arg (w0 : World) (a : Option Addr) (c : Nat) (l : List UInt8) : Prop :=
  (a = none ∧ l = [] ∧ c = 0) ∨ ∃ x, a = some x ∧ ∀ (j : Nat) (b : UInt8), l[j]? = some b → w0.cell? (x.add j) = some (.int .u8 b.toNat)

theorem add_plain' (b o i : Nat) : (⟨b, o, none⟩ : Addr).add i = ⟨b, o + i, none⟩ := by
  unfold Addr.add; split <;> simp_all

theorem Arg.row {w0 : World} {a : Option Addr} {c : Nat} {l : List UInt8} (h : Arg w0 a c l) :
    l = [] ∨ ∃ b off, a = some ⟨b, off, none⟩ ∧ b < w0.heap.size ∧ ∀ i x, l[i]? = some x → w0.cell? ⟨b, off + i, none⟩ = some (.int .u8 x.toNat) := by
  rcases h with ⟨_, h, _⟩ | ⟨x, rfl, hc⟩
  · exact .inl h
  · cases l with
    | nil => exact .inl rfl
    | cons c0 l =>
      right
      obtain ⟨b, off, spot⟩ := x
      have h0 := hc 0 c0 (by simp)
      have hspot : spot = none := by simpa [Addr.add] using World.cell?_spot h0
      subst hspot
      refine ⟨b, off, rfl, ?_, fun i x hx => ?_⟩
      · rw [add_plain'] at h0
        exact World.block_lt_of_cell? w0 _ h0
      · have := hc i x hx
        rw [add_plain'] at this
        exact this

theorem Owns.shape {B : Nat} {w0 w : World} {v : Value} {l : List UInt8} (h : Owns B w0 w v l) : ∃ ad cap, v = .slice ad l.length cap := by
  obtain ⟨hl, ⟨h1, h2⟩ | ⟨g, cap, cur, h1, _⟩⟩ := h.own
  · exact ⟨none, 0, by rw [h1, h2]⟩
  · exact ⟨_, cap, h1⟩

theorem Owns.open {B : Nat} {w0 w : World} {v : Value} {l : List UInt8} (h : Owns B w0 w v l) (h0 : l ≠ []) :
    ∃ g cap, v = .slice (some ⟨g, 0, none⟩) l.length cap ∧ l.length ≤ cap ∧ cap ≤ 9223372036854775807 ∧ ∀ i x, l[i]? = some x → w.cell? ⟨g, i, none⟩ = some (.int .u8 x.toNat) := by
  have hown := h.own
  obtain ⟨hl, ⟨h1, h2⟩ | ⟨g, cap, cur, h1, _, _, hcap, hmax, _⟩⟩ := h.own
  · exact absurd (List.length_eq_zero_iff.1 h2) h0
  · refine ⟨g, cap, h1, hcap, hmax, fun i x hx => ?_⟩
    have := hown.cells (g := g) (by rw [h1]; rfl) i (.int .u8 x.toNat) (by simp [Lib.byteCells, hx])
    rw [add_plain', Nat.zero_add] at this
    exact this

theorem bytes_one (l : List UInt8) : ∀ u ∈ Lib.byteCells l, u.oneCell' = true := by
  intro u hu
  simp only [Lib.byteCells, List.mem_map] at hu
  obtain ⟨b, _, rfl⟩ := hu
  rfl

/-- 'data = append(data, xs...)': data the call's own, xs came in -/
theorem wpList_app {ops : Array Oper} {rest : List Oper} {o : Oper} {act : Act} {Q : Exit → Act → World → Prop} (hgd : o.guard = none) (s x : Operand)
    (ho : o.op = .call { callee := .builtin .append, args := #[s, x], argTypes := #[22, 22] })
    (w0 w : World) (v : Value) (acc l : List UInt8) (a : Option Addr) (c : Nat) (hs : act.eval s = v) (hx : act.eval x = .slice a l.length c)
    (hO : Owns w0.heap.size w0 w v acc) (hA : Arg w0 a c l) (hlen : acc.length + l.length ≤ 16777216)
    (h : ∀ ad cap w', Owns w0.heap.size w0 w' (.slice ad (acc ++ l).length cap) (acc ++ l) → wpList Try.prog ops Q rest (act.put o.dst (.slice ad (acc ++ l).length cap)) w') :
    wpList Try.prog ops Q (o :: rest) act w := by
  obtain ⟨i0, hi, hz0, hz1, hz2⟩ := info_parts info5
  rcases hA with ⟨rfl, rfl, rfl⟩ | ⟨ad, rfl, hc⟩
  · refine wpList_append_own_none hgd s x 22 ho w0.heap.size 5 i0 1 Try.underlying22 hi v acc.length (Lib.byteCells acc) hs hO.own hx ?_
    obtain ⟨ad, cap, rfl⟩ := hO.shape
    have := h ad cap w (by simpa using hO)
    simpa using this
  · refine wpList_append_own w hgd s x 22 ho w0.heap.size 5 i0 (.int .u8 0) 1 1 Try.underlying22 hi hz0 hz1 hz2 rfl (by decide) v acc.length (Lib.byteCells acc) hs hO.own ad l.length c (Lib.byteCells l) hx (by simp [Lib.byteCells]) ?_ (bytes_one l)
      (by unfold maxLen; omega) (by omega) hO.big ?_
    · intro j u hj
      obtain ⟨b, hb⟩ : ∃ b, l[j]? = some b := by
        simp only [Lib.byteCells, List.getElem?_map, Option.map_eq_some_iff] at hj
        obtain ⟨b, hb, _⟩ := hj
        exact ⟨b, hb⟩
      have hu : u = .int .u8 b.toNat := by simpa [Lib.byteCells, hb] using hj.symm
      have h0 := hc j b hb
      rw [hu, hO.bel.cell (World.block_lt_of_cell? w0 _ h0)]
      exact h0
    · intro v' w' h1 hg _
      have H := hO.push (m := l) h1 hg
      obtain ⟨ad', cap', rfl⟩ := H.shape
      exact h ad' cap' w' H

/-- 'data := make([]byte, 0, n)' -/
theorem wpList_made {ops : Array Oper} {rest : List Oper} {o : Oper} {act : Act} {Q : Exit → Act → World → Prop} (hgd : o.guard = none) (l c : Operand)
    (ho : o.op = Op.makeSlice 22 l c) (w0 w : World) (C : Int) (hl : act.eval l = .int .i64 0) (hc : act.eval c = .int .i64 C) (hC0 : 0 ≤ C) (hC : C ≤ 16777216)
    (hw : Below w0.heap.size w0 w)
    (h : ∀ ad cap w', Owns w0.heap.size w0 w' (.slice ad ([] : List UInt8).length cap) [] → wpList Try.prog ops Q rest (act.put o.dst (.slice ad 0 cap)) w') :
    wpList Try.prog ops Q (o :: rest) act w := by
  obtain ⟨i0, hi, hz0, hz1, hz2⟩ := info_parts info5
  refine wpList_make_own w hgd l c 22 ho w0.heap.size 5 i0 (.int .u8 0) 1 Try.underlying22 hi hz0 hz1 .i64 .i64 C C.toNat hl hc (by omega) (by rw [hz2]; omega) (by unfold maxLen; omega) hw.size ?_
  intro w' h1 hg
  exact h _ _ w' ⟨h1, hw.grown hg hw.size (fun k hk => by simp at hk), Nat.le_trans hw.size hg.size⟩

end Go.Proofs.Qxb6601536a
