/-
  The plain mathematics of seat b6601536a: quoted text, runs of backslashes, where a quoted string ends. No Go in sight.
-/
import Derived.Lib.Bytealg
namespace Go.Proofs.Qxb6601536a
namespace Pl

/-- how many backslashes a list ends in -/
def trail (l : List UInt8) : Nat := (l.reverse.takeWhile (· == 92)).length

theorem trail_nil : trail [] = 0 := rfl
theorem trail_snoc (l : List UInt8) (c : UInt8) : trail (l ++ [c]) = if c = 92 then trail l + 1 else 0 := by
  unfold trail
  rw [List.reverse_append, List.reverse_singleton, List.singleton_append, List.takeWhile_cons]
  by_cases h : c = 92
  · simp [h]
  · simp [h]

def esc : List UInt8 → List UInt8
  | [] => []
  | c :: t => if c = 34 ∨ c = 92 then 92 :: c :: esc t else c :: esc t

theorem esc_length (t : List UInt8) : (esc t).length ≤ 2 * t.length := by
  induction t with
  | nil => simp [esc]
  | cons c t ih =>
    unfold esc
    split <;> simp <;> omega

theorem esc_append (a b : List UInt8) : esc (a ++ b) = esc a ++ esc b := by
  induction a with
  | nil => rfl
  | cons c a ih =>
    rw [List.cons_append, esc, esc, ih]
    split <;> simp

/-- behind text written out, an even run of backslashes; ahead of each quote of it, an odd one -/
theorem esc_runs (t : List UInt8) : ∀ a : List UInt8, trail a % 2 = 0 →
    trail (a ++ esc t) % 2 = 0 ∧ ∀ x y, esc t = x ++ 34 :: y → trail (a ++ x) % 2 = 1 := by
  induction t with
  | nil =>
    intro a ha
    refine ⟨by simpa [esc] using ha, fun x y h => ?_⟩
    simp [esc] at h
  | cons c t ih =>
    intro a ha
    by_cases h1 : c = 34 ∨ c = 92
    · have hE : esc (c :: t) = 92 :: c :: esc t := by rw [esc, if_pos h1]
      have ha2 : trail ((a ++ [92]) ++ [c]) % 2 = 0 := by
        rw [trail_snoc, trail_snoc]
        rcases h1 with rfl | rfl
        · simp
        · simp; omega
      obtain ⟨g1, g2⟩ := ih _ ha2
      rw [hE]
      refine ⟨by simpa using g1, fun x y h => ?_⟩
      cases x with
      | nil => simp at h
      | cons x0 x =>
        rw [List.cons_append, List.cons.injEq] at h
        obtain ⟨rfl, h⟩ := h
        cases x with
        | nil =>
          rw [trail_snoc, if_pos rfl]; omega
        | cons x1 x =>
          rw [List.cons_append, List.cons.injEq] at h
          obtain ⟨rfl, h⟩ := h
          have := g2 x y h
          simpa using this
    · have hE : esc (c :: t) = c :: esc t := by rw [esc, if_neg h1]
      have hc : ¬ c = 92 := fun h => h1 (.inr h)
      have hq : ¬ c = 34 := fun h => h1 (.inl h)
      have ha2 : trail (a ++ [c]) % 2 = 0 := by rw [trail_snoc, if_neg hc]
      obtain ⟨g1, g2⟩ := ih _ ha2
      rw [hE]
      refine ⟨by simpa using g1, fun x y h => ?_⟩
      cases x with
      | nil => simp at h; exact absurd h.1 hq
      | cons x0 x =>
        rw [List.cons_append, List.cons.injEq] at h
        obtain ⟨rfl, h⟩ := h
        have := g2 x y h
        simpa using this

/-- what skipString asks of the bytes D behind the opening quote, and of the closing quote's place E among them -/
def Closes (D : List UInt8) (E : Nat) : Prop :=
  D[E]? = some 34 ∧ trail (D.take E) % 2 = 0 ∧ ∀ j, j < E → D[j]? = some 34 → trail (D.take j) % 2 = 1

theorem closes_quoted (t r : List UInt8) : Closes (esc t ++ 34 :: r) (esc t).length := by
  obtain ⟨g1, g2⟩ := esc_runs t [] (by rfl)
  refine ⟨by simp, by simpa using g1, fun j hj h => ?_⟩
  rw [List.getElem?_append_left hj] at h
  have hs : esc t = (esc t).take j ++ 34 :: (esc t).drop (j + 1) := by
    rw [List.getElem?_eq_some_iff] at h
    obtain ⟨hj', h⟩ := h
    rw [← h, List.getElem_cons_drop, List.take_append_drop]
  have := g2 _ _ hs
  rw [List.take_append_of_le_length (by omega)]
  simpa using this

/-- where the next quote lies -/
theorem index_quote : ∀ (l : List UInt8) (E : Nat), l[E]? = some 34 → ∃ k : Nat, Lib.indexByte l 34 = k ∧ k ≤ E ∧ l[k]? = some 34
  | [], E, h => by simp at h
  | b :: l, E, h => by
    rw [Lib.indexByte]
    by_cases hb : b = 34
    · subst hb; exact ⟨0, by simp, by omega, by simp⟩
    · have h1 : (b == 34) = false := by simpa using hb
      rw [h1]
      simp only [Bool.false_eq_true, if_false]
      cases E with
      | zero => simp at h; exact absurd h hb
      | succ E =>
        obtain ⟨k, hk, hkE, hkq⟩ := index_quote l E (by simpa using h)
        rw [hk]
        rw [if_neg (by rw [beq_iff_eq]; omega)]
        exact ⟨k + 1, by simp, by omega, by simpa using hkq⟩

end Pl
end Go.Proofs.Qxb6601536a
