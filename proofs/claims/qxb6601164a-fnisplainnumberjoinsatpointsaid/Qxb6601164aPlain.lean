/-
  The plain mathematics of seat b6601164a: digits, one minus, the point. No Go in sight.
-/
import Derived.Lib.Bytealg
import Derived.Lib.Strings
namespace Go.Proofs.Qxb6601164a
namespace Pl

def dig (c : UInt8) : Bool := decide (48 ≤ c.toNat) && decide (c.toNat ≤ 57)
/-- one or more digits -/
def digs (l : List UInt8) : Bool := !l.isEmpty && l.all dig
/-- less one leading minus -/
def less : List UInt8 → List UInt8
  | [] => []
  | b :: l => if b = 45 then l else b :: l
/-- isPlainNumber at the point -/
def plain (s : List UInt8) : Bool :=
  if Lib.indexByte (less s) 46 < 0 then digs (less s)
  else digs ((less s).take (Lib.indexByte (less s) 46).toNat) && digs ((less s).drop ((Lib.indexByte (less s) 46).toNat + 1))

theorem less_trim (s : List UInt8) : Lib.trimPrefix s [45] = less s := by
  cases s with
  | nil => rfl
  | cons b l =>
    unfold Lib.trimPrefix Lib.hasPrefix less
    by_cases h : b = 45
    · subst h; simp [List.isPrefixOf]
    · have h2 : ((45 : UInt8) == b) = false := by simpa using fun e => h e.symm
      simp [List.isPrefixOf, h, h2]

theorem index_app (q : List UInt8) : ∀ p : List UInt8, Lib.indexByte (p ++ 46 :: q) 46 = if p.contains 46 then Lib.indexByte p 46 else (p.length : Int)
  | [] => by simp [Lib.indexByte]
  | b :: p => by
    have ih := index_app q p
    have hge := Lib.indexByte_ge p 46
    rw [List.cons_append, Lib.indexByte, Lib.indexByte, ih, List.contains_cons]
    by_cases hb : b = 46
    · subst hb; simp
    · have h1 : (b == 46) = false := by simpa using hb
      have h2 : ((46 : UInt8) == b) = false := by simpa using fun e => hb e.symm
      rw [h1, h2, Bool.false_or]
      simp only [Bool.false_eq_true, if_false]
      by_cases hc : p.contains 46 = true
      · rw [if_pos hc, if_pos hc]
      · rw [if_neg hc, if_neg hc]
        rw [if_neg (by rw [beq_iff_eq]; omega)]
        simp

theorem index_mem : ∀ p : List UInt8, p.contains 46 = true → ∃ i : Nat, Lib.indexByte p 46 = i ∧ i < p.length
  | [], h => by simp at h
  | b :: p, h => by
    by_cases hb : b = 46
    · subst hb; exact ⟨0, by simp [Lib.indexByte], by simp⟩
    · have h2 : ((46 : UInt8) == b) = false := by simpa using fun e => hb e.symm
      rw [List.contains_cons, h2, Bool.false_or] at h
      obtain ⟨i, hi, hl⟩ := index_mem p h
      have h1 : (b == 46) = false := by simpa using hb
      refine ⟨i + 1, ?_, by simp; omega⟩
      rw [Lib.indexByte, h1, hi]
      simp only [Bool.false_eq_true, if_false]
      rw [if_neg (by rw [beq_iff_eq]; omega)]
      simp

theorem digs_no_point {l : List UInt8} (h : l.contains 46 = true) : digs l = false := by
  have hm : (46 : UInt8) ∈ l := by simpa using h
  have : l.all dig = false := by
    rw [List.all_eq_false]
    exact ⟨46, hm, by decide⟩
  simp [digs, this]

theorem less_app (p q : List UInt8) : less (p ++ 46 :: q) = less p ++ 46 :: q := by
  cases p with
  | nil => simp [less]
  | cons b p =>
    by_cases hb : b = 45
    · simp [less, hb]
    · simp [less, hb]

/-- THE LAW: at p + "." + q. -/
theorem joins (p q : List UInt8) : plain (p ++ 46 :: q) = (digs (less p) && digs q) := by
  unfold plain
  rw [less_app]
  generalize less p = d
  have hx := index_app q d
  by_cases hc : d.contains 46 = true
  · rw [if_pos hc] at hx
    obtain ⟨i, hi, hl⟩ := index_mem d hc
    rw [hx, hi]
    rw [if_neg (by omega), digs_no_point hc, Bool.false_and]
    have e : digs (List.drop ((i : Int).toNat + 1) (d ++ 46 :: q)) = false := by
      apply digs_no_point
      rw [List.drop_append_of_le_length (by simp; omega)]
      simp
    rw [e, Bool.and_false]
  · rw [if_neg hc] at hx
    rw [hx, if_neg (by omega)]
    have e : ((d.length : Nat) : Int).toNat = d.length := by simp
    rw [e, List.take_left, List.drop_append, List.drop_eq_nil_of_le (by omega)]
    simp

theorem index_range (c : UInt8) : ∀ l : List UInt8, Lib.indexByte l c = -1 ∨ ∃ k : Nat, Lib.indexByte l c = k ∧ k < l.length
  | [] => .inl rfl
  | b :: l => by
    rw [Lib.indexByte]
    by_cases hb : (b == c) = true
    · rw [if_pos hb]; exact .inr ⟨0, rfl, by simp⟩
    · rw [if_neg hb]
      rcases index_range c l with h | ⟨k, h, hl⟩
      · rw [h]; exact .inl rfl
      · rw [h, if_neg (by rw [beq_iff_eq]; omega)]
        exact .inr ⟨k + 1, by simp, by simp; omega⟩

theorem less_length (l : List UInt8) : (less l).length ≤ l.length := by
  cases l with
  | nil => simp [less]
  | cons b l => by_cases h : b = 45 <;> simp [less, h]

/-- 'less' on Go's strings -/
def lessB (s : ByteArray) : ByteArray := ⟨(less s.data.toList).toArray⟩
theorem lessB_data (s : ByteArray) : (lessB s).data.toList = less s.data.toList := rfl
theorem lessB_size (s : ByteArray) : (lessB s).size ≤ s.size := by
  rw [Lib.size_eq, Lib.size_eq, lessB_data]; exact less_length _

end Pl
end Go.Proofs.Qxb6601164a
