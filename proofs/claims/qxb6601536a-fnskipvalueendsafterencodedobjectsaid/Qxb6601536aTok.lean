/-
  Seat b6601536a: a JSON value as a list of tokens: a byte outside every string, or a quoted text. No Go in sight.
-/
import Derived.Test.Qxb6601536aPlain
namespace Go.Proofs.Qxb6601536a
namespace Pl

def flat : List (UInt8 ⊕ List UInt8) → List UInt8
  | [] => []
  | .inl b :: ts => b :: flat ts
  | .inr t :: ts => 34 :: (esc t ++ 34 :: flat ts)

theorem flat_append (a b : List (UInt8 ⊕ List UInt8)) : flat (a ++ b) = flat a ++ flat b := by
  induction a with
  | nil => rfl
  | cons x a ih =>
    cases x with
    | inl c => simp [flat, ih]
    | inr t => simp [flat, ih]

/-- from depth d on, the tokens close at their very end -/
def Ends : Nat → List (UInt8 ⊕ List UInt8) → Prop
  | _, [] => False
  | d, .inl b :: ts =>
    if b = 123 ∨ b = 91 then Ends (d + 1) ts
    else if b = 125 ∨ b = 93 then (d = 1 ∧ ts = []) ∨ (2 ≤ d ∧ Ends (d - 1) ts)
    else b ≠ 34 ∧ Ends d ts
  | d, .inr _ :: ts => Ends d ts

/-- the items of a list, a comma between -/
def items : List (List UInt8) → List (UInt8 ⊕ List UInt8)
  | [] => []
  | t :: ts => .inr t :: ts.flatMap fun x => [.inl 44, .inr x]

def object (key : List UInt8) (its : List (List UInt8)) : List (UInt8 ⊕ List UInt8) :=
  [.inl 123, .inr key, .inl 58, .inl 91] ++ (items its ++ [.inl 93, .inl 125])

theorem ends_rest : ∀ its : List (List UInt8), Ends 2 ((its.flatMap fun x => [.inl 44, .inr x]) ++ [.inl 93, .inl 125])
  | [] => by simp [Ends]
  | t :: ts => by
    have ih := ends_rest ts
    simp only [List.flatMap_cons, List.cons_append, List.nil_append, Ends]
    exact ⟨by decide, ih⟩

theorem ends_object (key : List UInt8) (its : List (List UInt8)) : Ends 0 (object key its) := by
  have h : Ends 2 (items its ++ [.inl 93, .inl 125]) := by
    cases its with
    | nil => simp [items, Ends]
    | cons t ts => simpa [items, Ends] using ends_rest ts
  simpa [object, Ends] using h

/-- the items' bytes, item by item: what the law appends -/
theorem items_snoc (its : List (List UInt8)) (x : List UInt8) : flat (items (its ++ [x])) = flat (items its) ++ ((if its = [] then [] else [44]) ++ 34 :: (esc x ++ [34])) := by
  cases its with
  | nil => simp [items, flat]
  | cons t ts => simp [items, flat, flat_append]

end Pl
end Go.Proofs.Qxb6601536a
