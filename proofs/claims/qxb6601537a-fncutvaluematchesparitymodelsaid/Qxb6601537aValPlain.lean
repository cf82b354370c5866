/-
  The plain mathematics of seat b6601537a's values: reading a quoted string, writing one, the model by parity. No Go in sight.
-/
import Derived.Lib.Bytealg
import Derived.Lib.IndexBytes
import Derived.Lib.IndexAny
namespace Go.Proofs.Qxb6601537a
namespace Pv

/-- what cutValue reads behind the opening quote: the value, and what follows the closing quote -/
def rd : List UInt8 → Option (List UInt8 × List UInt8)
  | [] => none
  | c :: t =>
    if c = 34 then some ([], t)
    else if c = 92 then
      match t with
      | [] => none
      | d :: t' => (rd t').map fun x => (d :: x.1, x.2)
    else (rd t).map fun x => (c :: x.1, x.2)

theorem rd_nil : rd [] = none := rfl
theorem rd_quote (t : List UInt8) : rd (34 :: t) = some ([], t) := by
  rw [rd.eq_def]
  simp only [if_true]
theorem rd_last : rd [92] = none := by decide
theorem rd_two (d : UInt8) (t : List UInt8) : rd (92 :: d :: t) = (rd t).map fun x => (d :: x.1, x.2) := by
  rw [rd.eq_def]
  simp only [show ¬ (92 : UInt8) = 34 by decide, if_false, if_true]
theorem rd_plain (c : UInt8) (t : List UInt8) (h1 : ¬ c = 34) (h2 : ¬ c = 92) : rd (c :: t) = (rd t).map fun x => (c :: x.1, x.2) := by
  rw [rd.eq_def]
  simp only [h1, h2, if_false]

/-- .. with what has been read so far -/
def rdAcc (acc : List UInt8) (l : List UInt8) : Option (List UInt8 × List UInt8) := (rd l).map fun x => (acc ++ x.1, x.2)

theorem rdAcc_nil (l : List UInt8) : rdAcc [] l = rd l := by
  unfold rdAcc
  cases rd l <;> simp
theorem rdAcc_end (acc : List UInt8) : rdAcc acc [] = none := rfl
theorem rdAcc_quote (acc t : List UInt8) : rdAcc acc (34 :: t) = some (acc, t) := by simp [rdAcc, rd_quote]
theorem rdAcc_last (acc : List UInt8) : rdAcc acc [92] = none := by simp [rdAcc, rd_last]
theorem rdAcc_esc (acc t : List UInt8) (d : UInt8) : rdAcc acc (92 :: d :: t) = rdAcc (acc ++ [d]) t := by
  simp only [rdAcc, rd_two]
  cases rd t <;> simp
theorem rdAcc_plain (acc t : List UInt8) (c : UInt8) (h1 : ¬ c = 34) (h2 : ¬ c = 92) : rdAcc acc (c :: t) = rdAcc (acc ++ [c]) t := by
  simp only [rdAcc, rd_plain c t h1 h2]
  cases rd t <;> simp

/-- the text between the quotes, a backslash ahead of each quote and each backslash -/
def esc : List UInt8 → List UInt8
  | [] => []
  | c :: t => if c = 34 ∨ c = 92 then 92 :: c :: esc t else c :: esc t
theorem esc_length (t : List UInt8) : (esc t).length ≤ 2 * t.length := by
  induction t with
  | nil => simp [esc]
  | cons c t ih =>
    unfold esc
    split <;> simp <;> omega
theorem esc_append (a b : List UInt8) : esc (a ++ b) = esc a ++ esc b := by
  induction a with
  | nil => rfl
  | cons c a ih =>
    rw [List.cons_append, esc, esc, ih]
    split <;> simp

theorem rd_esc (v tail : List UInt8) : rd (esc v ++ 34 :: tail) = some (v, tail) := by
  induction v with
  | nil => exact rd_quote tail
  | cons c v ih =>
    unfold esc
    by_cases h : c = 34 ∨ c = 92
    · rw [if_pos h, List.cons_append, List.cons_append, rd_two, ih]
      rfl
    · rw [if_neg h]
      have h1 : ¬ c = 34 := fun e => h (.inl e)
      have h2 : ¬ c = 92 := fun e => h (.inr e)
      rw [List.cons_append, rd_plain c _ h1 h2, ih]
      rfl

/-! ### the model by parity -/
/-- zzOcUnescapeByParity, from a run of n backslashes on -/
def unesc : Nat → List UInt8 → List UInt8
  | _, [] => []
  | n, c :: t => if c = 92 then (if (n + 1) % 2 = 1 then unesc (n + 1) t else c :: unesc (n + 1) t) else c :: unesc 0 t

/-- where the first quote with an even run of backslashes ahead of it lies; from a run of n on -/
def close : Nat → List UInt8 → Option Nat
  | _, [] => none
  | n, c :: t => if c = 92 then (close (n + 1) t).map (· + 1) else if c = 34 ∧ n % 2 = 0 then some 0 else (close 0 t).map (· + 1)

/-- what the model answers behind the opening quote -/
def model (l : List UInt8) : Option (List UInt8 × List UInt8) := (close 0 l).map fun j => (unesc 0 (l.take j), l.drop (j + 1))

/-- 'unesc' and 'close' look at the run's parity alone -/
theorem unesc_par : ∀ (l : List UInt8) (n m : Nat), n % 2 = m % 2 → unesc n l = unesc m l
  | [], _, _, _ => rfl
  | c :: t, n, m, h => by
    unfold unesc
    by_cases hc : c = 92
    · have e : (n + 1) % 2 = (m + 1) % 2 := by omega
      rw [if_pos hc, if_pos hc, e, unesc_par t (n + 1) (m + 1) e]
    · rw [if_neg hc, if_neg hc]
theorem close_par : ∀ (l : List UInt8) (n m : Nat), n % 2 = m % 2 → close n l = close m l
  | [], _, _, _ => rfl
  | c :: t, n, m, h => by
    unfold close
    by_cases hc : c = 92
    · rw [if_pos hc, if_pos hc, close_par t (n + 1) (m + 1) (by omega)]
    · rw [if_neg hc, if_neg hc, h]

/-- from an odd run on: the next byte is taken, whatever it is -/
def modelFrom (n : Nat) (l : List UInt8) : Option (List UInt8 × List UInt8) := (close n l).map fun j => (unesc n (l.take j), l.drop (j + 1))

theorem model_both : ∀ (l : List UInt8), modelFrom 0 l = rd l ∧ ∀ d t, l = d :: t → modelFrom 1 l = (rd t).map fun x => (d :: x.1, x.2)
  | [] => ⟨rfl, fun d t h => by cases h⟩
  | c :: t => by
    obtain ⟨ih0, ih1⟩ := model_both t
    have odd : modelFrom 1 (c :: t) = (rd t).map fun x => (c :: x.1, x.2) := by
      rw [← ih0]
      unfold modelFrom
      by_cases hc : c = 92
      · have hcl : close 1 (c :: t) = (close 0 t).map (· + 1) := by
          rw [close, if_pos hc, close_par t (1 + 1) 0 (by rfl)]
        rw [hcl]
        cases h : close 0 t with
        | none => rfl
        | some j =>
          simp only [Option.map_some, List.take_succ_cons, List.drop_succ_cons]
          rw [unesc, if_pos hc, if_neg (by decide), unesc_par _ (1 + 1) 0 (by rfl)]
      · have hcl : close 1 (c :: t) = (close 0 t).map (· + 1) := by
          rw [close, if_neg hc, if_neg (by rintro ⟨_, h⟩; cases h)]
        rw [hcl]
        cases h : close 0 t with
        | none => rfl
        | some j =>
          simp only [Option.map_some, List.take_succ_cons, List.drop_succ_cons]
          rw [unesc, if_neg hc]
    refine ⟨?_, fun d t' h => by cases h; exact odd⟩
    by_cases h34 : c = 34
    · subst h34
      rw [rd_quote]
      simp [modelFrom, close, unesc]
    · by_cases h92 : c = 92
      · have hcl : close 0 (c :: t) = (close 1 t).map (· + 1) := by rw [close, if_pos h92]
        have hm : modelFrom 0 (c :: t) = modelFrom 1 t := by
          unfold modelFrom
          rw [hcl]
          cases h : close 1 t with
          | none => rfl
          | some j =>
            simp only [Option.map_some, List.take_succ_cons, List.drop_succ_cons]
            rw [unesc, if_pos h92, if_pos (by rfl)]
        rw [hm]
        cases t with
        | nil =>
          rw [h92, rd_last]
          rfl
        | cons d t' =>
          rw [ih1 d t' rfl, h92, rd_two]
      · have hcl : close 0 (c :: t) = (close 0 t).map (· + 1) := by
          rw [close, if_neg h92, if_neg (fun h => h34 h.1)]
        have hm : modelFrom 0 (c :: t) = (modelFrom 0 t).map fun x => (c :: x.1, x.2) := by
          unfold modelFrom
          rw [hcl]
          cases h : close 0 t with
          | none => rfl
          | some j =>
            simp only [Option.map_some, List.take_succ_cons, List.drop_succ_cons]
            rw [unesc, if_neg h92]
        rw [hm, ih0, rd_plain c t h34 h92]

theorem model_rd (l : List UInt8) : model l = rd l := (model_both l).1

end Pv
end Go.Proofs.Qxb6601537a
