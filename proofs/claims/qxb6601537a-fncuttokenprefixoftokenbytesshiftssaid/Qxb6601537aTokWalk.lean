/-
  Seat b6601537a: cutToken (17, 8), its closure (21), the token test (10, 9), walked.
-/
import Derived.Test.Qxb6601537aRune
import Derived.Test.Qxb6601537aTokPlain
namespace Go.Proofs.Qxb6601537a
open Go.RowKit Go.Lib

theorem ret_bool {a b : Bool} (h : a = b) : Ending.returned (.bool a) = .returned (.bool b) := by rw [h]

def marksB : ByteArray := ⟨#[33, 35, 36, 37, 38, 39, 42, 43, 45, 46, 94, 95, 96, 124, 126, 47]⟩
theorem marks_ascii : Ascii marksB := by
  intro b hb
  have h : ∀ b ∈ ([33, 35, 36, 37, 38, 39, 42, 43, 45, 46, 94, 95, 96, 124, 126, 47] : List UInt8), b.toNat < 128 := by decide
  exact h b hb

theorem index_contains (l : List UInt8) (c : UInt8) : decide (0 ≤ Lib.indexByte l c) = l.contains c := (Lib.contains_iff_indexByte l c).symm

set_option maxHeartbeats 1000000 in
theorem containsRune_any (r : Nat) (w : World) :
    Calls Try.prog 22 #[.string marksB, .int .i32 (r : Int)] w fun e w' => e = .returned (.bool (decide (r < 128) && Pl.marks.contains r.toUInt8)) ∧ Below w.heap.size w w' := by
  have C := indexRune_hay marksB r w marks_ascii (by decide)
  have hd : decide (0 ≤ runeIdx marksB r) = (decide (r < 128) && Pl.marks.contains r.toUInt8) := by
    unfold runeIdx
    by_cases h : r < 128
    · rw [if_pos h, index_contains, decide_eq_true h]; rfl
    · rw [if_neg h, decide_eq_false h]; rfl
  rw [← hd]
  generalize runeIdx marksB r = I at *
  generalize marksB = M at *
  have C := hide C
  clear hd
  go_enter Try.func22, Try.ntmps22
  go_wp2_with fail
  refine (unhide C).mono ?_
  rintro e w' ⟨rfl, hb⟩
  go_wp2
  go_ret
  exact ⟨rfl, hb⟩

set_option maxHeartbeats 1000000 in
/-- the closure: is the rune none of a token's -/
theorem closure_any (r : Nat) (w : World) :
    Calls Try.prog 21 #[.int .i32 (r : Int)] w fun e w' => e = .returned (.bool (!Pl.tokN r)) ∧ Below w.heap.size w w' := by
  have C := containsRune_any r w
  have hrg : ((97 ≤ r ∧ r ≤ 122) ∨ (65 ≤ r ∧ r ≤ 90) ∨ (48 ≤ r ∧ r ≤ 57)) ∨ (r < 48 ∨ (58 ≤ r ∧ r ≤ 64) ∨ (91 ≤ r ∧ r ≤ 96) ∨ 123 ≤ r) := by omega
  rcases hrg with hrg | hrg
  · have hT : Pl.tokN r = true := by
      unfold Pl.tokN
      rcases hrg with ⟨h1, h2⟩ | ⟨h1, h2⟩ | ⟨h1, h2⟩ <;> simp [h1, h2]
    rw [hT]
    clear C hT
    rcases hrg with ⟨h1, h2⟩ | ⟨h1, h2⟩ | ⟨h1, h2⟩
    all_goals
      go_enter Try.func21, Try.ntmps21
      go_wp2
      go_ret
      exact ⟨rfl, Below.refl _ _⟩
  · have hT : Pl.tokN r = (decide (r < 128) && Pl.marks.contains r.toUInt8) := by
      unfold Pl.tokN
      have e1 : (decide (97 ≤ r) && decide (r ≤ 122)) = false := by simp; omega
      have e2 : (decide (65 ≤ r) && decide (r ≤ 90)) = false := by simp; omega
      have e3 : (decide (48 ≤ r) && decide (r ≤ 57)) = false := by simp; omega
      rw [e1, e2, e3]
      rfl
    rw [hT]
    generalize (decide (r < 128) && Pl.marks.contains r.toUInt8) = B at *
    change Calls Try.prog 22 #[.string ⟨#[33, 35, 36, 37, 38, 39, 42, 43, 45, 46, 94, 95, 96, 124, 126, 47]⟩, .int .i32 (r : Int)] w _ at C
    have C := hide C
    clear hT
    rcases hrg with h1 | ⟨h1, h2⟩ | ⟨h1, h2⟩ | h1
    all_goals
      go_enter Try.func21, Try.ntmps21
      go_wp2_with fail
      refine (unhide C).mono ?_
      rintro e w' ⟨rfl, hb⟩
      go_wp2
      go_ret
      exact ⟨ret_bool (by cases B <;> simp <;> omega), hb⟩

theorem closure_grows (w : World) : PredGrows Try.prog 21 #[] (fun r => !Pl.tokN r) w := fun W x _ _ => closure_any x W

set_option maxHeartbeats 1000000 in
theorem cutToken_any (s : ByteArray) (w : World) :
    Calls Try.prog 17 #[.string s] w fun e w' => e = .returned (.tuple #[.string (Pl.tokenB s), .string (Pl.restB s)]) ∧ Below w.heap.size w w' := by
  have C := Try.strings_IndexFunc_grows 21 #[] (enters_of Try.func21 (by kernel_rfl) rfl) (fun r => !Pl.tokN r) s w (closure_grows w)
  rw [Pl.idx_eq] at C
  have hle := Pl.token_le s
  by_cases h : (Pl.rest s.data.toList).isEmpty = true
  · rw [if_pos h] at C
    obtain ⟨e1, e2⟩ := Pl.cut_none s h
    rw [e1, e2]
    have C := hide C
    clear h e1 e2 hle
    go_enter Try.func17, Try.ntmps17
    go_wp2_with fail
    refine (unhide C).mono ?_
    rintro e w' ⟨rfl, hb⟩
    go_wp2
    go_ret2
    exact ⟨rfl, hb⟩
  · rw [if_neg h] at C
    obtain ⟨e1, e2⟩ := Pl.cut_some s
    rw [← e1, ← e2]
    generalize (Pl.token s.data.toList).length = n at *
    have hn0 : (0 : Int) ≤ (n : Int) := by omega
    have hnn : ¬ ((n : Int) < 0) := by omega
    have hn1 : (n : Int) ≤ (s.size : Int) := by omega
    have C := hide C
    clear h e1 e2
    go_enter Try.func17, Try.ntmps17
    go_wp2_with fail
    refine (unhide C).mono ?_
    rintro e w' ⟨rfl, hb⟩
    go_wp2
    go_quiet (fail)
    go_wp2
    go_ret2
    exact ⟨rfl, below_drewN' hb _⟩

end Go.Proofs.Qxb6601537a
