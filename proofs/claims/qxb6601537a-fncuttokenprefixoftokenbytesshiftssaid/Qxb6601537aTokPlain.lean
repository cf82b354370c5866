/-
  The plain mathematics of seat b6601537a's tokens. No Go in sight.
-/
import Derived.Lib.Bytealg
import Derived.Lib.IndexBytes
import Derived.Shelf.GgClosure.StringsIndexFunc
namespace Go.Proofs.Qxb6601537a
namespace Pl

def marks : List UInt8 := [33, 35, 36, 37, 38, 39, 42, 43, 45, 46, 94, 95, 96, 124, 126, 47]
/-- is the rune n one that a token may hold -/
def tokN (n : Nat) : Bool :=
  (decide (97 ≤ n) && decide (n ≤ 122)) || ((decide (65 ≤ n) && decide (n ≤ 90)) || ((decide (48 ≤ n) && decide (n ≤ 57)) || (decide (n < 128) && marks.contains n.toUInt8)))
def tok (c : UInt8) : Bool := tokN c.toNat

theorem tokN_wide {n : Nat} (h : 128 ≤ n) : tokN n = false := by
  unfold tokN
  rw [decide_eq_false (show ¬ n ≤ 122 by omega), decide_eq_false (show ¬ n ≤ 90 by omega), decide_eq_false (show ¬ n ≤ 57 by omega), decide_eq_false (show ¬ n < 128 by omega)]
  simp

/-- the other definition: visible, and none of sixteen -/
def vis (n : Nat) : Bool := decide (33 ≤ n) && (decide (n ≤ 126) && !([34, 40, 41, 44, 58, 59, 60, 61, 62, 63, 64, 91, 92, 93, 123, 125] : List Nat).contains n)
theorem vis_tok : ∀ n, n < 256 → vis n = tokN n := by decide +kernel

def token (l : List UInt8) : List UInt8 := l.takeWhile tok
def rest (l : List UInt8) : List UInt8 := l.dropWhile tok
theorem token_rest (l : List UInt8) : token l ++ rest l = l := List.takeWhile_append_dropWhile
def tokenB (s : ByteArray) : ByteArray := ⟨(token s.data.toList).toArray⟩
def restB (s : ByteArray) : ByteArray := ⟨(rest s.data.toList).toArray⟩

/-- a first byte beyond ASCII gives a rune beyond ASCII -/
theorem decode_wide (s : ByteArray) (pos : Nat) (h : pos < s.size) (hb : 128 ≤ (s[pos]'h).toNat) : 128 ≤ (Utf8.decode s pos).1 := by
  have e : s.get! (pos + 0) = s[pos]'h := by
    show s.get! pos = _
    simp [ByteArray.get!, getElem!_pos, h]
    rfl
  have hn : ¬ (s[pos]'h).toNat < 128 := by omega
  simp only [Utf8.decode, e, hn, if_false]
  split
  · split
    · assumption
    · decide
  · split
    · split
      · rename_i h1
        simp only [Bool.and_eq_true, decide_eq_true_eq] at h1
        omega
      · decide
    · split
      · split
        · rename_i h1
          simp only [Bool.and_eq_true, decide_eq_true_eq] at h1
          omega
        · decide
      · decide

/-- strings.IndexFunc at 'no token rune': the first byte that is none -/
theorem idx_from (s : ByteArray) : ∀ (f pos : Nat), pos ≤ s.size → s.size ≤ pos + f →
    Lib.idxFuncFrom (fun r => !tokN r) true s f pos = if (rest (s.data.toList.drop pos)).isEmpty then -1 else ((pos + (token (s.data.toList.drop pos)).length : Nat) : Int)
  | 0, pos, hp, hf => by
    have : pos = s.size := by omega
    rw [List.drop_eq_nil_of_le (by rw [← Lib.size_eq]; omega)]
    rfl
  | f + 1, pos, hp, hf => by
    unfold Lib.idxFuncFrom
    by_cases h : pos < s.size
    · rw [if_pos h]
      have hd : s.data.toList.drop pos = s[pos] :: s.data.toList.drop (pos + 1) := by
        have hl : pos < s.data.toList.length := by rw [← Lib.size_eq]; exact h
        rw [List.drop_eq_getElem_cons hl]
        rfl
      by_cases ht : tok s[pos] = true
      · have h128 : (s[pos]).toNat < 128 := by
          rcases Nat.lt_or_ge (s[pos]).toNat 128 with h' | h'
          · exact h'
          · rw [tok, tokN_wide h'] at ht; cases ht
        rw [decode_ascii s pos h h128]
        rw [if_neg (by show ¬ (!tok s[pos]) = true; rw [ht]; simp), idx_from s f (pos + 1) (by omega) (by omega), hd]
        simp only [rest, token, List.dropWhile_cons, List.takeWhile_cons, ht, if_true, List.length_cons]
        by_cases he : (List.dropWhile tok (List.drop (pos + 1) s.data.toList)).isEmpty = true
        · simp only [he, if_true]
        · simp only [he, if_false, Bool.false_eq_true]
          congr 1
          omega
      · have hpR : (!tokN (Utf8.decode s pos).1) = true := by
          rcases Nat.lt_or_ge (s[pos]).toNat 128 with h' | h'
          · rw [decode_ascii s pos h h']
            simpa [tok] using ht
          · rw [tokN_wide (decode_wide s pos h h')]; rfl
        rw [if_pos hpR, hd]
        simp only [rest, token, List.dropWhile_cons, List.takeWhile_cons, ht]
        simp
    · rw [if_neg h, List.drop_eq_nil_of_le (by rw [← Lib.size_eq]; omega)]
      rfl

theorem idx_eq (s : ByteArray) : Lib.idxFunc (fun r => !tokN r) true s = if (rest s.data.toList).isEmpty then -1 else ((token s.data.toList).length : Int) := by
  rw [Lib.idxFunc, idx_from s s.size 0 (by omega) (by omega)]
  simp

/-- where the index says: the two parts -/
theorem cut_none (s : ByteArray) (h : (rest s.data.toList).isEmpty = true) : tokenB s = s ∧ restB s = ⟨#[]⟩ := by
  have h0 : rest s.data.toList = [] := by simpa using h
  have h1 := token_rest s.data.toList
  rw [h0, List.append_nil] at h1
  exact ⟨by rw [tokenB, h1, Lib.mk_data], by rw [restB, h0]⟩
theorem take_of {T R l : List UInt8} (h : T ++ R = l) : l.take T.length = T := by subst h; simp
theorem drop_of {T R l : List UInt8} (h : T ++ R = l) : l.drop T.length = R := by subst h; simp
theorem cut_some (s : ByteArray) : s.extract 0 (token s.data.toList).length = tokenB s ∧ s.extract (token s.data.toList).length s.size = restB s := by
  have h1 := token_rest s.data.toList
  constructor
  · rw [Lib.extract_eq, tokenB, List.drop_zero, Nat.sub_zero, take_of h1]
  · rw [Lib.extract_eq, restB, drop_of h1, List.take_of_length_le]
    rw [Lib.size_eq]
    have := congrArg List.length h1
    rw [List.length_append] at this
    omega
theorem token_le (s : ByteArray) : (token s.data.toList).length ≤ s.size := by
  rw [Lib.size_eq]
  conv => rhs; rw [← token_rest s.data.toList]
  simp

theorem token_all : ∀ l : List UInt8, (token l).all tok = true
  | [] => rfl
  | b :: l => by
    have ih := token_all l
    unfold token at ih ⊢
    rw [List.takeWhile_cons]
    by_cases h : tok b = true
    · rw [if_pos h, List.all_cons, h, ih]; rfl
    · rw [if_neg h]; rfl
theorem rest_head (l : List UInt8) (b : UInt8) (t : List UInt8) (h : rest l = b :: t) : tok b = false := by
  have := List.head?_dropWhile_not tok l
  rw [show l.dropWhile tok = b :: t from h] at this
  simpa using this
theorem token_app (a l : List UInt8) (h : a.all tok = true) : token (a ++ l) = a ++ token l ∧ rest (a ++ l) = rest l := by
  have h' : ∀ x ∈ a, tok x = true := by simpa using h
  exact ⟨List.takeWhile_append_of_pos h', List.dropWhile_append_of_pos h'⟩

end Pl
end Go.Proofs.Qxb6601537a
