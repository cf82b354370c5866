/-
  Seat b6601537a: the law FnCutTokenPrefixOfTokenBytesShifts (4), walked.
-/
import Derived.Test.Qxb6601537aTokLaws
namespace Go.Proofs.Qxb6601537a
open Go.RowKit Go.Lib

set_option maxHeartbeats 400000 in
theorem zz11_in (p q : ByteArray) (w : World) (h : p.size + q.size ≤ 1048576) :
    Calls Try.prog 11 #[.string p, .string q] w fun e w' => e = .returned (.bool true) ∧ w' = w := by
  go_enter Try.func11, Try.ntmps11
  go_wp2
  go_ret
  exact ⟨rfl, rfl⟩

set_option maxHeartbeats 400000 in
theorem zz11_out (p q : ByteArray) (w : World) (hp : p.size ≤ maxLen) (hq : q.size ≤ maxLen) (h : ¬ p.size + q.size ≤ 1048576) :
    Calls Try.prog 11 #[.string p, .string q] w fun e w' => e = .returned (.bool false) ∧ w' = w := by
  unfold maxLen at hp hq
  by_cases h1 : 1048576 < p.size
  · go_enter Try.func11, Try.ntmps11
    go_wp2
    go_ret
    exact ⟨rfl, rfl⟩
  · by_cases h2 : 1048576 < q.size
    · go_enter Try.func11, Try.ntmps11
      go_wp2
      go_ret
      exact ⟨rfl, rfl⟩
    · go_enter Try.func11, Try.ntmps11
      go_wp2
      go_ret
      exact ⟨rfl, rfl⟩

theorem append_data (a b : ByteArray) : (a ++ b).data.toList = a.data.toList ++ b.data.toList := by simp [ByteArray.data_append]
theorem append_mk (a : ByteArray) (l : List UInt8) : a ++ ⟨l.toArray⟩ = ⟨(a.data.toList ++ l).toArray⟩ := by
  rw [← Lib.mk_data (a ++ ⟨l.toArray⟩), append_data]

theorem tokenB_app (a s : ByteArray) (h : a.data.toList.all Pl.tok = true) : Pl.tokenB (a ++ s) = a ++ Pl.tokenB s ∧ Pl.restB (a ++ s) = Pl.restB s := by
  obtain ⟨h1, h2⟩ := Pl.token_app a.data.toList s.data.toList h
  constructor
  · rw [Pl.tokenB, append_data, h1, Pl.tokenB, append_mk]
  · rw [Pl.restB, append_data, h2, Pl.restB]

set_option maxHeartbeats 1000000 in
theorem shifts_walk (a s : ByteArray) (w : World) (ha : a.size ≤ maxLen) (hs : s.size ≤ maxLen) :
    Calls Try.prog 4 #[.string a, .string s] w fun e w' => e = .returned (.bool true) ∧ Below w.heap.size w w' := by
  by_cases hb : a.size + s.size ≤ 1048576
  · have H11 := hide (zz11_in a s w hb)
    by_cases h1 : 524288 < a.size ∨ 524288 < s.size
    · have hh : (524288 < a.size) ∨ (¬ 524288 < a.size ∧ 524288 < s.size) := by omega
      clear h1
      rcases hh with h1 | ⟨h1, h2⟩
      all_goals
        go_enter Try.func4, Try.ntmps4
        go_wp2_with fail
        refine (unhide H11).mono ?_
        rintro e w' ⟨rfl, rfl⟩
        go_wp2
        go_ret
        exact ⟨rfl, Below.refl _ _⟩
    · have g1 : ¬ 524288 < a.size := fun h => h1 (.inl h)
      have g2 : ¬ 524288 < s.size := fun h => h1 (.inr h)
      clear h1
      have C9 := allTok_any a w ha
      cases hall : a.data.toList.all Pl.tok
      · rw [hall] at C9
        have H9 := hide C9
        clear C9 hall
        go_enter Try.func4, Try.ntmps4
        go_wp2_with fail
        refine (unhide H11).mono ?_
        rintro e w' ⟨rfl, rfl⟩
        go_wp2_with fail
        refine (unhide H9).mono ?_
        rintro e w' ⟨rfl, rfl⟩
        go_wp2
        go_ret
        exact ⟨rfl, Below.refl _ _⟩
      · rw [hall] at C9
        obtain ⟨e1, e2⟩ := tokenB_app a s hall
        have H9 := hide C9
        have C8 := zzCut_any s w
        have C8' := fun W => zzCut_any (a ++ s) W
        rw [e1, e2] at C8'
        have hts : (Pl.tokenB s).size ≤ s.size := by rw [tokenB_size]; exact Pl.token_le s
        generalize Pl.tokenB s = T at *
        generalize Pl.restB s = R at *
        have H8 := hide C8
        have H8' := hide C8'
        clear C8 C8' C9 hall e1 e2
        go_enter Try.func4, Try.ntmps4
        go_wp2_with fail
        refine (unhide H11).mono ?_
        rintro e w' ⟨rfl, rfl⟩
        go_wp2_with fail
        refine (unhide H9).mono ?_
        rintro e w' ⟨rfl, rfl⟩
        go_wp2_with fail
        refine (unhide H8).mono ?_
        rintro e w1 ⟨rfl, hb1⟩
        go_wp2_with fail
        refine (unhide H8' w1).mono ?_
        rintro e w2 ⟨rfl, hb2⟩
        go_wp2
        go_ret
        exact ⟨rfl, hb1.trans (hb2.mono hb1.size)⟩
  · have H11 := hide (zz11_out a s w ha hs hb)
    clear hb
    go_enter Try.func4, Try.ntmps4
    go_wp2_with fail
    refine (unhide H11).mono ?_
    rintro e w' ⟨rfl, rfl⟩
    go_wp2
    go_ret
    exact ⟨rfl, Below.refl _ _⟩

end Go.Proofs.Qxb6601537a
