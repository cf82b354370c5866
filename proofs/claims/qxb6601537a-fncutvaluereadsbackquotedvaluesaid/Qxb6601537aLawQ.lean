/-
  Seat b6601537a: zzOcQuoteValue (16) and the law FnCutValueReadsBackQuotedValue (6), walked.
-/
import Derived.Test.Qxb6601537aOwn
namespace Go.Proofs.Qxb6601537a
open Go.RowKit Go.Lib

theorem esc_step {text : List UInt8} {k : Nat} {c : UInt8} (h : text[k]? = some c) : Pv.esc (text.take (k + 1)) = Pv.esc (text.take k) ++ Pv.esc [c] := by
  rw [List.take_add_one, h]
  exact Pv.esc_append _ _

set_option maxHeartbeats 1000000 in
theorem quote_any (s : ByteArray) (w : World) (hs : s.size ≤ 1048576) :
    Calls Try.prog 16 #[.string s] w fun e w' => e = .returned (.string ⟨(34 :: (Pv.esc s.data.toList ++ [34])).toArray⟩) ∧ Below w.heap.size w w' := by
  obtain ⟨V, hV⟩ : ∃ V : ByteArray, ⟨(34 :: (Pv.esc s.data.toList ++ [34])).toArray⟩ = V := ⟨_, rfl⟩
  rw [hV]
  have HV := hide hV
  clear hV
  have E1 : Hid (([] : List UInt8) ++ [34] = [34]) := hide rfl
  go_enter Try.func16, Try.ntmps16
  go_wp2_with (at_make; refine wpList_made rfl _ _ rfl w _ _ rfl rfl (by omega) (by omega) (Below.refl _ _) ?_)
  intro ad0 cap0 x0 O0
  have O0 := hide O0
  go_wp2_with (at_builtin; refine wpList_appb rfl (.tmp 10) (.tmp 11) rfl w _ _ [] [34] [34] _ _ rfl E1 rfl rfl (unhide O0) (by simp) ?_)
  intro ad1 cap1 x1 O1
  have O1 := hide O1
  go_wp2
  go_loopw [3, 4] (fun v i wr => ∃ k : Nat, k ≤ s.size ∧ i = .int .i64 k ∧ Owns w.heap.size w wr v (34 :: Pv.esc (s.data.toList.take k))) (fun _ i _ => s.size - (intOf i).toNat)
  case atStart => exact ⟨0, by omega, rfl, by simpa [Pv.esc] using unhide O1⟩
  case round =>
    obtain ⟨k, hk, rfl, hO⟩ := hrel
    obtain ⟨A, hA⟩ : ∃ A, 34 :: Pv.esc (s.data.toList.take k) = A := ⟨_, rfl⟩
    have nA : A.length ≤ 1 + 2 * k := by
      have h1 := Pv.esc_length (s.data.toList.take k)
      have h2 : (s.data.toList.take k).length ≤ k := List.length_take_le _ _
      rw [← hA]; simp; omega
    rw [hA] at hO
    have HA := hide hA
    have HO := hide hO
    clear hA hO
    by_cases hlt : k < s.size
    · have hx : s.data.toList[k]? = some s[k] := Lib.data_getElem? s k hlt
      obtain ⟨c, hc⟩ : ∃ c, s[k] = c := ⟨_, rfl⟩
      rw [hc] at hx
      have hst := esc_step hx
      clear hx
      by_cases q : c = 34 ∨ c = 92
      · have hgo : (A ++ [92]) ++ [c] = 34 :: Pv.esc (s.data.toList.take (k + 1)) := by
          rw [hst, Pv.esc, if_pos q, ← unhide HA]; simp [Pv.esc]
        obtain ⟨A2, hA2⟩ : ∃ A2, A ++ [92] = A2 := ⟨_, rfl⟩
        obtain ⟨A3, hA3⟩ : ∃ A3, A2 ++ [c] = A3 := ⟨_, rfl⟩
        have nA2 : A2.length ≤ A.length + 1 := by rw [← hA2]; simp
        rw [hA2, hA3] at hgo
        have HGO := hide hgo
        have HA2 := hide hA2
        have HA3 := hide hA3
        have qq : ((c.toNat : Int) == 34) = true ∨ (((c.toNat : Int) == 34) = false ∧ ((c.toNat : Int) == 92) = true) := by
          by_cases h : c = 34
          · exact .inl (byte_is c 34 (by omega) h)
          · exact .inr ⟨byte_not c 34 (by omega) h, byte_is c 92 (by omega) (q.resolve_left h)⟩
        clear hgo hA2 hA3 hst q
        rcases qq with q1 | ⟨q1, q2⟩
        all_goals
          go_wp2_with (at_builtin; refine wpList_appb rfl (.tmp 29) (.tmp 30) rfl w _ _ A [92] A2 _ _ rfl HA2 rfl rfl (unhide HO) (by simp; omega) ?_)
          intro ad2 cap2 x2 O2
          have O2 := hide O2
          go_wp2_with (at_builtin; refine wpList_appb rfl (.tmp 32) (.tmp 36) rfl w _ _ A2 [c] A3 _ _ rfl HA3 rfl rfl (unhide O2) (by simp; omega) ?_)
          intro ad3 cap3 x3 O3
          rw [unhide HGO] at O3
          have O3 := hide O3
          go_wp2
          go_roundw
          case rel => exact ⟨k + 1, by omega, by go_num, by rw [unhide HGO]; exact unhide O3⟩
          case measure => simp [intOf]; omega
      · have hgo : A ++ [c] = 34 :: Pv.esc (s.data.toList.take (k + 1)) := by
          rw [hst, Pv.esc, if_neg q, ← unhide HA]; simp [Pv.esc]
        obtain ⟨A3, hA3⟩ : ∃ A3, A ++ [c] = A3 := ⟨_, rfl⟩
        rw [hA3] at hgo
        have HGO := hide hgo
        have HA3 := hide hA3
        have q1 : ((c.toNat : Int) == 34) = false := byte_not c 34 (by omega) (fun h => q (.inl h))
        have q2 : ((c.toNat : Int) == 92) = false := byte_not c 92 (by omega) (fun h => q (.inr h))
        clear hgo hA3 hst q
        go_wp2_with (at_builtin; refine wpList_appb rfl (.tmp 32) (.tmp 36) rfl w _ _ A [c] A3 _ _ rfl HA3 rfl rfl (unhide HO) (by simp; omega) ?_)
        intro ad3 cap3 x3 O3
        have O3 := hide O3
        go_wp2
        go_roundw
        case rel => exact ⟨k + 1, by omega, by go_num, by rw [← unhide HGO]; exact unhide O3⟩
        case measure => simp [intOf]; omega
    · obtain ⟨A3, hA3⟩ : ∃ A3, A ++ [34] = A3 := ⟨_, rfl⟩
      have hfin : (⟨A3.toArray⟩ : ByteArray) = V := by
        rw [← unhide HV, ← hA3, ← unhide HA, List.take_of_length_le (by rw [← Lib.size_eq]; omega)]; rfl
      have HA3 := hide hA3
      have HFIN := hide hfin
      clear hA3 hfin
      go_wp2_with (at_builtin; refine wpList_appb rfl (.tmp 38) (.tmp 39) rfl w _ _ A [34] A3 _ _ rfl HA3 rfl rfl (unhide HO) (by simp; omega) ?_)
      intro ad3 cap3 x3 O3
      have hconv := O3.text
      rw [unhide HFIN] at hconv
      have O3 := hide O3
      go_wp2
      go_ret
      exact ⟨rfl, (unhide O3).bel⟩

set_option maxHeartbeats 400000 in
theorem zz15_in (p q : ByteArray) (w : World) (h : p.size + q.size ≤ 1048576) :
    Calls Try.prog 15 #[.string p, .string q] w fun e w' => e = .returned (.bool true) ∧ w' = w := by
  go_enter Try.func15, Try.ntmps15
  go_wp2
  go_ret
  exact ⟨rfl, rfl⟩

set_option maxHeartbeats 400000 in
theorem zz15_out (p q : ByteArray) (w : World) (hp : p.size ≤ maxLen) (hq : q.size ≤ maxLen) (h : ¬ p.size + q.size ≤ 1048576) :
    Calls Try.prog 15 #[.string p, .string q] w fun e w' => e = .returned (.bool false) ∧ w' = w := by
  unfold maxLen at hp hq
  by_cases h1 : 1048576 < p.size
  · go_enter Try.func15, Try.ntmps15
    go_wp2
    go_ret
    exact ⟨rfl, rfl⟩
  · by_cases h2 : 1048576 < q.size
    · go_enter Try.func15, Try.ntmps15
      go_wp2
      go_ret
      exact ⟨rfl, rfl⟩
    · go_enter Try.func15, Try.ntmps15
      go_wp2
      go_ret
      exact ⟨rfl, rfl⟩

theorem cat_data (a b : ByteArray) : (a ++ b).data.toList = a.data.toList ++ b.data.toList := by simp [ByteArray.data_append]

set_option maxHeartbeats 1000000 in
theorem reads_walk (v tail : ByteArray) (w : World) (hv : v.size ≤ maxLen) (ht : tail.size ≤ maxLen) :
    Calls Try.prog 6 #[.string v, .string tail] w fun e w' => e = .returned (.bool true) ∧ Below w.heap.size w w' := by
  by_cases hb : v.size + tail.size ≤ 1048576
  · have H15 := hide (zz15_in v tail w hb)
    by_cases h1 : 262144 < v.size ∨ 262144 < tail.size
    · have hh : (262144 < v.size) ∨ (¬ 262144 < v.size ∧ 262144 < tail.size) := by omega
      clear h1
      rcases hh with h1 | ⟨h1, h2⟩
      all_goals
        go_enter Try.func6, Try.ntmps6
        go_wp2_with fail
        refine (unhide H15).mono ?_
        rintro e w' ⟨rfl, rfl⟩
        go_wp2
        go_ret
        exact ⟨rfl, Below.refl _ _⟩
    · have g1 : ¬ 262144 < v.size := fun h => h1 (.inl h)
      have g2 : ¬ 262144 < tail.size := fun h => h1 (.inr h)
      clear h1
      have C16 := quote_any v w (by omega)
      obtain ⟨q, hq⟩ : ∃ q : ByteArray, ⟨(34 :: (Pv.esc v.data.toList ++ [34])).toArray⟩ = q := ⟨_, rfl⟩
      rw [hq] at C16
      have hqd : q.data.toList = 34 :: (Pv.esc v.data.toList ++ [34]) := by rw [← hq]
      have hqs : q.size ≤ 524300 := by
        have := Pv.esc_length v.data.toList
        rw [Lib.size_eq, hqd]
        rw [← Lib.size_eq] at this
        simp
        omega
      have hcat : (q ++ tail).data.toList = 34 :: (Pv.esc v.data.toList ++ 34 :: tail.data.toList) := by
        rw [cat_data, hqd]; simp
      have hcs : (q ++ tail).size ≤ 4194304 := by
        rw [ByteArray.size_append]; omega
      have hcut : cut (q ++ tail).data.toList = (v.data.toList, tail.data.toList, true) := by
        refine cut_quoted (by rw [hcat]; rfl) ?_
        rw [hcat]
        exact Pv.rd_esc _ _
      have C13 := fun W => zzCutValue_any (q ++ tail) W hcs
      rw [hcut] at C13
      change ∀ W, Calls Try.prog 13 #[.string (q ++ tail)] W fun e w' => e = .returned (.tuple #[.string ⟨v.data.toList.toArray⟩, .string ⟨tail.data.toList.toArray⟩, .bool true]) ∧ Below W.heap.size W w' at C13
      simp only [Lib.mk_data] at C13
      have H16 := hide C16
      have H13 := hide C13
      clear C16 C13 hcut hcat hqd hq
      go_enter Try.func6, Try.ntmps6
      go_wp2_with fail
      refine (unhide H15).mono ?_
      rintro e w' ⟨rfl, rfl⟩
      go_wp2_with fail
      refine (unhide H16).mono ?_
      rintro e w1 ⟨rfl, hb1⟩
      go_wp2_with fail
      refine (unhide H13 w1).mono ?_
      rintro e w2 ⟨rfl, hb2⟩
      go_wp2
      go_ret
      exact ⟨rfl, hb1.trans (hb2.mono hb1.size)⟩
  · have H15 := hide (zz15_out v tail w hv ht hb)
    clear hb
    go_enter Try.func6, Try.ntmps6
    go_wp2_with fail
    refine (unhide H15).mono ?_
    rintro e w' ⟨rfl, rfl⟩
    go_wp2
    go_ret
    exact ⟨rfl, Below.refl _ _⟩

end Go.Proofs.Qxb6601537a
