/-
  Seat b6601537a: the two laws on cutToken (3, 4), walked.
-/
import Derived.Test.Qxb6601537aTokWalk
namespace Go.Proofs.Qxb6601537a
open Go.RowKit Go.Lib

set_option maxHeartbeats 1000000 in
theorem zzCut_any (s : ByteArray) (w : World) :
    Calls Try.prog 8 #[.string s] w fun e w' => e = .returned (.tuple #[.string (Pl.tokenB s), .string (Pl.restB s)]) ∧ Below w.heap.size w w' := by
  have C := hide (cutToken_any s w)
  generalize Pl.tokenB s = T at *
  generalize Pl.restB s = R at *
  go_enter Try.func8, Try.ntmps8
  go_wp2_with fail
  refine (unhide C).mono ?_
  rintro e w' ⟨rfl, hb⟩
  go_wp2
  go_ret2
  exact ⟨rfl, hb⟩

theorem int_ne {n k : Nat} (h : ¬ n = k) : ((n : Int) == (k : Int)) = false := beq_eq_false_iff_ne.2 (by omega)

set_option maxHeartbeats 4000000 in
theorem isTok_any (n : Nat) (w : World) (hn : n < 256) :
    Calls Try.prog 10 #[.int .u8 (n : Int)] w fun e w' => e = .returned (.bool (Pl.tokN n)) ∧ w' = w := by
  rw [← Pl.vis_tok n hn]
  by_cases h1 : n < 33
  · have hv : Pl.vis n = false := by unfold Pl.vis; rw [decide_eq_false (by omega)]; rfl
    rw [hv]
    clear hv
    go_enter Try.func10, Try.ntmps10
    go_wp2
    go_ret
    exact ⟨rfl, rfl⟩
  by_cases h2 : 126 < n
  · have hv : Pl.vis n = false := by unfold Pl.vis; rw [decide_eq_false (show ¬ n ≤ 126 by omega)]; simp
    rw [hv]
    clear hv
    go_enter Try.func10, Try.ntmps10
    go_wp2
    go_ret
    exact ⟨rfl, rfl⟩
  by_cases hm : ([34, 40, 41, 44, 58, 59, 60, 61, 62, 63, 64, 91, 92, 93, 123, 125] : List Nat).contains n = true
  · have hv : Pl.vis n = false := by unfold Pl.vis; rw [hm]; simp
    rw [hv]
    have hm2 : n = 34 ∨ n = 40 ∨ n = 41 ∨ n = 44 ∨ n = 58 ∨ n = 59 ∨ n = 60 ∨ n = 61 ∨ n = 62 ∨ n = 63 ∨ n = 64 ∨ n = 91 ∨ n = 92 ∨ n = 93 ∨ n = 123 ∨ n = 125 := by simpa using hm
    clear hv hm h1 h2 hn
    rcases hm2 with rfl | rfl | rfl | rfl | rfl | rfl | rfl | rfl | rfl | rfl | rfl | rfl | rfl | rfl | rfl | rfl
    all_goals
      go_enter Try.func10, Try.ntmps10
      go_wp2
      go_ret
      exact ⟨rfl, rfl⟩
  · have hv : Pl.vis n = true := by
      unfold Pl.vis
      rw [decide_eq_true (show 33 ≤ n by omega), decide_eq_true (show n ≤ 126 by omega), Bool.not_eq_true] at *
      rw [hm]; rfl
    rw [hv]
    have hm2 : ¬ (n = 34 ∨ n = 40 ∨ n = 41 ∨ n = 44 ∨ n = 58 ∨ n = 59 ∨ n = 60 ∨ n = 61 ∨ n = 62 ∨ n = 63 ∨ n = 64 ∨ n = 91 ∨ n = 92 ∨ n = 93 ∨ n = 123 ∨ n = 125) := by simpa using hm
    simp only [not_or] at hm2
    obtain ⟨a1, a2, a3, a4, a5, a6, a7, a8, a9, a10, a11, a12, a13, a14, a15, a16⟩ := hm2
    have b1 := int_ne a1; have b2 := int_ne a2; have b3 := int_ne a3; have b4 := int_ne a4; have b5 := int_ne a5; have b6 := int_ne a6; have b7 := int_ne a7; have b8 := int_ne a8
    have b9 := int_ne a9; have b10 := int_ne a10; have b11 := int_ne a11; have b12 := int_ne a12; have b13 := int_ne a13; have b14 := int_ne a14; have b15 := int_ne a15; have b16 := int_ne a16
    clear a1 a2 a3 a4 a5 a6 a7 a8 a9 a10 a11 a12 a13 a14 a15 a16 hv hm
    go_enter Try.func10, Try.ntmps10
    go_wp2
    go_ret
    exact ⟨rfl, rfl⟩

theorem all_step {l : List UInt8} {k : Nat} {c : UInt8} (h : l[k]? = some c) (hp : (l.take k).all Pl.tok = true) (hc : Pl.tok c = true) : (l.take (k + 1)).all Pl.tok = true := by
  rw [List.take_add_one, h, List.all_append, hp]
  simp [hc]
theorem all_not {l : List UInt8} {k : Nat} {c : UInt8} (h : l[k]? = some c) (hc : Pl.tok c = false) : l.all Pl.tok = false := by
  rw [List.all_eq_false]
  exact ⟨c, List.mem_of_getElem? h, by simp [hc]⟩

set_option maxHeartbeats 1000000 in
theorem allTok_any (s : ByteArray) (w : World) (hs : s.size ≤ maxLen) :
    Calls Try.prog 9 #[.string s] w fun e w' => e = .returned (.bool (s.data.toList.all Pl.tok)) ∧ w' = w := by
  unfold maxLen at hs
  obtain ⟨B, hB⟩ : ∃ B, s.data.toList.all Pl.tok = B := ⟨_, rfl⟩
  rw [hB]
  have HB := hide hB
  clear hB
  go_enter Try.func9, Try.ntmps9
  go_wp2
  go_loop [3] (fun i => ∃ k : Nat, k ≤ s.size ∧ i = .int .i64 k ∧ (s.data.toList.take k).all Pl.tok = true) (fun i => s.size - (intOf i).toNat)
  case atStart => exact ⟨0, Nat.zero_le _, rfl, rfl⟩
  case round =>
    obtain ⟨k, hk, rfl, hp⟩ := hrel
    have HP : Hid ((s.data.toList.take k).all Pl.tok = true) := hp
    clear hp
    by_cases hlt : k < s.size
    · have HX : Hid (s.data.toList[k]? = some s[k]) := Lib.data_getElem? s k hlt
      have C := isTok_any (s[k]).toNat w (by have := (s[k]).toNat_lt; omega)
      obtain ⟨c, hc⟩ : ∃ c, s[k] = c := ⟨_, rfl⟩
      rw [hc] at HX C
      change Calls Try.prog 10 _ _ fun e w' => e = .returned (.bool (Pl.tok c)) ∧ w' = w at C
      cases ht : Pl.tok c
      · rw [ht] at C
        have HT := hide ht
        have C1 := hide C
        clear C ht
        go_wp2_with fail
        refine (unhide C1).mono ?_
        rintro e w' ⟨rfl, rfl⟩
        go_wp2
        go_ret
        exact ⟨by rw [← unhide HB, all_not HX.out HT.out]; rfl, rfl⟩
      · rw [ht] at C
        have HT := hide ht
        have C1 := hide C
        clear C ht
        go_wp2_with fail
        refine (unhide C1).mono ?_
        rintro e w' ⟨rfl, rfl⟩
        go_wp2
        go_round
        case rel => exact ⟨k + 1, by omega, by go_num, all_step HX.out HP.out HT.out⟩
        case measure => simp [intOf]; omega
    · go_wp2
      go_ret
      have hkk : k = s.size := by omega
      subst hkk
      have := HP.out
      rw [Lib.size_eq, List.take_length] at this
      exact ⟨by rw [← unhide HB, this]; rfl, rfl⟩

set_option maxHeartbeats 400000 in
theorem zz7_any (s : ByteArray) (w : World) (hs : s.size ≤ maxLen) :
    Calls Try.prog 7 #[.string s] w fun e w' => e = .returned (.bool (decide (s.size ≤ 1048576))) ∧ w' = w := by
  unfold maxLen at hs
  by_cases h : s.size ≤ 1048576
  · rw [decide_eq_true h]
    go_enter Try.func7, Try.ntmps7
    go_wp2
    go_ret
    exact ⟨rfl, rfl⟩
  · rw [decide_eq_false h]
    go_enter Try.func7, Try.ntmps7
    go_wp2
    go_ret
    exact ⟨rfl, rfl⟩

theorem tokenB_size (s : ByteArray) : (Pl.tokenB s).size = (Pl.token s.data.toList).length := by rw [Lib.size_eq]; rfl

set_option maxHeartbeats 1000000 in
theorem splits_walk (s : ByteArray) (w : World) (hs : s.size ≤ maxLen) :
    Calls Try.prog 3 #[.string s] w fun e w' => e = .returned (.bool true) ∧ Below w.heap.size w w' := by
  have C7 := zz7_any s w hs
  by_cases hb : s.size ≤ 1048576
  · rw [decide_eq_true hb] at C7
    have C8 := zzCut_any s w
    obtain ⟨e1, e2⟩ := Pl.cut_some s
    have hsz := tokenB_size s
    rw [← hsz] at e1 e2
    have hle := Pl.token_le s
    rw [← hsz] at hle
    have C9 := fun W => allTok_any (Pl.tokenB s) W (by unfold maxLen; omega)
    have hall : (Pl.tokenB s).data.toList.all Pl.tok = true := Pl.token_all _
    rw [hall] at C9
    have hR : (Pl.restB s).size = 0 ∨ ∃ (h : 0 < (Pl.restB s).size), Pl.tok ((Pl.restB s)[0]'h) = false := by
      have hdat : (Pl.restB s).data.toList = Pl.rest s.data.toList := rfl
      cases hr : Pl.rest s.data.toList with
      | nil => exact .inl (by rw [Lib.size_eq, hdat, hr]; rfl)
      | cons b t =>
        have hpos : 0 < (Pl.restB s).size := by rw [Lib.size_eq, hdat, hr]; simp
        refine .inr ⟨hpos, ?_⟩
        have hg := Lib.data_getElem? (Pl.restB s) 0 hpos
        rw [hdat, hr] at hg
        have : b = (Pl.restB s)[0] := by simpa using hg
        rw [← this]
        exact Pl.rest_head _ b t hr
    have H7 := hide C7
    have H8 := hide C8
    have H9 := hide C9
    clear C7 C8 C9 hall hsz
    generalize Pl.tokenB s = T at *
    generalize Pl.restB s = R at *
    rcases hR with hR | ⟨hpos, hR⟩
    · have hR0 : ((R.size : Int) == 0) = true := beq_iff_eq.2 (by omega)
      clear hR
      go_enter Try.func3, Try.ntmps3
      go_wp2_with fail
      refine (unhide H7).mono ?_
      rintro e w' ⟨rfl, rfl⟩
      go_wp2_with fail
      refine (unhide H8).mono ?_
      rintro e w1 ⟨rfl, hb1⟩
      go_wp2_with fail
      refine (unhide H9 w1).mono ?_
      rintro e w2 ⟨rfl, rfl⟩
      go_wp2
      go_ret
      exact ⟨rfl, hb1⟩
    · have hR0 : ((R.size : Int) == 0) = false := beq_eq_false_iff_ne.2 (by omega)
      have hRp : (0 : Int) < (R.size : Int) := by omega
      obtain ⟨c, hc⟩ : ∃ c, R[0]'hpos = c := ⟨_, rfl⟩
      rw [hc] at hR
      have C10 := fun W => isTok_any c.toNat W (by have := c.toNat_lt; omega)
      rw [show Pl.tokN c.toNat = false from hR] at C10
      have H10 := hide C10
      clear C10 hR
      go_enter Try.func3, Try.ntmps3
      go_wp2_with fail
      refine (unhide H7).mono ?_
      rintro e w' ⟨rfl, rfl⟩
      go_wp2_with fail
      refine (unhide H8).mono ?_
      rintro e w1 ⟨rfl, hb1⟩
      go_wp2_with fail
      refine (unhide H9 w1).mono ?_
      rintro e w2 ⟨rfl, rfl⟩
      go_wp2_with fail
      refine (unhide H10 w2).mono ?_
      rintro e w3 ⟨rfl, rfl⟩
      go_wp2
      go_ret
      exact ⟨rfl, hb1⟩
  · rw [decide_eq_false hb] at C7
    have H7 := hide C7
    clear C7 hb
    go_enter Try.func3, Try.ntmps3
    go_wp2_with fail
    refine (unhide H7).mono ?_
    rintro e w' ⟨rfl, rfl⟩
    go_wp2
    go_ret
    exact ⟨rfl, Below.refl _ _⟩

end Go.Proofs.Qxb6601537a
