/-
  Seat b6601164a: isPlainNumber (22) at the one mark ".", dropOneMinus (19), the law (9).
-/
import Derived.Test.Qxb6601164aWalkA
import Derived.Test.Qxb6601164aLib
namespace Go.Proofs.Qxb6601164a
open Go.RowKit

theorem trim_less (s p : ByteArray) (w : World) (hp : p.data.toList = [45]) :
    Calls Try.prog 26 #[.string s, .string p] w fun e w' => e = .returned (.string (Pl.lessB s)) ∧ w' = w := by
  refine (strings_TrimPrefix s p w).mono ?_
  rintro e w' ⟨rfl, rfl⟩
  rw [hp, Pl.less_trim]
  exact ⟨rfl, rfl⟩

set_option maxHeartbeats 400000 in
theorem drop_any (s : ByteArray) (w : World) :
    Calls Try.prog 19 #[.string s] w fun e w' => e = .returned (.string (Pl.lessB s)) ∧ w' = w := by
  by_cases h0 : s.size = 0
  · have hnil : s.data.toList = [] := List.length_eq_zero_iff.1 (by rw [← Lib.size_eq]; exact h0)
    have HE : Hid (Pl.lessB s = s) := by
      show Pl.lessB s = s
      rw [← Lib.mk_data s, Pl.lessB, hnil]; rfl
    go_enter Try.func19, Try.ntmps19
    go_wp2
    go_ret
    exact ⟨by rw [HE.out]; rfl, rfl⟩
  · obtain ⟨b, l, hl⟩ : ∃ b l, s.data.toList = b :: l := by
      cases h : s.data.toList with
      | nil => have := Lib.size_eq s; rw [h, List.length_nil] at this; omega
      | cons b l => exact ⟨b, l, rfl⟩
    have hb : s[0]'(by omega) = b := by
      have := Lib.data_getElem? s 0 (by omega)
      rw [hl] at this
      simpa using this.symm
    by_cases h45 : b = 45
    · have HE : Hid (Pl.lessB s = s.extract 1 s.size) := by
        show Pl.lessB s = s.extract 1 s.size
        rw [Lib.extract_eq, Pl.lessB, hl, Lib.size_eq, hl]
        simp [Pl.less, h45]
      have ht : ((b.toNat : Int) == 45) = true := by subst h45; rfl
      clear hl
      go_enter Try.func19, Try.ntmps19
      go_wp2
      go_ret
      exact ⟨by rw [HE.out]; rfl, rfl⟩
    · have HE : Hid (Pl.lessB s = s) := by
        show Pl.lessB s = s
        rw [← Lib.mk_data s, Pl.lessB, hl]
        simp [Pl.less, h45]
      have ht : ((b.toNat : Int) == 45) = false := by
        rw [beq_eq_false_iff_ne]
        intro h
        exact h45 (UInt8.toNat_inj.1 (by have : (45 : UInt8).toNat = 45 := rfl; omega))
      clear hl
      go_enter Try.func19, Try.ntmps19
      go_wp2
      go_ret
      exact ⟨by rw [HE.out]; rfl, rfl⟩

set_option maxHeartbeats 800000 in
theorem isPlain_any (s chars : ByteArray) (w : World) (hs : s.size ≤ maxLen) (hch : chars.data.toList = [46]) :
    Calls Try.prog 22 #[.string s, .string chars] w fun e w' => e = .returned (.bool (Pl.plain s.data.toList)) ∧ w' = w := by
  have hD := Pl.lessB_size s
  have hDd := Pl.lessB_data s
  have hr := Pl.index_range 46 (Pl.less s.data.toList)
  have hP : Pl.plain s.data.toList = (if Lib.indexByte (Pl.less s.data.toList) 46 < 0 then Pl.digs (Pl.less s.data.toList) else Pl.digs ((Pl.less s.data.toList).take (Lib.indexByte (Pl.less s.data.toList) 46).toNat) && Pl.digs ((Pl.less s.data.toList).drop ((Lib.indexByte (Pl.less s.data.toList) 46).toNat + 1))) := rfl
  rw [← hDd] at hr hP
  have c26 := trim_less s ⟨#[45]⟩ w rfl
  rw [hP]
  clear hP
  generalize Pl.lessB s = D at *
  have c27 := strings_IndexAny_one D chars 46 w hch (by decide)
  have hDs : D.size ≤ maxLen := Nat.le_trans hD hs
  have c21 := allDigits_any D w hDs
  unfold maxLen at hs hDs
  clear hch hDd
  rcases hr with hr | ⟨k, hr, hk⟩
  · rw [hr] at c27
    rw [hr, if_pos (by omega)]
    clear hr
    generalize Pl.digs D.data.toList = B at *
    have h26 := hide c26
    have h27 := hide c27
    have h21 := hide c21
    clear c26 c27 c21
    go_enter Try.func22, Try.ntmps22
    go_wp2_with fail
    refine (unhide h26).mono ?_
    rintro e w' ⟨rfl, rfl⟩
    go_wp2_with fail
    refine (unhide h27).mono ?_
    rintro e w' ⟨rfl, rfl⟩
    go_wp2_with fail
    refine (unhide h21).mono ?_
    rintro e w' ⟨rfl, rfl⟩
    go_wp2
    go_ret
    exact ⟨rfl, rfl⟩
  · rw [← Lib.size_eq] at hk
    have c1 := allDigits_any (D.extract 0 k) w (by simp [maxLen]; omega)
    have c2 := allDigits_any (D.extract (k + 1) D.size) w (by simp [maxLen]; omega)
    rw [Lib.extract_data, List.drop_zero, Nat.sub_zero] at c1
    rw [Lib.extract_to_end] at c2
    rw [hr] at c27
    rw [hr, if_neg (by omega), Int.toNat_natCast]
    clear hr c21
    generalize Pl.digs (List.take k D.data.toList) = B1 at *
    generalize Pl.digs (List.drop (k + 1) D.data.toList) = B2 at *
    have h26 := hide c26
    have h27 := hide c27
    have h1 := hide c1
    have h2 := hide c2
    clear c26 c27 c1 c2
    cases B1
    · go_enter Try.func22, Try.ntmps22
      go_wp2_with fail
      refine (unhide h26).mono ?_
      rintro e w' ⟨rfl, rfl⟩
      go_wp2_with fail
      refine (unhide h27).mono ?_
      rintro e w' ⟨rfl, rfl⟩
      go_wp2_with fail
      refine (unhide h1).mono ?_
      rintro e w' ⟨rfl, rfl⟩
      go_wp2
      go_ret
      exact ⟨rfl, rfl⟩
    · go_enter Try.func22, Try.ntmps22
      go_wp2_with fail
      refine (unhide h26).mono ?_
      rintro e w' ⟨rfl, rfl⟩
      go_wp2_with fail
      refine (unhide h27).mono ?_
      rintro e w' ⟨rfl, rfl⟩
      go_wp2_with fail
      refine (unhide h1).mono ?_
      rintro e w' ⟨rfl, rfl⟩
      go_wp2_with fail
      refine (unhide h2).mono ?_
      rintro e w' ⟨rfl, rfl⟩
      go_wp2
      go_ret
      exact ⟨rfl, rfl⟩

set_option maxHeartbeats 400000 in
theorem zzAll_any (s : ByteArray) (w : World) (hs : s.size ≤ maxLen) :
    Calls Try.prog 13 #[.string s] w fun e w' => e = .returned (.bool (Pl.digs s.data.toList)) ∧ w' = w := by
  have c := allDigits_any s w hs
  generalize Pl.digs s.data.toList = B at *
  have h := hide c
  clear c
  go_enter Try.func13, Try.ntmps13
  go_wp2_with fail
  refine (unhide h).mono ?_
  rintro e w' ⟨rfl, rfl⟩
  go_wp2
  go_ret
  exact ⟨rfl, rfl⟩

set_option maxHeartbeats 400000 in
theorem zzPlain_any (s chars : ByteArray) (w : World) (hs : s.size ≤ maxLen) (hch : chars.data.toList = [46]) :
    Calls Try.prog 15 #[.string s, .string chars] w fun e w' => e = .returned (.bool (Pl.plain s.data.toList)) ∧ w' = w := by
  have c := isPlain_any s chars w hs hch
  generalize Pl.plain s.data.toList = B at *
  have h := hide c
  clear c
  go_enter Try.func15, Try.ntmps15
  go_wp2_with fail
  refine (unhide h).mono ?_
  rintro e w' ⟨rfl, rfl⟩
  go_wp2
  go_ret
  exact ⟨rfl, rfl⟩

set_option maxHeartbeats 400000 in
theorem zzBytes_in (p q : ByteArray) (w : World) (h : p.size + q.size ≤ 1048576) :
    Calls Try.prog 18 #[.string p, .string q] w fun e w' => e = .returned (.bool true) ∧ w' = w := by
  go_enter Try.func18, Try.ntmps18
  go_wp2
  go_ret
  exact ⟨rfl, rfl⟩

set_option maxHeartbeats 400000 in
theorem zzBytes_out (p q : ByteArray) (w : World) (hp : p.size ≤ maxLen) (hq : q.size ≤ maxLen) (h : ¬ p.size + q.size ≤ 1048576) :
    Calls Try.prog 18 #[.string p, .string q] w fun e w' => e = .returned (.bool false) ∧ w' = w := by
  unfold maxLen at hp hq
  by_cases h1 : 1048576 < p.size
  · go_enter Try.func18, Try.ntmps18
    go_wp2
    go_ret
    exact ⟨rfl, rfl⟩
  · by_cases h2 : 1048576 < q.size
    · go_enter Try.func18, Try.ntmps18
      go_wp2
      go_ret
      exact ⟨rfl, rfl⟩
    · go_enter Try.func18, Try.ntmps18
      go_wp2
      go_ret
      exact ⟨rfl, rfl⟩

end Go.Proofs.Qxb6601164a
