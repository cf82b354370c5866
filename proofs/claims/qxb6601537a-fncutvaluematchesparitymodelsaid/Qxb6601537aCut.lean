/-
  Seat b6601537a: cutValue (18, 13), walked.
-/
import Derived.Test.Qxb6601537aAny
import Derived.Test.Qxb6601537aBuild
import Derived.Test.Qxb6601537aValPlain
import Derived.RegionTactic
import Derived.Deep.RegionWith
import Derived.Lib.Walk
namespace Go.Proofs.Qxb6601537a
open Go.RowKit Go.Lib

def seps : List UInt8 := [44, 32, 9]
/-- what cutValue answers -/
def cut (l : List UInt8) : List UInt8 × List UInt8 × Bool :=
  if l.head? = some 34 then (match Pv.rd (l.drop 1) with | some x => (x.1, x.2, true) | none => ([], [], false))
  else if Lib.indexAny l seps < 0 then (l, [], true) else (l.take (Lib.indexAny l seps).toNat, l.drop (Lib.indexAny l seps).toNat, true)
def cutV (c : List UInt8 × List UInt8 × Bool) : Value := .tuple #[.string ⟨c.1.toArray⟩, .string ⟨c.2.1.toArray⟩, .bool c.2.2]

theorem cut_quoted {l : List UInt8} (h : l.head? = some 34) {v r : List UInt8} (hr : Pv.rd (l.drop 1) = some (v, r)) : cut l = (v, r, true) := by
  unfold cut; rw [if_pos h, hr]
theorem cut_open {l : List UInt8} (h : l.head? = some 34) (hr : Pv.rd (l.drop 1) = none) : cut l = ([], [], false) := by
  unfold cut; rw [if_pos h, hr]
theorem cut_whole {l : List UInt8} (h : ¬ l.head? = some 34) (hi : Lib.indexAny l seps < 0) : cut l = (l, [], true) := by
  unfold cut; rw [if_neg h, if_pos hi]
theorem cut_at {l : List UInt8} (h : ¬ l.head? = some 34) {n : Nat} (hi : Lib.indexAny l seps = n) : cut l = (l.take n, l.drop n, true) := by
  unfold cut; rw [if_neg h, if_neg (by omega), hi, Int.toNat_natCast]

theorem indexAny_range (chars : List UInt8) : ∀ l : List UInt8, Lib.indexAny l chars = -1 ∨ ∃ k : Nat, Lib.indexAny l chars = k ∧ k < l.length
  | [] => .inl rfl
  | b :: l => by
    rw [Lib.indexAny]
    by_cases hb : chars.contains b = true
    · rw [if_pos hb]; exact .inr ⟨0, rfl, by simp⟩
    · rw [if_neg hb]
      rcases indexAny_range chars l with h | ⟨k, h, hl⟩
      · rw [h]; exact .inl rfl
      · rw [h, if_neg (by rw [beq_iff_eq]; omega)]
        exact .inr ⟨k + 1, by simp, by simp; omega⟩

set_option maxHeartbeats 1000000 in
theorem hasPrefix_any (s p : ByteArray) (w : World) :
    Calls Try.prog 23 #[.string s, .string p] w fun e w' => e = .returned (.bool (Lib.hasPrefix s.data.toList p.data.toList)) ∧ w' = w := by
  rw [← Lib.hasPrefix_of_take, ← Lib.size_eq, ← Lib.size_eq]
  go_enter Try.func23, Try.ntmps23
  go_wp2
  · rename_i h
    go_ret
    refine ⟨?_, rfl⟩
    show Ending.returned (Value.bool ((s.extract 0 p.size).toList == p.toList)) = _
    rw [Lib.extract_toList, Lib.toList_data]
    simp [h]
  · rename_i h
    go_ret
    refine ⟨?_, rfl⟩
    show Ending.returned (Value.bool false) = _
    simp [h]

theorem prefix_quote (l : List UInt8) : Lib.hasPrefix l [34] = decide (l.head? = some 34) := by
  cases l with
  | nil => rfl
  | cons b l =>
    by_cases h : b = 34
    · subst h; simp [Lib.hasPrefix, List.isPrefixOf]
    · have h2 : ((34 : UInt8) == b) = false := by simpa using fun e => h e.symm
      simp [Lib.hasPrefix, List.isPrefixOf, h, h2]

theorem seps_ascii : Ascii ⟨#[44, 32, 9]⟩ := by
  intro b hb
  have h : ∀ b ∈ ([44, 32, 9] : List UInt8), b.toNat < 128 := by decide
  exact h b hb

set_option maxHeartbeats 1000000 in
/-- a value that is not quoted -/
theorem cutValue_bare (s : ByteArray) (w : World) (hs : s.size ≤ 4194304) (hq : ¬ s.data.toList.head? = some 34) :
    Calls Try.prog 18 #[.string s] w fun e w' => e = .returned (cutV (cut s.data.toList)) ∧ Below w.heap.size w w' := by
  have C23 := hasPrefix_any s ⟨#[34]⟩ w
  rw [show (⟨#[34]⟩ : ByteArray).data.toList = [34] from rfl, prefix_quote, decide_eq_false hq] at C23
  have C24 := indexAny_any s ⟨#[44, 32, 9]⟩ w (by decide) (by decide) hs seps_ascii
  change Calls Try.prog 24 _ _ fun e w' => e = .returned (.int .i64 (Lib.indexAny s.data.toList seps)) ∧ _ at C24
  rcases indexAny_range seps s.data.toList with hi | ⟨n, hi, hn⟩
  · rw [cut_whole hq (by omega)]
    change Calls _ _ _ _ fun e w' => e = .returned (.tuple #[.string ⟨s.data.toList.toArray⟩, .string ⟨#[]⟩, .bool true]) ∧ _
    rw [Lib.mk_data]
    rw [hi] at C24
    have H23 := hide C23
    have H24 := hide C24
    clear C23 C24 hi hq
    go_enter Try.func18, Try.ntmps18
    go_wp2_with fail
    refine (unhide H23).mono ?_
    rintro e w' ⟨rfl, rfl⟩
    go_wp2_with fail
    refine (unhide H24).mono ?_
    rintro e w1 ⟨rfl, hb⟩
    go_wp2
    go_ret3
    exact ⟨rfl, hb⟩
  · rw [cut_at hq hi]
    rw [← Lib.size_eq] at hn
    change Calls _ _ _ _ fun e w' => e = .returned (.tuple #[.string ⟨(s.data.toList.take n).toArray⟩, .string ⟨(s.data.toList.drop n).toArray⟩, .bool true]) ∧ _
    have e1 : (⟨(s.data.toList.take n).toArray⟩ : ByteArray) = s.extract 0 n := by rw [Lib.extract_eq]; simp
    have e2 : (⟨(s.data.toList.drop n).toArray⟩ : ByteArray) = s.extract n s.size := by
      rw [Lib.extract_eq, List.take_of_length_le (by rw [List.length_drop, ← Lib.size_eq]; omega)]
    rw [e1, e2]
    rw [hi] at C24
    have H23 := hide C23
    have H24 := hide C24
    have hnn : ¬ ((n : Int) < 0) := by omega
    have hn0 : (0 : Int) ≤ (n : Int) := by omega
    have hn1 : (n : Int) ≤ (s.size : Int) := by omega
    clear C23 C24 hi hq e1 e2
    go_enter Try.func18, Try.ntmps18
    go_wp2_with fail
    refine (unhide H23).mono ?_
    rintro e w' ⟨rfl, rfl⟩
    go_wp2_with fail
    refine (unhide H24).mono ?_
    rintro e w1 ⟨rfl, hb⟩
    go_wp2
    go_quiet (fail)
    go_wp2
    go_ret3
    exact ⟨rfl, below_drewN' hb _⟩

theorem byte_is (c : UInt8) (n : Nat) (h : n < 256) (e : c = UInt8.ofNat n) : ((c.toNat : Int) == (n : Int)) = true := by
  rw [beq_iff_eq, e]
  have : (UInt8.ofNat n).toNat = n := by simp; omega
  omega
theorem byte_not (c : UInt8) (n : Nat) (h : n < 256) (e : ¬ c = UInt8.ofNat n) : ((c.toNat : Int) == (n : Int)) = false := by
  rw [beq_eq_false_iff_ne]
  intro h2
  refine e (UInt8.toNat_inj.1 ?_)
  have : (UInt8.ofNat n).toNat = n := by simp; omega
  omega

theorem drop_at (s : ByteArray) (k : Nat) (h : k < s.size) : s.data.toList.drop k = s[k] :: s.data.toList.drop (k + 1) := by
  have hl : k < s.data.toList.length := by rw [← Lib.size_eq]; exact h
  rw [List.drop_eq_getElem_cons hl]
  rfl

set_option maxHeartbeats 4000000 in
/-- a quoted value -/
theorem cutValue_quoted (s : ByteArray) (w : World) (hs : s.size ≤ 4194304) (hq : s.data.toList.head? = some 34) :
    Calls Try.prog 18 #[.string s] w fun e w' => e = .returned (cutV (cut s.data.toList)) ∧ Below w.heap.size w w' := by
  have C23 := hasPrefix_any s ⟨#[34]⟩ w
  rw [show (⟨#[34]⟩ : ByteArray).data.toList = [34] from rfl, prefix_quote, decide_eq_true hq] at C23
  have h1s : 1 ≤ s.size := by
    rw [Lib.size_eq]
    cases h : s.data.toList with
    | nil => rw [h] at hq; simp at hq
    | cons _ _ => simp
  obtain ⟨V, hV⟩ : ∃ V, cutV (cut s.data.toList) = V := ⟨_, rfl⟩
  rw [hV]
  have HV := hide hV
  have HQ := hide hq
  have H23 := hide C23
  clear C23 hq hV
  go_enter Try.func18, Try.ntmps18
  go_wp2_with fail
  refine (unhide H23).mono ?_
  rintro e w' ⟨rfl, rfl⟩
  go_wp2
  go_loopw [7] (fun i wr => ∃ (k : Nat) (acc : List UInt8), i = .int .i64 k ∧ 1 ≤ k ∧ k ≤ s.size ∧ acc.length ≤ k ∧ Lib.IsBuilder 37 5 w'.heap.size w'.heap.size (Lib.byteCells acc) wr ∧ Below w'.heap.size w' wr ∧ w'.heap.size ≤ wr.heap.size ∧ Pv.rdAcc acc (s.data.toList.drop k) = Pv.rd (s.data.toList.drop 1)) (fun i _ => s.size - (intOf i).toNat)
  case atStart => exact ⟨1, [], rfl, by omega, h1s, by simp, Lib.fresh_isBuilder 37 5 w', (Below.refl _ w').alloc (Nat.le_refl _) _, by simp, Pv.rdAcc_nil _⟩
  case round =>
    obtain ⟨k, acc, rfl, hk1, hk, hal, hB, hbel, hbig, hrd⟩ := hrel
    have HB := hide hB
    have HRD := hide hrd
    clear hB hrd
    by_cases hlt : k < s.size
    · obtain ⟨c, hc⟩ : ∃ c, s[k] = c := ⟨_, rfl⟩
      have hdr := drop_at s k hlt
      rw [hc] at hdr
      by_cases c34 : c = 34
      · have t1 := byte_is c 34 (by omega) c34
        have hres : Pv.rd (s.data.toList.drop 1) = some (acc, s.data.toList.drop (k + 1)) := by
          rw [← unhide HRD, hdr, c34, Pv.rdAcc_quote]
        have hval : V = .tuple #[.string ⟨acc.toArray⟩, .string (s.extract (k + 1) s.size), .bool true] := by
          rw [← unhide HV, cut_quoted (unhide HQ) hres, cutV]
          have e2 : (⟨(s.data.toList.drop (k + 1)).toArray⟩ : ByteArray) = s.extract (k + 1) s.size := by
            rw [Lib.extract_eq, List.take_of_length_le (by rw [List.length_drop, ← Lib.size_eq]; omega)]
          rw [e2]
        have HVAL := hide hval
        have hsl : ∀ W, (Instr.slice 9 (.string s) (some (.int .i64 ((k : Int) + 1))) none none).run Try.prog W = .ok (.string (s.extract (k + 1) s.size)) W := fun W => by
          rw [run_slice_string_from_if W 9 s .i64 _ Try.underlying9, if_pos (by omega)]
          rw [show ((k : Int) + 1).toNat = k + 1 from by omega]
        have hwr : IntKind.i64.wrap ((k : Int) + 1) = (k : Int) + 1 := wrap_small _ (by omega) (by omega)
        clear hres hval hdr c34
        go_wp2_with fail
        go_region_with (go_at_call 25; refine (Try.Builder_String_any w'.heap.size w'.heap.size acc _ ?_ ?_).mono ?_; exact unhide HB; exact hbig; rintro e W1 ⟨rfl, b1⟩)
        all_goals
          go_wp2
          go_ret3
          exact ⟨by rw [unhide HVAL]; rfl, hbel.drew.trans (by assumption)⟩
      · have t1 := byte_not c 34 (by omega) c34
        by_cases c92 : c = 92
        · have t2 := byte_is c 92 (by omega) c92
          by_cases hl2 : k + 1 < s.size
          · obtain ⟨d, hd⟩ : ∃ d, s[k + 1] = d := ⟨_, rfl⟩
            have hdr2 := drop_at s (k + 1) hl2
            rw [hd] at hdr2
            have hres : Pv.rdAcc (acc ++ [d]) (s.data.toList.drop (k + 2)) = Pv.rd (s.data.toList.drop 1) := by
              rw [← unhide HRD, hdr, c92, hdr2, Pv.rdAcc_esc]
            have HRES := hide hres
            have C26 := writeByte_any w'.heap.size w'.heap.size (Lib.byteCells acc) d.toNat wr (unhide HB) (by rw [Lib.byteCells_length]; omega) hbig
            have hbc : Lib.byteCells acc ++ [.int .u8 (d.toNat : Int)] = Lib.byteCells (acc ++ [d]) := by simp [Lib.byteCells]
            rw [hbc] at C26
            have H26 := hide C26
            have hne : (((k : Int) + 1) == (s.size : Int)) = false := beq_eq_false_iff_ne.2 (by omega)
            clear hres C26 hbc hdr hdr2 c34 c92
            go_wp2_with fail
            refine (unhide H26).mono ?_
            rintro e W1 ⟨rfl, hB1, hb1⟩
            have HB1 := hide hB1
            clear hB1
            go_wp2
            go_roundw
            case rel => exact ⟨k + 2, acc ++ [d], by go_num, by omega, by omega, by simp; omega, .inr (unhide HB1), hbel.trans hb1, Nat.le_trans hbig hb1.size, unhide HRES⟩
            case measure => simp [intOf]; omega
          · have hres : Pv.rd (s.data.toList.drop 1) = none := by
              rw [← unhide HRD, hdr, c92, List.drop_eq_nil_of_le (by rw [← Lib.size_eq]; omega), Pv.rdAcc_last]
            have hval : V = .tuple #[.string ⟨#[]⟩, .string ⟨#[]⟩, .bool false] := by
              rw [← unhide HV, cut_open (unhide HQ) hres]; rfl
            have HVAL := hide hval
            have hee : (((k : Int) + 1) == (s.size : Int)) = true := beq_iff_eq.2 (by omega)
            clear hres hval hdr c34 c92
            go_wp2
            go_ret3
            exact ⟨by rw [unhide HVAL]; rfl, hbel⟩
        · have t2 := byte_not c 92 (by omega) c92
          have hres : Pv.rdAcc (acc ++ [c]) (s.data.toList.drop (k + 1)) = Pv.rd (s.data.toList.drop 1) := by
            rw [← unhide HRD, hdr, Pv.rdAcc_plain _ _ _ c34 c92]
          have HRES := hide hres
          have C26 := writeByte_any w'.heap.size w'.heap.size (Lib.byteCells acc) c.toNat wr (unhide HB) (by rw [Lib.byteCells_length]; omega) hbig
          have hbc : Lib.byteCells acc ++ [.int .u8 (c.toNat : Int)] = Lib.byteCells (acc ++ [c]) := by simp [Lib.byteCells]
          rw [hbc] at C26
          have H26 := hide C26
          clear hres C26 hbc hdr c34 c92
          go_wp2_with fail
          refine (unhide H26).mono ?_
          rintro e W1 ⟨rfl, hB1, hb1⟩
          have HB1 := hide hB1
          clear hB1
          go_wp2
          go_roundw
          case rel => exact ⟨k + 1, acc ++ [c], by go_num, by omega, by omega, by simp; omega, .inr (unhide HB1), hbel.trans hb1, Nat.le_trans hbig hb1.size, unhide HRES⟩
          case measure => simp [intOf]; omega
    · have hres : Pv.rd (s.data.toList.drop 1) = none := by
        rw [← unhide HRD, List.drop_eq_nil_of_le (by rw [← Lib.size_eq]; omega), Pv.rdAcc_end]
      have hval : V = .tuple #[.string ⟨#[]⟩, .string ⟨#[]⟩, .bool false] := by
        rw [← unhide HV, cut_open (unhide HQ) hres]; rfl
      have HVAL := hide hval
      clear hres hval
      go_wp2
      go_ret3
      exact ⟨by rw [unhide HVAL]; rfl, hbel⟩

theorem cutValue_any (s : ByteArray) (w : World) (hs : s.size ≤ 4194304) :
    Calls Try.prog 18 #[.string s] w fun e w' => e = .returned (cutV (cut s.data.toList)) ∧ Below w.heap.size w w' := by
  by_cases hq : s.data.toList.head? = some 34
  · exact cutValue_quoted s w hs hq
  · exact cutValue_bare s w hs hq

set_option maxHeartbeats 400000 in
theorem zzCutValue_any (s : ByteArray) (w : World) (hs : s.size ≤ 4194304) :
    Calls Try.prog 13 #[.string s] w fun e w' => e = .returned (cutV (cut s.data.toList)) ∧ Below w.heap.size w w' := by
  have C := cutValue_any s w hs
  generalize cut s.data.toList = x at *
  obtain ⟨v, r, b⟩ := x
  change Calls Try.prog 18 #[.string s] w (fun e w' => e = .returned (.tuple #[.string ⟨v.toArray⟩, .string ⟨r.toArray⟩, .bool b]) ∧ Below w.heap.size w w') at C
  change Calls Try.prog 13 #[.string s] w (fun e w' => e = .returned (.tuple #[.string ⟨v.toArray⟩, .string ⟨r.toArray⟩, .bool b]) ∧ Below w.heap.size w w')
  generalize (⟨v.toArray⟩ : ByteArray) = V at *
  generalize (⟨r.toArray⟩ : ByteArray) = R at *
  have H := hide C
  clear C
  go_enter Try.func13, Try.ntmps13
  go_wp2_with fail
  refine (unhide H).mono ?_
  rintro e w' ⟨rfl, hb⟩
  go_wp2
  go_ret3
  exact ⟨rfl, hb⟩

end Go.Proofs.Qxb6601537a
