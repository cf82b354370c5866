/-
  Seat b6601537a: the parity model (19, 14) and the law FnCutValueMatchesParityModel (5), walked.
-/
import Derived.Test.Qxb6601537aOwn
namespace Go.Proofs.Qxb6601537a
open Go.RowKit Go.Lib

theorem unesc_drop {n : Nat} {c : UInt8} {t : List UInt8} (h : c = 92) (hp : (n + 1) % 2 = 1) : Pv.unesc n (c :: t) = Pv.unesc (n + 1) t := by
  rw [Pv.unesc, if_pos h, if_pos hp]
theorem unesc_keep {n : Nat} {c : UInt8} {t : List UInt8} (h : c = 92) (hp : ¬ (n + 1) % 2 = 1) : Pv.unesc n (c :: t) = c :: Pv.unesc (n + 1) t := by
  rw [Pv.unesc, if_pos h, if_neg hp]
theorem unesc_else {n : Nat} {c : UInt8} {t : List UInt8} (h : ¬ c = 92) : Pv.unesc n (c :: t) = c :: Pv.unesc 0 t := by
  rw [Pv.unesc, if_neg h]

set_option maxHeartbeats 1000000 in
theorem unescape_any (s : ByteArray) (w : World) (hs : s.size ≤ 4194304) :
    Calls Try.prog 19 #[.string s] w fun e w' => e = .returned (.string ⟨(Pv.unesc 0 s.data.toList).toArray⟩) ∧ Below w.heap.size w w' := by
  obtain ⟨R, hR⟩ : ∃ R, Pv.unesc 0 s.data.toList = R := ⟨_, rfl⟩
  rw [hR]
  have HR := hide hR
  clear hR
  go_enter Try.func19, Try.ntmps19
  go_wp2_with (at_make; refine wpList_made rfl _ _ rfl w _ _ rfl rfl (by omega) (by omega) (Below.refl _ _) ?_)
  intro ad0 cap0 x0 O0
  have O0 := hide O0
  go_wp2
  go_loopw [3, 4, 5] (fun v r i wr => ∃ (k n : Nat) (A : List UInt8), k ≤ s.size ∧ i = .int .i64 k ∧ r = .int .i64 n ∧ n ≤ k ∧ A.length ≤ k ∧ Owns w.heap.size w wr v A ∧ A ++ Pv.unesc n (s.data.toList.drop k) = R) (fun _ _ i _ => s.size - (intOf i).toNat)
  case atStart => exact ⟨0, 0, [], by omega, rfl, rfl, by omega, by simp, unhide O0, unhide HR⟩
  case round =>
    obtain ⟨k, n, A, hk, rfl, rfl, hnk, nA, hO, hacc⟩ := hrel
    have HO := hide hO
    have HACC := hide hacc
    clear hO hacc
    by_cases hlt : k < s.size
    · obtain ⟨c, hc⟩ : ∃ c, s[k] = c := ⟨_, rfl⟩
      have hdr := drop_at s k hlt
      rw [hc] at hdr
      by_cases q : c = 92
      · have q2 : ((c.toNat : Int) == 92) = true := byte_is c 92 (by omega) q
        by_cases hp : (n + 1) % 2 = 1
        · have hacc2 : A ++ Pv.unesc (n + 1) (s.data.toList.drop (k + 1)) = R := by
            rw [← unhide HACC, hdr, unesc_drop q hp]
          have HACC2 := hide hacc2
          have hpi : (((n : Int) + 1) % 2 == 1) = true := beq_iff_eq.2 (by omega)
          clear hacc2 hdr q hp
          go_wp2
          go_roundw
          case rel => exact ⟨k + 1, n + 1, A, by omega, by go_num, by go_num, by omega, by omega, unhide HO, unhide HACC2⟩
          case measure => simp [intOf]; omega
        · obtain ⟨A3, hA3⟩ : ∃ A3, A ++ [c] = A3 := ⟨_, rfl⟩
          have hacc2 : A3 ++ Pv.unesc (n + 1) (s.data.toList.drop (k + 1)) = R := by
            rw [← unhide HACC, hdr, unesc_keep q hp, ← hA3]; simp
          have nA3 : A3.length ≤ k + 1 := by rw [← hA3]; simp; omega
          have HACC2 := hide hacc2
          have HA3 := hide hA3
          have hpi : (((n : Int) + 1) % 2 == 1) = false := beq_eq_false_iff_ne.2 (by omega)
          clear hacc2 hdr q hp hA3
          go_wp2_with (at_builtin; refine wpList_appb rfl (.tmp 24) (.tmp 28) rfl w _ _ A [c] A3 _ _ rfl HA3 rfl rfl (unhide HO) (by simp; omega) ?_)
          intro ad3 cap3 x3 O3
          have O3 := hide O3
          go_wp2
          go_roundw
          case rel => exact ⟨k + 1, n + 1, A3, by omega, by go_num, by go_num, by omega, nA3, unhide O3, unhide HACC2⟩
          case measure => simp [intOf]; omega
      · have q2 : ((c.toNat : Int) == 92) = false := byte_not c 92 (by omega) q
        obtain ⟨A3, hA3⟩ : ∃ A3, A ++ [c] = A3 := ⟨_, rfl⟩
        have hacc2 : A3 ++ Pv.unesc 0 (s.data.toList.drop (k + 1)) = R := by
          rw [← unhide HACC, hdr, unesc_else q, ← hA3]; simp
        have nA3 : A3.length ≤ k + 1 := by rw [← hA3]; simp; omega
        have HACC2 := hide hacc2
        have HA3 := hide hA3
        clear hacc2 hdr q hA3
        go_wp2_with (at_builtin; refine wpList_appb rfl (.tmp 24) (.tmp 28) rfl w _ _ A [c] A3 _ _ rfl HA3 rfl rfl (unhide HO) (by simp; omega) ?_)
        intro ad3 cap3 x3 O3
        have O3 := hide O3
        go_wp2
        go_roundw
        case rel => exact ⟨k + 1, 0, A3, by omega, by go_num, by go_num, by omega, nA3, unhide O3, unhide HACC2⟩
        case measure => simp [intOf]; omega
    · have hfin : A = R := by
        rw [← unhide HACC, List.drop_eq_nil_of_le (by rw [← Lib.size_eq]; omega)]; simp [Pv.unesc]
      subst hfin
      have hconv := (unhide HO).text
      go_wp2
      go_ret
      exact ⟨rfl, (unhide HO).bel⟩

theorem seps_not {c : UInt8} (h1 : ¬ c = 44) (h2 : ¬ c = 32) (h3 : ¬ c = 9) : seps.contains c = false := by
  simp [seps, h1, h2, h3]

theorem extract_to (s : ByteArray) (n : Nat) : (⟨(s.data.toList.take n).toArray⟩ : ByteArray) = s.extract 0 n := by rw [Lib.extract_eq]; simp
theorem extract_from (s : ByteArray) (n : Nat) : (⟨(s.data.toList.drop n).toArray⟩ : ByteArray) = s.extract n s.size := by
  rw [Lib.extract_eq, List.take_of_length_le (by rw [List.length_drop, ← Lib.size_eq]; omega)]

set_option maxHeartbeats 4000000 in
/-- the model at a value that is not quoted -/
theorem model_bare (s : ByteArray) (w : World) (hs : s.size ≤ 4194304) (hq : ¬ s.data.toList.head? = some 34) :
    Calls Try.prog 14 #[.string s] w fun e w' => e = .returned (cutV (cut s.data.toList)) ∧ Below w.heap.size w w' := by
  obtain ⟨V, hV⟩ : ∃ V, cutV (cut s.data.toList) = V := ⟨_, rfl⟩
  rw [hV]
  have HV := hide hV
  have HQ := hide hq
  have hopen : s.size = 0 ∨ ∃ (h : 0 < s.size), ¬ s[0]'h = 34 := by
    by_cases h0 : s.size = 0
    · exact .inl h0
    · refine .inr ⟨by omega, fun h => hq ?_⟩
      have := drop_at s 0 (by omega)
      rw [List.drop_zero] at this
      rw [this, h]; rfl
  clear hV hq
  have hfirst : ((s.size : Int) == 0) = true ∨ (((s.size : Int) == 0) = false ∧ ∃ (h : 0 < s.size) (c : UInt8), s[0]'h = c ∧ (((c.toNat : Int) != 34) = true)) := by
    rcases hopen with h | ⟨h, hc⟩
    · exact .inl (beq_iff_eq.2 (by omega))
    · refine .inr ⟨beq_eq_false_iff_ne.2 (by omega), h, _, rfl, ?_⟩
      have : (((s[0]'h).toNat : Int) == 34) = false := byte_not (s[0]'h) 34 (by omega) hc
      rw [bne, this]; rfl
  clear hopen
  rcases hfirst with hf | ⟨hf, hpos, c0, hc0, hne⟩
  all_goals
    go_enter Try.func14, Try.ntmps14
    go_wp2
    go_loop [5] (fun i => ∃ k : Nat, k ≤ s.size ∧ i = .int .i64 k ∧ Lib.NoAny s.data.toList seps k) (fun i => s.size - (intOf i).toNat)
    case atStart => exact ⟨0, by omega, rfl, Lib.NoAny.zero _ _⟩
    case round =>
      obtain ⟨k, hk, rfl, hno⟩ := hrel
      have HN := hide hno
      clear hno
      by_cases hlt : k < s.size
      · have hx : s.data.toList[k]? = some s[k] := Lib.data_getElem? s k hlt
        obtain ⟨c, hc⟩ : ∃ c, s[k] = c := ⟨_, rfl⟩
        rw [hc] at hx
        by_cases hin : seps.contains c = true
        · have hval : V = .tuple #[.string (s.extract 0 k), .string (s.extract k s.size), .bool true] := by
            rw [← unhide HV, cut_at (unhide HQ) (Lib.indexAny_hit (unhide HN) hx hin), cutV, extract_to, extract_from]
          have HVAL := hide hval
          have tt : ((c.toNat : Int) == 44) = true ∨ (((c.toNat : Int) == 44) = false ∧ ((c.toNat : Int) == 32) = true) ∨ (((c.toNat : Int) == 44) = false ∧ ((c.toNat : Int) == 32) = false ∧ ((c.toNat : Int) == 9) = true) := by
            by_cases h1 : c = 44
            · exact .inl (byte_is c 44 (by omega) h1)
            · by_cases h2 : c = 32
              · exact .inr (.inl ⟨byte_not c 44 (by omega) h1, byte_is c 32 (by omega) h2⟩)
              · by_cases h3 : c = 9
                · exact .inr (.inr ⟨byte_not c 44 (by omega) h1, byte_not c 32 (by omega) h2, byte_is c 9 (by omega) h3⟩)
                · rw [seps_not h1 h2 h3] at hin; cases hin
          have hk0 : (0 : Int) ≤ (k : Int) := by omega
          have hk1 : (k : Int) ≤ (s.size : Int) := by omega
          clear hval hx hin
          rcases tt with t1 | ⟨t1, t2⟩ | ⟨t1, t2, t3⟩
          all_goals
            go_wp2
            go_quiet (fail)
            go_wp2
            go_ret3
            exact ⟨by rw [unhide HVAL]; rfl, below_drewN' (Below.refl _ _) _⟩
        · have hin2 : seps.contains c = false := by simpa using hin
          have hno2 := (unhide HN).succ hx hin2
          have HN2 := hide hno2
          have t1 : ((c.toNat : Int) == 44) = false := byte_not c 44 (by omega) (fun h => by subst h; simp [seps] at hin2)
          have t2 : ((c.toNat : Int) == 32) = false := byte_not c 32 (by omega) (fun h => by subst h; simp [seps] at hin2)
          have t3 : ((c.toNat : Int) == 9) = false := byte_not c 9 (by omega) (fun h => by subst h; simp [seps] at hin2)
          clear hno2 hx hin hin2
          go_wp2
          go_round
          case rel => exact ⟨k + 1, by omega, by go_num, unhide HN2⟩
          case measure => simp [intOf]; omega
      · have hval : V = .tuple #[.string s, .string ⟨#[]⟩, .bool true] := by
          have hn : Lib.indexAny s.data.toList seps = -1 := Lib.indexAny_none (noAny_past (unhide HN) (by rw [← Lib.size_eq]; omega))
          rw [← unhide HV, cut_whole (unhide HQ) (by omega), cutV]
        have HVAL := hide hval
        clear hval
        go_wp2
        go_ret3
        exact ⟨by rw [unhide HVAL]; rfl, Below.refl _ _⟩

theorem close_back {n k : Nat} {c : UInt8} {t : List UInt8} {o : Option Nat} (h : c = 92) (ho : (Pv.close n (c :: t)).map (· + k) = o) : (Pv.close (n + 1) t).map (· + (k + 1)) = o := by
  rw [← ho, Pv.close, if_pos h, Option.map_map]
  congr 1
  funext x
  simp only [Function.comp]
  omega
theorem close_else {n k : Nat} {c : UInt8} {t : List UInt8} {o : Option Nat} (h : ¬ c = 92) (h2 : ¬ (c = 34 ∧ n % 2 = 0)) (ho : (Pv.close n (c :: t)).map (· + k) = o) : (Pv.close 0 t).map (· + (k + 1)) = o := by
  rw [← ho, Pv.close, if_neg h, if_neg h2, Option.map_map]
  congr 1
  funext x
  simp only [Function.comp]
  omega
theorem close_here {n k : Nat} {c : UInt8} {t : List UInt8} {o : Option Nat} (h : c = 34) (h2 : n % 2 = 0) (ho : (Pv.close n (c :: t)).map (· + k) = o) : o = some k := by
  rw [← ho, Pv.close, if_neg (by rw [h]; decide), if_pos ⟨h, h2⟩]
  simp

set_option maxHeartbeats 4000000 in
/-- the model at a quoted value -/
theorem model_quoted (s : ByteArray) (w : World) (hs : s.size ≤ 4194304) (hq : s.data.toList.head? = some 34) :
    Calls Try.prog 14 #[.string s] w fun e w' => e = .returned (cutV (cut s.data.toList)) ∧ Below w.heap.size w w' := by
  have h1s : 1 ≤ s.size := by
    rw [Lib.size_eq]
    cases h : s.data.toList with
    | nil => rw [h] at hq; simp at hq
    | cons _ _ => simp
  have hpos : 0 < s.size := by omega
  have hs0 : s[0]'hpos = 34 := by
    have := drop_at s 0 hpos
    rw [List.drop_zero] at this
    rw [this] at hq
    simpa using hq
  obtain ⟨c0, hc0⟩ : ∃ c0, s[0]'hpos = c0 := ⟨_, rfl⟩
  have hne : ((c0.toNat : Int) != 34) = false := by
    have : ((c0.toNat : Int) == 34) = true := byte_is c0 34 (by omega) (by rw [← hc0]; exact hs0)
    rw [bne, this]; rfl
  have hz : ((s.size : Int) == 0) = false := beq_eq_false_iff_ne.2 (by omega)
  have hp0 : (0 : Int) < (s.size : Int) := by omega
  obtain ⟨V, hV⟩ : ∃ V, cutV (cut s.data.toList) = V := ⟨_, rfl⟩
  rw [hV]
  obtain ⟨O, hO⟩ : ∃ O, Pv.close 0 (s.data.toList.drop 1) = O := ⟨_, rfl⟩
  have HV := hide hV
  have HQ := hide hq
  have HO := hide hO
  clear hV hq hs0 hO
  go_enter Try.func14, Try.ntmps14
  go_wp2
  go_loop [6, 7] (fun r i => ∃ k n : Nat, 1 ≤ k ∧ k ≤ s.size ∧ i = .int .i64 k ∧ r = .int .i64 n ∧ n ≤ k ∧ (Pv.close n (s.data.toList.drop k)).map (· + (k - 1)) = O) (fun _ i => s.size - (intOf i).toNat)
  case atStart => exact ⟨1, 0, by omega, h1s, rfl, rfl, by omega, by rw [← unhide HO]; simp⟩
  case round =>
    obtain ⟨k, n, hk1, hk, rfl, rfl, hnk, hcl⟩ := hrel
    obtain ⟨k', rfl⟩ : ∃ k', k = k' + 1 := ⟨k - 1, by omega⟩
    rw [Nat.add_sub_cancel] at hcl
    have HCL := hide hcl
    clear hcl
    by_cases hlt : k' + 1 < s.size
    · obtain ⟨c, hc⟩ : ∃ c, s[k' + 1] = c := ⟨_, rfl⟩
      have hdr := drop_at s (k' + 1) hlt
      rw [hc] at hdr
      have hcl2 := unhide HCL
      rw [hdr] at hcl2
      by_cases q : c = 92
      · have q2 : ((c.toNat : Int) == 92) = true := byte_is c 92 (by omega) q
        have HN := hide (close_back q hcl2)
        clear hdr hcl2 q
        go_wp2
        go_round
        case rel => exact ⟨k' + 1 + 1, n + 1, by omega, by omega, by go_num, by go_num, by omega, unhide HN⟩
        case measure => simp [intOf]; omega
      · have q2 : ((c.toNat : Int) == 92) = false := byte_not c 92 (by omega) q
        by_cases qq : c = 34 ∧ n % 2 = 0
        · obtain ⟨qc, qn⟩ := qq
          have hO2 := close_here qc qn hcl2
          have q34 : ((c.toNat : Int) == 34) = true := byte_is c 34 (by omega) qc
          have hni : ((n : Int) % 2 == 0) = true := beq_iff_eq.2 (by omega)
          have hrd : Pv.rd (s.data.toList.drop 1) = some (Pv.unesc 0 ((s.data.toList.drop 1).take k'), (s.data.toList.drop 1).drop (k' + 1)) := by
            rw [← Pv.model_rd, Pv.model, unhide HO, hO2]
            rfl
          have hbody : (s.extract 1 (k' + 1)).data.toList = (s.data.toList.drop 1).take k' := by rw [Lib.extract_data, Nat.add_sub_cancel]
          have C19 := fun W => unescape_any (s.extract 1 (k' + 1)) W (by simp; omega)
          rw [hbody] at C19
          have hval : V = .tuple #[.string ⟨(Pv.unesc 0 ((s.data.toList.drop 1).take k')).toArray⟩, .string (s.extract (k' + 2) s.size), .bool true] := by
            rw [← unhide HV, cut_quoted (unhide HQ) hrd, cutV, List.drop_drop]
            rw [show 1 + (k' + 1) = k' + 2 from by omega, extract_from]
          obtain ⟨U, hU⟩ : ∃ U : ByteArray, ⟨(Pv.unesc 0 ((s.data.toList.drop 1).take k')).toArray⟩ = U := ⟨_, rfl⟩
          rw [hU] at C19 hval
          have HVAL := hide hval
          have H19 := hide C19
          have hsl : ∀ W, (Instr.slice 9 (.string s) (some (.int .i64 ((k' : Int) + 1 + 1))) none none).run Try.prog W = .ok (.string (s.extract (k' + 2) s.size)) W := fun W => by
            rw [run_slice_string_from_if W 9 s .i64 _ Try.underlying9, if_pos (by omega)]
            rw [show ((k' : Int) + 1 + 1).toNat = k' + 2 from by omega]
          have hsb : ∀ W, (Instr.slice 9 (.string s) (some (.int .i64 1)) (some (.int .i64 ((k' : Int) + 1))) none).run Try.prog W = .ok (.string (s.extract 1 (k' + 1))) W := fun W => by
            rw [run_slice_string W 9 s .i64 .i64 1 ((k' : Int) + 1) Try.underlying9 (by omega) (by omega) (by omega)]
            rw [show ((k' : Int) + 1).toNat = k' + 1 from by omega]
            rfl
          have hwr : IntKind.i64.wrap ((k' : Int) + 1 + 1) = (k' : Int) + 1 + 1 := wrap_small _ (by omega) (by omega)
          clear hdr hcl2 q qc qn hO2 hrd hbody hval hU C19
          go_wp2_with fail
          go_region_with (go_at_call 19; refine (unhide H19 _).mono ?_; rintro e W1 ⟨rfl, b1⟩)
          all_goals
            go_wp2
            go_ret3
            exact ⟨by rw [unhide HVAL]; rfl, ((Below.refl _ _).drew).trans (by assumption)⟩
        · have HN := hide (close_else q qq hcl2)
          have tt : ((c.toNat : Int) == 34) = false ∨ (((c.toNat : Int) == 34) = true ∧ ((n : Int) % 2 == 0) = false) := by
            by_cases h : c = 34
            · exact .inr ⟨byte_is c 34 (by omega) h, beq_eq_false_iff_ne.2 (by have : ¬ n % 2 = 0 := fun h2 => qq ⟨h, h2⟩; omega)⟩
            · exact .inl (byte_not c 34 (by omega) h)
          clear hdr hcl2 q qq
          rcases tt with t1 | ⟨t1, t2⟩
          all_goals
            go_wp2
            go_round
            case rel => exact ⟨k' + 1 + 1, 0, by omega, by omega, by go_num, by go_num, by omega, unhide HN⟩
            case measure => simp [intOf]; omega
    · have hrd : Pv.rd (s.data.toList.drop 1) = none := by
        have hO2 : O = none := by
          rw [← unhide HCL, List.drop_eq_nil_of_le (i := k' + 1) (by rw [← Lib.size_eq]; omega)]
          rfl
        rw [← Pv.model_rd, Pv.model, unhide HO, hO2]
        rfl
      have hval : V = .tuple #[.string ⟨#[]⟩, .string ⟨#[]⟩, .bool false] := by
        rw [← unhide HV, cut_open (unhide HQ) hrd]; rfl
      have HVAL := hide hval
      clear hrd hval
      go_wp2
      go_ret3
      exact ⟨by rw [unhide HVAL]; rfl, Below.refl _ _⟩

theorem model_any (s : ByteArray) (w : World) (hs : s.size ≤ 4194304) :
    Calls Try.prog 14 #[.string s] w fun e w' => e = .returned (cutV (cut s.data.toList)) ∧ Below w.heap.size w w' := by
  by_cases hq : s.data.toList.head? = some 34
  · exact model_quoted s w hs hq
  · exact model_bare s w hs hq

set_option maxHeartbeats 400000 in
theorem zz12_any (s : ByteArray) (w : World) (hs : s.size ≤ maxLen) :
    Calls Try.prog 12 #[.string s] w fun e w' => e = .returned (.bool (decide (s.size ≤ 1048576))) ∧ w' = w := by
  unfold maxLen at hs
  by_cases h : s.size ≤ 1048576
  · rw [decide_eq_true h]
    go_enter Try.func12, Try.ntmps12
    go_wp2
    go_ret
    exact ⟨rfl, rfl⟩
  · rw [decide_eq_false h]
    go_enter Try.func12, Try.ntmps12
    go_wp2
    go_ret
    exact ⟨rfl, rfl⟩

set_option maxHeartbeats 1000000 in
theorem parity_walk (s : ByteArray) (w : World) (hs : s.size ≤ maxLen) :
    Calls Try.prog 5 #[.string s] w fun e w' => e = .returned (.bool true) ∧ Below w.heap.size w w' := by
  have C12 := zz12_any s w hs
  by_cases hb : s.size ≤ 1048576
  · rw [decide_eq_true hb] at C12
    have C13 := zzCutValue_any s w (by omega)
    have C14 := fun W => model_any s W (by omega)
    generalize cut s.data.toList = x at *
    obtain ⟨v, r, b⟩ := x
    change Calls Try.prog 13 #[.string s] w (fun e w' => e = .returned (.tuple #[.string ⟨v.toArray⟩, .string ⟨r.toArray⟩, .bool b]) ∧ Below w.heap.size w w') at C13
    change ∀ W, Calls Try.prog 14 #[.string s] W (fun e w' => e = .returned (.tuple #[.string ⟨v.toArray⟩, .string ⟨r.toArray⟩, .bool b]) ∧ Below W.heap.size W w') at C14
    generalize (⟨v.toArray⟩ : ByteArray) = V at *
    generalize (⟨r.toArray⟩ : ByteArray) = R at *
    have H12 := hide C12
    have H13 := hide C13
    have H14 := hide C14
    clear C12 C13 C14
    go_enter Try.func5, Try.ntmps5
    go_wp2_with fail
    refine (unhide H12).mono ?_
    rintro e w' ⟨rfl, rfl⟩
    go_wp2_with fail
    refine (unhide H13).mono ?_
    rintro e w1 ⟨rfl, hb1⟩
    go_wp2_with fail
    refine (unhide H14 w1).mono ?_
    rintro e w2 ⟨rfl, hb2⟩
    go_wp2
    go_ret
    exact ⟨rfl, hb1.trans (hb2.mono hb1.size)⟩
  · rw [decide_eq_false hb] at C12
    have H12 := hide C12
    clear C12 hb
    go_enter Try.func5, Try.ntmps5
    go_wp2_with fail
    refine (unhide H12).mono ?_
    rintro e w' ⟨rfl, rfl⟩
    go_wp2
    go_ret
    exact ⟨rfl, Below.refl _ _⟩

end Go.Proofs.Qxb6601537a
