/-
  Seat b6601537a: strings.IndexAny (24) at the three separators, at every string.
-/
import Derived.Test.Qxb6601537aRune
import Derived.Lib.OthersKept
import Derived.Lib.TrimU
namespace Go.Proofs.Qxb6601537a
open Go.RowKit Go.Lib

theorem get_byte (s : ByteArray) (i : Nat) (h : i < s.size) : s.get! i = s[i]'h := by
  simp [ByteArray.get!, getElem!_pos, h]
  rfl

/-- a rune that opens beyond ASCII takes bytes beyond ASCII alone -/
theorem decode_bytes (s : ByteArray) (pos : Nat) (h : pos < s.size) (hb : 128 ≤ (s[pos]'h).toNat) : ∀ (j : Nat) (hj : pos + j < s.size), j < (Utf8.decode s pos).2 → 128 ≤ (s[pos + j]'hj).toNat := by
  intro j hj hlt
  cases j with
  | zero => exact hb
  | succ j =>
    have e0 : s.get! (pos + 0) = s[pos]'h := get_byte s pos h
    have hn : ¬ (s[pos]'h).toNat < 128 := by omega
    have ej : s.get! (pos + (j + 1)) = s[pos + (j + 1)]'hj := get_byte s _ hj
    rw [← ej]
    simp only [Utf8.decode, e0, hn, if_false] at hlt
    split at hlt
    · rename_i hc
      simp only [Bool.and_eq_true, decide_eq_true_eq, beq_iff_eq] at hc
      split at hlt
      · simp only at hlt
        match j, hlt with
        | 0, _ => have := hc.2.2; show 128 ≤ (s.get! (pos + 1)).toNat; omega
      · simp only at hlt; omega
    · split at hlt
      · rename_i hc
        simp only [Bool.and_eq_true, decide_eq_true_eq, beq_iff_eq] at hc
        split at hlt
        · simp only at hlt
          match j, hlt with
          | 0, _ => have := hc.1.2.2; show 128 ≤ (s.get! (pos + 1)).toNat; omega
          | 1, _ => have := hc.2.2; show 128 ≤ (s.get! (pos + 2)).toNat; omega
        · simp only at hlt; omega
      · split at hlt
        · rename_i hc
          simp only [Bool.and_eq_true, decide_eq_true_eq, beq_iff_eq] at hc
          split at hlt
          · simp only at hlt
            match j, hlt with
            | 0, _ => have := hc.1.1.2.2; show 128 ≤ (s.get! (pos + 1)).toNat; omega
            | 1, _ => have := hc.1.2.2; show 128 ≤ (s.get! (pos + 2)).toNat; omega
            | 2, _ => have := hc.2.2; show 128 ≤ (s.get! (pos + 3)).toNat; omega
          · simp only at hlt; omega
        · simp only at hlt; omega

theorem noAny_wide {s : ByteArray} {chars : List UInt8} {pos K : Nat} (hn : Lib.NoAny s.data.toList chars pos) (hch : ∀ b ∈ chars, b.toNat < 128)
    (hw : ∀ (j : Nat) (hj : pos + j < s.size), j < K → 128 ≤ (s[pos + j]'hj).toNat) : Lib.NoAny s.data.toList chars (pos + K) := by
  intro j b hj hb
  by_cases h : j < pos
  · exact hn j b h hb
  · have hjs : j < s.size := by rw [Lib.size_eq]; exact (List.getElem?_eq_some_iff.1 hb).1
    have h1 := hw (j - pos) (by omega) (by omega)
    have e : pos + (j - pos) = j := by omega
    have hb2 := Lib.data_getElem? s j hjs
    rw [hb] at hb2
    have hbe : b = s[j] := by simpa using hb2
    have hb128 : 128 ≤ b.toNat := by
      rw [hbe]
      have : s[pos + (j - pos)]'(by omega) = s[j] := by congr 1
      rw [← this]
      exact h1
    cases hc : chars.contains b
    · rfl
    · have := hch b (by simpa using hc)
      omega

theorem noAny_past {s chars : List UInt8} {n : Nat} (h : Lib.NoAny s chars n) (hn : s.length ≤ n) : Lib.NoAny s chars s.length := fun j b hj hb => h j b (by omega) hb

set_option maxHeartbeats 8000000 in
set_option maxRecDepth 1000000 in
theorem indexAny_short (s chars : ByteArray) (w : World) (h2 : 2 ≤ chars.size) (hc : chars.size ≤ 1048576) (h8 : s.size ≤ 8) (hch : Ascii chars) :
    Calls Try.prog 24 #[.string s, .string chars] w fun e w' => e = .returned (.int .i64 (Lib.indexAny s.data.toList chars.data.toList)) ∧ Below w.heap.size w w' := by
  have hemp : chars.toList.isEmpty = false := by
    rw [Lib.toList_data]
    cases h : chars.data.toList with
    | nil => have := Lib.size_eq chars; rw [h, List.length_nil] at this; omega
    | cons _ _ => rfl
  have hn1 : ((chars.size : Int) == 1) = false := beq_eq_false_iff_ne.2 (by omega)
  have C30 := Try.strings_shouldUseASCIISet (s.size : Int) w
  rw [decide_eq_false (show ¬ (8 : Int) < (s.size : Int) by omega)] at C30
  have H30 := hide C30
  obtain ⟨I, hI⟩ : ∃ I, Lib.indexAny s.data.toList chars.data.toList = I := ⟨_, rfl⟩
  rw [hI]
  have HI := hide hI
  have HCH := hide hch
  clear C30 hI hch
  go_enter Try.func24, Try.ntmps24
  go_wp2_with fail
  refine (unhide H30).mono ?_
  rintro e w' ⟨rfl, rfl⟩
  go_wp2
  go_loopg [9, 10] s.size (fun gf _ _ wx => ∃ pos : Nat, wx.heap[w'.heap.size]? = some (.stringIter s pos) ∧ Below w'.heap.size w' wx ∧ Lib.NoAny s.data.toList chars.data.toList pos ∧ s.size ≤ pos + gf)
  case atStart => exact ⟨0, World.iter_heap w' s 0, (Below.refl _ w').alloc (Nat.le_refl _) _, Lib.NoAny.zero _ _, by omega⟩
  case round =>
    obtain ⟨pos, hit, hbw, hno, hfu⟩ := hrel
    have HN := hide hno
    clear hno
    by_cases hps : pos < s.size
    · obtain ⟨g', rfl⟩ : ∃ g', gk = g' + 1 := ⟨gk - 1, by omega⟩
      have hnx : ∀ ty, (Instr.next (.pointer (some ⟨w'.heap.size, 0, none⟩)) true ty).run Try.prog wr = _ := fun ty => Lib.run_next_any_at wr w'.heap.size s pos ty hit hps
      have hwd := Lib.width_pos s pos
      have hasc := fun h128 : (s[pos]'hps).toNat < 128 => decode_ascii s pos hps h128
      have hwide := fun h128 : 128 ≤ (s[pos]'hps).toNat => (decode_high s pos hps h128).1
      have hbytes := fun h128 : 128 ≤ (s[pos]'hps).toNat => decode_bytes s pos hps h128
      obtain ⟨R, hR⟩ : ∃ R, (Utf8.decode s pos).1 = R := ⟨_, rfl⟩
      obtain ⟨K, hK⟩ : ∃ K, (Utf8.decode s pos).2 = K := ⟨_, rfl⟩
      rw [hR, hK] at hnx
      rw [hK] at hwd
      simp only [hR] at hwide
      simp only [hK] at hbytes
      have hit2 := Lib.iterAt_heap wr w'.heap.size s pos (pos + K) hit
      have hbw2 := Lib.below_iterAt hbw (k := w'.heap.size) (Nat.le_refl _) s (pos + K)
      obtain ⟨W, hWd⟩ : ∃ W, wr.iterAt w'.heap.size s (pos + K) = W := ⟨_, rfl⟩
      rw [hWd] at hnx hit2 hbw2
      have hltW : w'.heap.size < W.heap.size := (Array.getElem?_eq_some_iff.1 hit2).1
      have cS := indexRune_hay chars R W (unhide HCH) hc
      have hx : s.data.toList[pos]? = some s[pos] := Lib.data_getElem? s pos hps
      -- is the rune at hand one of chars
      have hcase : (runeIdx chars R < 0 ∧ Lib.NoAny s.data.toList chars.data.toList (pos + K)) ∨ (0 ≤ runeIdx chars R ∧ Lib.indexAny s.data.toList chars.data.toList = pos) := by
        rcases Nat.lt_or_ge (s[pos]).toNat 128 with h | h
        · have hd := hasc h
          have eR : R = (s[pos]).toNat := by rw [← hR, hd]
          have eK : K = 1 := by rw [← hK, hd]
          have hr : runeIdx chars R = Lib.indexByte chars.data.toList s[pos] := by
            unfold runeIdx
            rw [eR, if_pos h]
            congr 1
            simp
          have hcon := Lib.contains_iff_indexByte chars.data.toList s[pos]
          cases hin : chars.data.toList.contains s[pos]
          · rw [hin] at hcon
            have := of_decide_eq_false hcon.symm
            exact .inl ⟨by rw [hr]; omega, by rw [eK]; exact (unhide HN).succ hx hin⟩
          · rw [hin] at hcon
            exact .inr ⟨by rw [hr]; exact of_decide_eq_true hcon.symm, Lib.indexAny_hit (unhide HN) hx hin⟩
        · have hRw := hwide h
          have hr : runeIdx chars R = -1 := by unfold runeIdx; rw [if_neg (by omega)]
          exact .inl ⟨by rw [hr]; omega, noAny_wide (unhide HN) (unhide HCH) (hbytes h)⟩
      generalize runeIdx chars R = J at *
      have HS := hide cS
      clear cS hasc hwide hbytes hR hK hWd hx
      rcases hcase with ⟨hJ, hno2⟩ | ⟨hJ, hidx⟩
      · have HN2 := hide hno2
        have hJ2 : ¬ (0 : Int) ≤ J := by omega
        clear hno2
        go_wp2_with fail
        refine (unhide HS).mono ?_
        rintro e W' ⟨rfl, hbc⟩
        go_wp2
        go_roundg g'
        case measure => omega
        case rel => exact ⟨pos + K, (hbc.block _ hltW).trans hit2, (hbw2.trans (hbc.mono hbw2.size)), unhide HN2, by omega⟩
      · have HX := hide hidx
        clear hidx
        go_wp2_with fail
        refine (unhide HS).mono ?_
        rintro e W' ⟨rfl, hbc⟩
        go_wp2
        go_ret
        exact ⟨by rw [← unhide HI, unhide HX]; rfl, (hbw2.trans (hbc.mono hbw2.size))⟩
    · have hnx : ∀ ty, (Instr.next (.pointer (some ⟨w'.heap.size, 0, none⟩)) true ty).run Try.prog wr = _ := fun ty => Lib.run_next_end_at wr w'.heap.size s pos ty hit hps
      go_wp2
      go_ret
      exact ⟨by rw [← unhide HI, Lib.indexAny_none (noAny_past (unhide HN) (by rw [← Lib.size_eq]; omega))]; rfl, hbw⟩

theorem info46 : (Try.prog.info? 46).map (fun i => (i.zero, i.size)) = some (some (.agg (Array.replicate 256 (.bool false))), 256) := by kernel_rfl

theorem indexAny_any (s chars : ByteArray) (w : World) (h2 : 2 ≤ chars.size) (hc : chars.size ≤ 1048576) (hs : s.size ≤ 4194304) (hch : Ascii chars) :
    Calls Try.prog 24 #[.string s, .string chars] w fun e w' => e = .returned (.int .i64 (Lib.indexAny s.data.toList chars.data.toList)) ∧ Below w.heap.size w w' := by
  by_cases h8 : s.size ≤ 8
  · exact indexAny_short s chars w h2 hc h8 hch
  · refine (Try.strings_IndexAny_long (zero_of_info info46).1 s chars w h2 (by omega) (by omega) (by omega) (fun j b hb => hch b (List.mem_of_getElem? hb))).mono fun e w' ⟨h1, h2⟩ => ⟨h1, ?_⟩
    rw [h2]
    exact ((Below.refl _ _).alloc (Nat.le_refl _) _).alloc (by simp) _

end Go.Proofs.Qxb6601537a
