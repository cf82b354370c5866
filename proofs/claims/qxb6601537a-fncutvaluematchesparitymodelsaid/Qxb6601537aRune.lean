/-
  Seat b6601537a: strings.IndexRune (28) where the text is ASCII, at every rune.
-/
import Derived.Test.Qxb6601537aRows
import Derived.WalkKit
import Derived.WalkSpells
import Derived.Deep.QuietTactic
import Derived.BigQuiet
import Derived.Deep.LoopGhost
import Derived.Laws.Runes
import Derived.Test.Qxb6601537aShelf
namespace Go.Proofs.Qxb6601537a
open Go.RowKit Go.Lib

theorem hide {p : Prop} (h : p) : Hid p := h
theorem unhide {p : Prop} (h : Hid p) : p := h.out

/-- every byte of s is ASCII -/
def Ascii (s : ByteArray) : Prop := ∀ b ∈ s.data.toList, b.toNat < 128

theorem Ascii.at {s : ByteArray} (h : Ascii s) (i : Nat) (hi : i < s.size) : (s[i]'hi).toNat < 128 :=
  h _ (List.mem_of_getElem? (Lib.data_getElem? s i hi))

theorem Ascii.none {s : ByteArray} (h : Ascii s) (a e : Nat) (c : UInt8) (hc : 128 ≤ c.toNat) : Lib.indexByte (s.extract a e).data.toList c = -1 := by
  rw [← Lib.firstIdx_eq]
  exact firstIdx_ascii s a e c h hc

set_option maxHeartbeats 2000000 in
set_option maxRecDepth 1000000 in
/-- the replacement rune: none -/
theorem indexRune_err (s : ByteArray) (w : World) (hs : Ascii s) :
    Calls Try.prog 28 #[.string s, .int .i32 65533] w fun e w' => e = .returned (.int .i64 (-1)) ∧ Below w.heap.size w w' := by
  have HA := hide hs
  clear hs
  go_enter Try.func28, Try.ntmps28
  go_wp2
  go_loopg [5, 6] s.size (fun g _ _ wx => ∃ i : Nat, i + g = s.size ∧ wx = w.iter s i)
  case atStart => exact ⟨0, by omega, rfl⟩
  case round =>
    obtain ⟨i, hig, rfl⟩ := hrel
    cases gk with
    | zero =>
      obtain rfl : i = s.size := by omega
      have hnx := run_next_end (P := Try.prog) w s s.size
      go_wp2
      go_ret
      exact ⟨rfl, (Below.refl _ w).alloc (Nat.le_refl _) _⟩
    | succ g =>
      have hi : i < s.size := by omega
      obtain ⟨x, hx⟩ : ∃ x : UInt8, s[i]'hi = x := ⟨_, rfl⟩
      have hx128 : x.toNat < 128 := by rw [← hx]; exact (unhide HA).at i hi
      have hnx := fun ty => run_next_ascii (P := Try.prog) w s i ty hi (by rw [hx]; exact hx128)
      rw [hx] at hnx
      have hne : ((x.toNat : Int) == 65533) = false := beq_eq_false_iff_ne.2 (by omega)
      clear hx
      go_wp2
      go_roundg g
      case measure => omega
      case rel => exact ⟨i + 1, by omega, rfl⟩

set_option maxHeartbeats 2000000 in
set_option maxRecDepth 1000000 in
/-- no rune at all (a surrogate half, beyond U+10FFFF): none -/
theorem indexRune_invalid (s : ByteArray) (r : Int) (w : World) (h0 : 128 ≤ r) (hne : (r == 65533) = false) (hv : Lib.validRune r = false) :
    Calls Try.prog 28 #[.string s, .int .i32 r] w fun e w' => e = .returned (.int .i64 (-1)) ∧ Below w.heap.size w w' := by
  have C := Try.utf8_ValidRune r w
  rw [hv] at C
  have C := hide C
  clear hv
  go_enter Try.func28, Try.ntmps28
  go_wp2_with fail
  refine (unhide C).mono ?_
  rintro e w' ⟨rfl, rfl⟩
  go_wp2
  go_ret
  exact ⟨rfl, Below.refl _ _⟩

set_option maxHeartbeats 2000000 in
set_option maxRecDepth 1000000 in
/-- a rune of two bytes or more -/
theorem indexRune_wide (s : ByteArray) (r : Int) (w : World) (hs : Ascii s) (_hsz : s.size ≤ 1048576) (h0 : 128 ≤ r) (hne : (r == 65533) = false) (hv : Lib.validRune r = true) (hu : Utf8.valid r = true) :
    Calls Try.prog 28 #[.string s, .int .i32 r] w fun e w' => e = .returned (.int .i64 (-1)) ∧ Below w.heap.size w w' := by
  have C := Try.utf8_ValidRune r w
  rw [hv] at C
  have C := hide C
  obtain ⟨hE1, hE2, hE3⟩ := encode_facts r hu h0
  have hconv := run_convert_int_string (P := Try.prog) w 21 9 .i32 r (by rw [Try.underlying21]; rfl) Try.underlying9
  obtain ⟨E, hE⟩ : ∃ E, Utf8.encode r = E := ⟨_, rfl⟩
  simp only [hE] at hE1 hE2 hE3 hconv
  obtain ⟨n, hn⟩ : ∃ n, E.size = n + 1 := ⟨E.size - 1, by omega⟩
  have hb3 := hE3 (by omega)
  clear hv hu
  by_cases hns : n < s.size
  · have hlast : n < E.size := by omega
    obtain ⟨x, hx⟩ : ∃ x, s[n]'hns = x := ⟨_, rfl⟩
    obtain ⟨y, hy⟩ : ∃ y, E[n]'hlast = y := ⟨_, rfl⟩
    have hx1 : x.toNat < 128 := by rw [← hx]; exact hs.at n hns
    have hy1 : 128 ≤ y.toNat := by
      rw [← hy]
      simpa [hn] using hb3
    have hxy : ((x.toNat : Int) != (y.toNat : Int)) = true := by
      rw [bne_iff_ne]; omega
    have c34 := fun W => Try.strings_IndexByte (s.extract (n + 1) s.size) y.toNat W
    have hnone := hs.none (n + 1) s.size y hy1
    have hback : ((y.toNat : Int)).toNat.toUInt8 = y := by simp
    simp only [hback, hnone] at c34
    have C34 := hide c34
    have hnz : (n : Int) < (s.size : Int) := by omega
    have hnE : (n : Int) < (E.size : Int) := by omega
    have hwr : IntKind.i64.wrap ((n : Int) + 1) = ((n + 1 : Nat) : Int) := (wrap_small _ (by omega) (by omega)).trans (by omega)
    have hsl : ∀ W, (Instr.slice 9 (.string s) (some (.int .i64 ((n : Int) + 1))) none none).run Try.prog W = .ok (.string (s.extract (n + 1) s.size)) W := fun W => by
      rw [run_slice_string_from_if W 9 s .i64 _ Try.underlying9, if_pos (by omega)]
      rw [show ((n : Int) + 1).toNat = n + 1 from by omega]
    clear hb3 hE3 hs c34 hnone hback hE hx1 hy1
    go_enter Try.func28, Try.ntmps28
    go_wp2_with fail
    refine (unhide C).mono ?_
    rintro e w' ⟨rfl, rfl⟩
    go_wp2
    go_step3
    go_wp2
    refine wp_loop_rounds 1 ?_
    rw [rounds_succ]
    go_wp2
    go_step3
    go_wp2
    clear hn hE1 hE2
    go_quiet (fail)
    have hbw := below_drewN' (Below.refl w'.heap.size w') nq
    generalize w'.drewN nq = W1 at *
    go_wp2
    go_quiet ((go_at_call 34; exact Calls.quiet_of_same (unhide C34 _)))
    go_wp2
    rw [Exit.noGoto_ret]
    go_wp2
    rw [Exit.noGoto_ret]
    go_ret
    exact ⟨rfl, below_drewN' hbw _⟩
  · have hnz : ¬ (n : Int) < (s.size : Int) := by omega
    clear hb3 hE3 hs hE
    go_enter Try.func28, Try.ntmps28
    go_wp2_with fail
    refine (unhide C).mono ?_
    rintro e w' ⟨rfl, rfl⟩
    go_wp2
    go_step3
    go_wp2
    refine wp_loop_rounds 1 ?_
    rw [rounds_succ]
    go_wp2
    rw [Exit.noGoto_ret]
    go_ret
    exact ⟨rfl, Below.refl _ _⟩

/-- where a rune lies in ASCII text -/
def runeIdx (s : ByteArray) (r : Nat) : Int := if r < 128 then Lib.indexByte s.data.toList r.toUInt8 else -1

theorem indexRune_hay (s : ByteArray) (r : Nat) (w : World) (hs : Ascii s) (hsz : s.size ≤ 1048576) :
    Calls Try.prog 28 #[.string s, .int .i32 (r : Int)] w fun e w' => e = .returned (.int .i64 (runeIdx s r)) ∧ Below w.heap.size w w' := by
  unfold runeIdx
  by_cases h1 : r < 128
  · rw [if_pos h1]
    refine (Try.strings_IndexRune_ascii s (r : Int) w (by omega) (by omega)).mono ?_
    rintro e w' ⟨rfl, rfl⟩
    exact ⟨rfl, Below.refl _ _⟩
  · rw [if_neg h1]
    by_cases h2 : r = 65533
    · subst h2
      exact indexRune_err s w hs
    · have hne : ((r : Int) == 65533) = false := beq_eq_false_iff_ne.2 (by omega)
      have hve : Lib.validRune (r : Int) = Utf8.valid (r : Int) := by
        rw [validRune_eq]
        simp only [Lib.validRune, Go.validRune]
      cases hv : Lib.validRune (r : Int)
      · exact indexRune_invalid s r w (by omega) hne hv
      · exact indexRune_wide s r w hs hsz (by omega) hne hv (by rw [← hve, hv])

end Go.Proofs.Qxb6601537a
