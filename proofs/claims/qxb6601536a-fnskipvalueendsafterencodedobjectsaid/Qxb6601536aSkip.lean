/-
  Seat b6601536a: bytes.IndexByte (21) and skipString (19), walked.
-/
import Derived.Test.Qxb6601536aRows
import Derived.WalkKit
import Derived.WalkSpells
import Derived.Lib.Strings
import Derived.Lib.Walk
import Derived.Lib.BytesEntry
import Derived.Test.Qxb6601536aPlain
namespace Go.Proofs.Qxb6601536a
open Go.RowKit

theorem hide {p : Prop} (h : p) : Hid p := h
theorem unhide {p : Prop} (h : Hid p) : p := h.out

/-- the numbers of a list of bytes -/
def nums (l : List UInt8) : List Int := l.map fun b => (b.toNat : Int)
theorem nums_getD (l : List UInt8) (i : Nat) (b : UInt8) (h : l[i]? = some b) : (nums l).getD i 0 = (b.toNat : Int) := by
  simp [nums, List.getD, h]
theorem bytesOf_nums (l : List UInt8) : Lib.bytesOf (nums l) = l := by
  simp [Lib.bytesOf, nums, Function.comp_def]

set_option maxHeartbeats 1000000 in
set_option maxRecDepth 100000 in
theorem indexByte_any (b o n c : Nat) (l : List UInt8) (cv : Int) (w : World) (hx : l.length = n)
    (hc : ∀ i x, l[i]? = some x → w.cell? ⟨b, o + i, none⟩ = some (.int .u8 x.toNat)) :
    Calls Try.prog 21 #[.slice (some ⟨b, o, none⟩) n c, .int .u8 cv] w fun e w' => e = .returned (.int .i64 (Lib.indexByte l cv.toNat.toUInt8)) ∧ w' = w := by
  have hc2 : ∀ i, i < n → w.cell? ⟨b, o + i, none⟩ = some (.int .u8 ((nums l).getD i 0)) := fun i hi => by
    have hi2 : l[i]? = some (l[i]'(by omega)) := List.getElem?_eq_getElem _
    rw [nums_getD l i _ hi2]
    exact hc i _ hi2
  have hlaw := Lib.run_indexByteSlice w b o n c (nums l) (by simp [nums, hx]) hc2 cv (P := Try.prog)
  rw [bytesOf_nums] at hlaw
  have HL := hide hlaw
  clear hc hc2 hlaw
  go_enter Try.func21, Try.ntmps21
  go_wp2
  rw [run_callFunc_extern Try.func23 (by kernel_rfl) (by kernel_rfl) (by kernel_rfl) (e := Extern.BytealgIndexByte.indexByte) (by kernel_rfl), unhide HL]
  simp only [Result.andThen]
  rw [Oper.upon_value]
  go_wp2
  go_ret
  exact ⟨rfl, rfl⟩

theorem trail_step {D : List UInt8} {m : Nat} {b : UInt8} (h : D[m]? = some b) : Pl.trail (D.take (m + 1)) = if b = 92 then Pl.trail (D.take m) + 1 else 0 := by
  rw [List.take_add_one, h]
  exact Pl.trail_snoc _ _

set_option maxHeartbeats 1000000 in
theorem skipString_any (g n cap : Nat) (l : List UInt8) (start E : Nat) (w : World) (hl : l.length = n) (hcap : n ≤ cap) (hb : n ≤ 1099511627776) (hm : cap ≤ 9223372036854775807)
    (hc : ∀ i x, l[i]? = some x → w.cell? ⟨g, i, none⟩ = some (.int .u8 x.toNat)) (hE : Pl.Closes (l.drop (start + 1)) E) :
    Calls Try.prog 19 #[.slice (some ⟨g, 0, none⟩) n cap, .int .i64 start] w fun e w' => e = .returned (.int .i64 ((start + 1 + E + 1 : Nat) : Int)) ∧ w' = w := by
  obtain ⟨D, hD⟩ : ∃ D, l.drop (start + 1) = D := ⟨_, rfl⟩
  rw [hD] at hE
  obtain ⟨hE1, hE2, hE3⟩ := hE
  have hDl : D.length + (start + 1) = n := by
    have h1 : E < D.length := (List.getElem?_eq_some_iff.1 hE1).1
    have h2 : D.length = l.length - (start + 1) := by rw [← hD, List.length_drop]
    omega
  have hEl : E < D.length := (List.getElem?_eq_some_iff.1 hE1).1
  have hcD : ∀ i x, D[i]? = some x → w.cell? ⟨g, start + 1 + i, none⟩ = some (.int .u8 x.toNat) := fun i x h => by
    refine hc _ _ ?_
    rw [← hD, List.getElem?_drop] at h
    exact h
  have HC := hide hcD
  have H1 := hide hE1
  have H2 := hide hE2
  have H3 := hide hE3
  clear hc hcD hE1 hE2 hE3 hD hl
  go_enter Try.func19, Try.ntmps19
  go_wp2
  go_loop [5] (fun i => ∃ k : Nat, i = .int .i64 ((start + 1 + k : Nat) : Int) ∧ k ≤ E) (fun i => (start + 1 + E + 1) - (intOf i).toNat)
  case atStart => exact ⟨0, by go_num, by omega⟩
  case round =>
    obtain ⟨k, rfl, hk⟩ := hrel
    -- the next quote
    obtain ⟨d, hd, hdE, hdq⟩ := Pl.index_quote (D.drop k) (E - k) (by rw [List.getElem?_drop, show k + (E - k) = E from by omega]; exact unhide H1)
    have c21 := indexByte_any g (start + 1 + k) (n - (start + 1 + k)) (cap - (start + 1 + k)) (D.drop k) 34 w (by simp; omega)
      (fun i x h => by rw [List.getElem?_drop] at h; rw [Nat.add_assoc]; exact unhide HC _ _ h)
    rw [show ((34 : Int).toNat.toUInt8) = (34 : UInt8) from rfl, hd] at c21
    rw [List.getElem?_drop] at hdq
    have C21 := hide c21
    have HQ := hide hdq
    clear c21 hdq hd
    go_wp2_with fail
    refine (unhide C21).mono ?_
    rintro e w' ⟨rfl, rfl⟩
    go_wp2
    go_loop [7] (fun e => ∃ m : Nat, e = .int .i64 ((start + 1 + m : Nat) : Int) ∧ m ≤ k + d ∧ Pl.trail (D.take (k + d)) = (k + d - m) + Pl.trail (D.take m)) (fun e => (intOf e).toNat)
    case atStart => exact ⟨k + d, by go_num, by omega, by omega⟩
    case round =>
      obtain ⟨m, rfl, hm, htr⟩ := hrel
      have HT := hide htr
      clear htr
      cases m with
      | zero =>
        have hpar : (k + d = E ∧ (k + d - 0) % 2 = 0) ∨ (k + d < E ∧ (k + d - 0) % 2 = 1) := by
          have ht := unhide HT
          rw [List.take_zero, Pl.trail_nil] at ht
          rcases Nat.lt_or_ge (k + d) E with h | h
          · have := unhide H3 (k + d) h (unhide HQ)
            exact .inr ⟨h, by omega⟩
          · have he : k + d = E := by omega
            have := unhide H2
            rw [← he] at this
            exact .inl ⟨he, by omega⟩
        rcases hpar with ⟨he, hp⟩ | ⟨he, hp⟩
        · have HE := hide he
          clear he
          go_wp2
          go_ret
          exact ⟨by rw [← unhide HE]; go_num, rfl⟩
        · go_wp2
          go_round
          case rel => exact ⟨k + d + 1, by go_num, by omega⟩
          case measure => simp [intOf]; omega
      | succ m =>
        have hmD : m < D.length := by omega
        have hx : D[m]? = some D[m] := List.getElem?_eq_getElem _
        have hts := trail_step hx
        have hcell := unhide HC m _ hx
        obtain ⟨b, hbb⟩ : ∃ b, D[m] = b := ⟨_, rfl⟩
        rw [hbb] at hts hcell
        clear hbb hx
        by_cases h92 : b = 92
        · have hb2 : ((b.toNat : Int) == 92) = true := by subst h92; rfl
          rw [if_pos h92] at hts
          have HS := hide hts
          clear hts h92
          go_wp2
          go_round
          case rel => exact ⟨m, by go_num, by omega, by rw [unhide HT, unhide HS]; omega⟩
          case measure => simp [intOf]; omega
        · have hb2 : ((b.toNat : Int) == 92) = false := by
            rw [beq_eq_false_iff_ne]
            intro h
            exact h92 (UInt8.toNat_inj.1 (by have : (92 : UInt8).toNat = 92 := rfl; omega))
          rw [if_neg h92] at hts
          have HS := hide hts
          clear hts h92
          have hpar : (k + d = E ∧ (k + d - (m + 1)) % 2 = 0) ∨ (k + d < E ∧ (k + d - (m + 1)) % 2 = 1) := by
            have ht := unhide HT
            rw [unhide HS] at ht
            rcases Nat.lt_or_ge (k + d) E with h | h
            · have := unhide H3 (k + d) h (unhide HQ)
              exact .inr ⟨h, by omega⟩
            · have he : k + d = E := by omega
              have := unhide H2
              rw [← he] at this
              exact .inl ⟨he, by omega⟩
          rcases hpar with ⟨he, hp⟩ | ⟨he, hp⟩
          · have HE := hide he
            clear he
            go_wp2
            go_ret
            exact ⟨by rw [← unhide HE]; go_num, rfl⟩
          · go_wp2
            go_round
            case rel => exact ⟨k + d + 1, by go_num, by omega⟩
            case measure => simp [intOf]; omega

end Go.Proofs.Qxb6601536a
