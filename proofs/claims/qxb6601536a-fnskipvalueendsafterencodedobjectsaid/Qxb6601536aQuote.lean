/-
  Seat b6601536a: appendQuoted (12), walked.
-/
import Derived.Test.Qxb6601536aSkip
import Derived.Lib.FrozenHead
namespace Go.Proofs.Qxb6601536a
open Go.RowKit

theorem info5 : (Try.prog.info? 5).map (fun i => (i.zero, i.size, i.bytes)) = some (some (.int .u8 0), 1, 1) := by kernel_rfl

/-- the slice v is the call's own and holds l; below B the memory is as it was in w0 -/
structure Owns (B : Nat) (w0 w : World) (v : Value) (l : List UInt8) : Prop where
  own : w.ownsRow B 5 1 v l.length (Lib.byteCells l)
  bel : Below B w0 w
  big : B ≤ w.heap.size

theorem Owns.push {B : Nat} {w0 w w1 : World} {v v' : Value} {l m : List UInt8} (h : Owns B w0 w v l)
    (h1 : w1.ownsRow B 5 1 v' (l.length + m.length) (Lib.byteCells l ++ Lib.byteCells m)) (hg : w.grownBy w1 v.ownBlock) : Owns B w0 w1 v' (l ++ m) := by
  refine ⟨?_, h.bel.grown hg h.big (fun k hk => (h.own.lt k hk).1), Nat.le_trans h.big hg.size⟩
  have e : Lib.byteCells (l ++ m) = Lib.byteCells l ++ Lib.byteCells m := by simp [Lib.byteCells]
  rw [e, List.length_append]
  exact h1

theorem Owns.alloc {B : Nat} {w0 w : World} {v : Value} {l : List UInt8} (h : Owns B w0 w v l) (o : Obj) : Owns B w0 (w.alloc o) v l :=
  ⟨h.own.alloc o, h.bel.alloc h.big o, Nat.le_trans h.big (by simp)⟩

theorem one_new (w : World) (x : Value) (t : TypeId) : ∀ j u, [x][j]? = some u → (w.alloc (.cells #[x] t)).cell? ((⟨w.heap.size, 0, none⟩ : Addr).add j) = some u := by
  intro j u hj
  match j, hj with
  | 0, hj => simp at hj; subst hj; simp [Addr.add]

theorem esc_step {text : List UInt8} {k : Nat} {c : UInt8} (h : text[k]? = some c) : Pl.esc (text.take (k + 1)) = Pl.esc (text.take k) ++ Pl.esc [c] := by
  rw [List.take_add_one, h]
  exact Pl.esc_append _ _
theorem byte_beq (c : UInt8) (n : Nat) (h : n < 256) : ((c.toNat : Int) == (n : Int)) = decide (c = UInt8.ofNat n) := by
  rw [Bool.eq_iff_iff]
  simp only [beq_iff_eq, decide_eq_true_eq]
  constructor
  · intro e
    refine UInt8.toNat_inj.1 ?_
    have : (UInt8.ofNat n).toNat = n := by simp; omega
    omega
  · rintro rfl
    have : (UInt8.ofNat n).toNat = n := by simp; omega
    omega

theorem one_cell (n : Int) : ∀ u ∈ [Value.int .u8 n], u.oneCell' = true := by
  intro u hu
  simp at hu
  subst hu
  rfl

set_option maxHeartbeats 1000000 in
theorem quoted_any (B : Nat) (v : Value) (acc text : List UInt8) (a : Option Addr) (tc : Nat) (w0 w : World) (h : Owns B w0 w v acc)
    (hrow : text = [] ∨ ∃ b off, a = some ⟨b, off, none⟩ ∧ b < B ∧ ∀ i x, text[i]? = some x → w0.cell? ⟨b, off + i, none⟩ = some (.int .u8 x.toNat))
    (hlen : acc.length + 2 * text.length + 2 ≤ 16777216) :
    Calls Try.prog 12 #[v, .slice a text.length tc] w fun e w' => ∃ v', e = .returned v' ∧ Owns B w0 w' v' (acc ++ 34 :: (Pl.esc text ++ [34])) := by
  obtain ⟨i0, hi, hz0, hz1, hz2⟩ := info_parts info5
  have H := hide h
  have hbig := h.big
  have hown := h.own
  clear h
  have HR := hide hrow
  clear hrow
  go_enter Try.func12, Try.ntmps12
  go_wp2_with (at_builtin; refine wpList_append_own _ rfl _ _ 22 rfl B 5 i0 (.int .u8 0) 1 1 Try.underlying22 hi hz0 hz1 hz2 rfl (by decide) _ _ _ rfl (hown.alloc _) ⟨w.heap.size, 0, none⟩ 1 1 [.int .u8 34] rfl rfl ?c1 ?c2 ?c3 ?c4 ?c5 ?_)
  case c1 => exact one_new _ _ _
  case c2 => exact one_cell _
  case c3 => unfold maxLen; omega
  case c4 => omega
  case c5 => simp; omega
  intro v1 w1 h1 hg1 _
  have H1 := hide ((H.out.alloc (.cells #[.int .u8 34] 5)).push (m := [34]) h1 hg1)
  clear h1 hg1 hown
  clear hbig
  go_wp2
  go_loopw [0, 5] (fun v i wr => ∃ k : Nat, k ≤ text.length ∧ i = .int .i64 k ∧ Owns B w0 wr v (acc ++ 34 :: Pl.esc (text.take k))) (fun _ i _ => text.length - (intOf i).toNat)
  case atStart => exact ⟨0, by omega, rfl, by simpa [Pl.esc] using H1.out⟩
  case round =>
    obtain ⟨k, hk, rfl, hO⟩ := hrel
    have hO1 := hO.big
    have hO2 := hO.own
    have hel := Pl.esc_length (text.take k)
    have htl : (text.take k).length = k := by simp; omega
    rw [htl] at hel
    obtain ⟨L, hL⟩ : ∃ L, acc ++ 34 :: Pl.esc (text.take k) = L := ⟨_, rfl⟩
    have hLl : L.length ≤ acc.length + 1 + 2 * k := by rw [← hL]; simp; omega
    rw [hL] at hO hO2
    have HO := hide hO
    have HL := hide hL
    clear hO hL htl hel
    by_cases hlt : k < text.length
    · rcases HR.out with h | ⟨b, off, rfl, hb, hcell⟩
      · rw [h] at hlt; simp at hlt
      · have hx : text[k]? = some text[k] := List.getElem?_eq_getElem _
        obtain ⟨c, hcc⟩ : ∃ c, text[k] = c := ⟨_, rfl⟩
        rw [hcc] at hx
        have hcw := hcell k c hx
        rw [← (HO.out.bel.cell (p := ⟨b, off + k, none⟩) hb)] at hcw
        have hst := esc_step hx
        have e34 := byte_beq c 34 (by omega)
        have e92 := byte_beq c 92 (by omega)
        clear hcell hx hcc
        by_cases q : c = 34 ∨ c = 92
        · have HS := hide (hst.trans (by rw [Pl.esc, if_pos q]; rfl : _ = Pl.esc (text.take k) ++ [92, c]))
          have qq : ((c.toNat : Int) == 34) = true ∨ (((c.toNat : Int) == 34) = false ∧ ((c.toNat : Int) == 92) = true) := by
            by_cases h : c = 34
            · exact .inl (e34.trans (by simp; exact h))
            · exact .inr ⟨e34.trans (by simp; exact h), e92.trans (by simp; exact q.resolve_left h)⟩
          clear hst e34 e92 q
          rcases qq with q1 | ⟨q1, q2⟩
          all_goals
            go_wp2_with (at_builtin; refine wpList_append_own _ rfl (.tmp 26) (.tmp 27) 22 rfl B 5 i0 (.int .u8 0) 1 1 Try.underlying22 hi hz0 hz1 hz2 rfl (by decide) _ _ _ rfl (hO2.alloc _) ⟨wr.heap.size, 0, none⟩ 1 1 [.int .u8 92] rfl rfl ?d1 ?d2 ?d3 ?d4 ?d5 ?_)
            case d1 => exact one_new _ _ _
            case d2 => exact one_cell _
            case d3 => unfold maxLen; omega
            case d4 => omega
            case d5 => simp; omega
            intro v2 w2 h2 hg2 _
            have H2 := (HO.out.alloc (.cells #[.int .u8 92] 5)).push (m := [92]) h2 hg2
            have hO3 := H2.own
            have hO4 := H2.big
            have hL2 : (L ++ [92]).length = L.length + 1 := by simp
            have H2 := hide H2
            clear h2 hg2 hO2 hcw
            go_wp2_with (at_builtin; refine wpList_append_own _ rfl (.tmp 29) (.tmp 31) 22 rfl B 5 i0 (.int .u8 0) 1 1 Try.underlying22 hi hz0 hz1 hz2 rfl (by decide) _ _ _ rfl (hO3.alloc _) ⟨w2.heap.size, 0, none⟩ 1 1 [.int .u8 c.toNat] rfl rfl ?f1 ?f2 ?f3 ?f4 ?f5 ?_)
            case f1 => exact one_new _ _ _
            case f2 => exact one_cell _
            case f3 => unfold maxLen; omega
            case f4 => omega
            case f5 => simp; omega
            intro v3 w3 h3 hg3 _
            have H3 := (H2.out.alloc (.cells #[.int .u8 c.toNat] 5)).push (m := [c]) (by rw [hL2]; exact h3) hg3
            rw [List.append_assoc, ← HL.out, List.append_assoc, List.cons_append, List.singleton_append, ← HS.out] at H3
            have H3 := hide H3
            clear h3 hg3 hO3 hO4 hL2
            go_wp2
            go_roundw
            case rel => exact ⟨k + 1, by omega, by go_num, H3.out⟩
            case measure => simp [intOf]; omega
        · have q34 : ((c.toNat : Int) == 34) = false := e34.trans (by simp; exact fun h => q (.inl h))
          have q92 : ((c.toNat : Int) == 92) = false := e92.trans (by simp; exact fun h => q (.inr h))
          have HS := hide (hst.trans (by rw [Pl.esc, if_neg q]; rfl : _ = Pl.esc (text.take k) ++ [c]))
          clear hst e34 e92 q
          go_wp2_with (at_builtin; refine wpList_append_own _ rfl _ _ 22 rfl B 5 i0 (.int .u8 0) 1 1 Try.underlying22 hi hz0 hz1 hz2 rfl (by decide) _ _ _ rfl (hO2.alloc _) ⟨wr.heap.size, 0, none⟩ 1 1 [.int .u8 c.toNat] rfl rfl ?d1 ?d2 ?d3 ?d4 ?d5 ?_)
          case d1 => exact one_new _ _ _
          case d2 => exact one_cell _
          case d3 => unfold maxLen; omega
          case d4 => omega
          case d5 => simp; omega
          intro v2 w2 h2 hg2 _
          have H2 := (HO.out.alloc (.cells #[.int .u8 c.toNat] 5)).push (m := [c]) h2 hg2
          rw [← HL.out, List.append_assoc, List.cons_append, ← HS.out] at H2
          have H2 := hide H2
          clear h2 hg2 hO2 hcw
          go_wp2
          go_roundw
          case rel => exact ⟨k + 1, by omega, by go_num, H2.out⟩
          case measure => simp [intOf]; omega
    · go_wp2_with (at_builtin; refine wpList_append_own _ rfl _ _ 22 rfl B 5 i0 (.int .u8 0) 1 1 Try.underlying22 hi hz0 hz1 hz2 rfl (by decide) _ _ _ rfl (hO2.alloc _) ⟨wr.heap.size, 0, none⟩ 1 1 [.int .u8 34] rfl rfl ?e1 ?e2 ?e3 ?e4 ?e5 ?_)
      case e1 => exact one_new _ _ _
      case e2 => exact one_cell _
      case e3 => unfold maxLen; omega
      case e4 => omega
      case e5 => simp; omega
      intro v2 w2 h2 hg2 _
      have H2 := (HO.out.alloc (.cells #[.int .u8 34] 5)).push (m := [34]) h2 hg2
      rw [← HL.out, List.take_of_length_le (by omega), List.append_assoc, List.cons_append] at H2
      have H2 := hide H2
      clear h2 hg2 hO2
      go_wp2
      go_ret
      exact ⟨_, rfl, H2.out⟩

end Go.Proofs.Qxb6601536a
