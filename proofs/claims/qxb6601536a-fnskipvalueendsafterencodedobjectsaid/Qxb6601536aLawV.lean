/-
  Seat b6601536a: the law FnSkipValueEndsAfterEncodedObject (7), walked.
-/
import Derived.Test.Qxb6601536aLawV0
namespace Go.Proofs.Qxb6601536a
open Go.RowKit

/-- it returns true, and what was there is as it was -/
def RetTrue (w : World) (e : Ending) (w' : World) : Prop := e = .returned (.bool true) ∧ Below w.heap.size w w'
theorem RetTrue.mk {w w' : World} (h : Below w.heap.size w w') : RetTrue w (.returned (.bool true)) w' := ⟨rfl, h⟩

/-- 'data = append(data, c..)', the bytes written out: they lie in a new block -/
theorem wpList_appb {ops : Array Oper} {rest : List Oper} {o : Oper} {act : Act} {Q : Exit → Act → World → Prop} (hgd : o.guard = none) (s x : Operand)
    (ho : o.op = .call { callee := .builtin .append, args := #[s, x], argTypes := #[22, 22] })
    (w0 w : World) (v : Value) (acc m L : List UInt8) (arr : Array Value) (c : Nat) (harr : arr.toList = Lib.byteCells m) (hL : Hid (acc ++ m = L))
    (hs : act.eval s = v) (hx : act.eval x = .slice (some ⟨w.heap.size, 0, none⟩) m.length c)
    (hO : Owns w0.heap.size w0 w v acc) (hlen : acc.length + m.length ≤ 16777216)
    (h : ∀ ad cap w', Owns w0.heap.size w0 w' (.slice ad L.length cap) L → wpList Try.prog ops Q rest (act.put o.dst (.slice ad L.length cap)) w') :
    wpList Try.prog ops Q (o :: rest) act (w.alloc (.cells arr 5)) := by
  obtain ⟨i0, hi, hz0, hz1, hz2⟩ := info_parts info5
  refine wpList_append_own _ hgd s x 22 ho w0.heap.size 5 i0 (.int .u8 0) 1 1 Try.underlying22 hi hz0 hz1 hz2 rfl (by decide) v acc.length (Lib.byteCells acc) hs (hO.alloc _).own ⟨w.heap.size, 0, none⟩ m.length c (Lib.byteCells m) hx (by simp [Lib.byteCells]) ?_ (bytes_one m)
    (by unfold maxLen; omega) (by omega) (hO.alloc _).big ?_
  · intro j u hj
    rw [← harr, Array.getElem?_toList] at hj
    rw [add_plain', Nat.zero_add, World.cell?_alloc_at _ _ _ _ rfl]
    exact hj
  · intro v' w' h1 hg _
    have H := (hO.alloc (.cells arr 5)).push (m := m) h1 hg
    rw [hL.out] at H
    obtain ⟨ad', cap', rfl⟩ := H.shape
    exact h ad' cap' w' H

set_option maxHeartbeats 400000 in
theorem zzValue_any (g n cap : Nat) (l p r : List UInt8) (ts : List (UInt8 ⊕ List UInt8)) (w : World) (hl : l.length = n) (hcap : n ≤ cap) (hb : n ≤ 1099511627776) (hm : cap ≤ 9223372036854775807)
    (hc : ∀ i x, l[i]? = some x → w.cell? ⟨g, i, none⟩ = some (.int .u8 x.toNat)) (hlp : l = p ++ (Pl.flat (.inl 123 :: ts) ++ r)) (hE : Pl.Ends 0 (.inl 123 :: ts)) :
    Calls Try.prog 14 #[.slice (some ⟨g, 0, none⟩) n cap, .int .i64 p.length] w fun e w' => e = .returned (.int .i64 ((n - r.length : Nat) : Int)) ∧ w' = w := by
  have C := hide (skipValue_any g n cap l p r ts w hl hcap hb hm hc hlp hE)
  clear hc hE hlp hl
  generalize n - r.length = R at *
  go_enter Try.func14, Try.ntmps14
  go_wp2_with fail
  refine (unhide C).mono ?_
  rintro e w' ⟨rfl, rfl⟩
  go_wp2
  go_ret
  exact ⟨rfl, rfl⟩

set_option maxHeartbeats 1000000 in
theorem lawV_walk (w : World) (p ky r : List UInt8) (a0 a1 a2 a3 : Option Addr) (c0 c1 c2 c3 : Nat) (its : List Item) (h0 : Arg w a0 c0 p) (h1 : Arg w a1 c1 ky) (h2 : Arg w a2 c2 r) (h3 : Args w a3 its)
    (b0 : p.length ≤ maxLen) (b1 : ky.length ≤ maxLen) (b2 : r.length ≤ maxLen) (b3 : its.length ≤ maxLen) (b4 : ∀ (j : Nat) (it : Item), its[j]? = some it → it.2.2.length ≤ maxLen) :
    Calls Try.prog 7 #[.slice a0 p.length c0, .slice a1 ky.length c1, .slice a2 r.length c2, .slice a3 its.length c3] w (RetTrue w) := by
  have C18 := hide (zz18_any a0 a1 a2 a3 p.length ky.length r.length c0 c1 c2 c3 its w b0 b1 b2 b3 h3 b4)
  have HP := hide h0
  have HK := hide h1
  have HR := hide h2
  have HI := hide h3
  have HB := hide b4
  clear h0 h1 h2 h3 b4
  unfold maxLen at b0 b1 b2 b3
  by_cases g0 : 1048576 < p.length ∨ 1048576 < ky.length ∨ 1048576 < r.length ∨ 65536 < its.length ∨ 1048576 < p.length + 2 * ky.length + r.length + 24 * its.length
  · rcases g0 with g | g | g | g | g
    all_goals
      go_enter Try.func7, Try.ntmps7
      go_wp2_with fail
      refine (unhide C18).mono ?_
      rintro e w' ⟨b, rfl, rfl⟩
      cases b
      all_goals
        go_wp2
        all_goals
          go_ret
          exact RetTrue.mk (Below.refl _ _)
  · have q0 : ¬ 1048576 < p.length := fun h => g0 (.inl h)
    have q4 : ¬ 1048576 < p.length + 2 * ky.length + r.length + 24 * its.length := fun h => g0 (.inr (.inr (.inr (.inr h))))
    clear g0
    go_enter Try.func7, Try.ntmps7
    go_wp2_with fail
    refine (unhide C18).mono ?_
    rintro e w' ⟨b, rfl, rfl⟩
    cases b
    · go_wp2
      go_ret
      exact RetTrue.mk (Below.refl _ _)
    go_wp2
    go_loop [9, 10] (fun t i => ∃ z k : Nat, t = .int .i64 z ∧ i = .int .i64 k ∧ k ≤ its.length ∧ z ≤ 1048576 ∧ z = p.length + 2 * ky.length + r.length + 24 * its.length + 2 * total (its.take k)) (fun _ i => its.length - (intOf i).toNat)
    case atStart => exact ⟨p.length + 2 * ky.length + r.length + 24 * its.length, 0, by go_num, rfl, by omega, by omega, by simp [total]⟩
    case round =>
      obtain ⟨z, k, rfl, rfl, hk, hz, hzt⟩ := hrel
      have HZ := hide hzt
      clear hzt
      by_cases hlt : k < its.length
      · rcases unhide HI with h | ⟨b, off, rfl, _, hcell⟩
        · rw [h] at hlt; simp at hlt
        · have hx : its[k]? = some its[k] := List.getElem?_eq_getElem _
          obtain ⟨it, hit⟩ : ∃ it, its[k] = it := ⟨_, rfl⟩
          rw [hit] at hx
          have hcl := (hcell k it hx).1
          have hbl := unhide HB k it hx
          have hts := total_step hx
          unfold maxLen at hbl
          obtain ⟨ai, ci, ti⟩ := it
          change w'.cell? ⟨b, off + k, none⟩ = some (.slice ai ti.length ci) at hcl
          change ti.length ≤ 9223372036854775807 at hbl
          change total (its.take (k + 1)) = total (its.take k) + ti.length at hts
          have HTS := hide hts
          clear hcell hx hit hts
          by_cases q1 : 1048576 < ti.length
          · go_wp2
            go_ret
            exact RetTrue.mk (Below.refl _ _)
          · by_cases q2 : 1048576 < z + 2 * ti.length
            · go_wp2
              go_ret
              exact RetTrue.mk (Below.refl _ _)
            · go_wp2
              go_round
              case rel => exact ⟨z + 2 * ti.length, k + 1, by go_num, by go_num, by omega, by omega, by rw [unhide HZ, unhide HTS]; omega⟩
              case measure => simp [intOf]; omega
      · have hkk : k = its.length := by omega
        have hzt := unhide HZ
        rw [hkk, List.take_length] at hzt
        have hzb : 2 * total its + p.length + 2 * ky.length + r.length + 24 * its.length ≤ 1048576 := by omega
        clear HZ hzt hkk
        obtain ⟨L1, hL1⟩ : ∃ L, p ++ [123] = L := ⟨_, rfl⟩
        obtain ⟨L2, hL2⟩ : ∃ L, L1 ++ 34 :: (Pl.esc ky ++ [34]) = L := ⟨_, rfl⟩
        obtain ⟨L3, hL3⟩ : ∃ L, L2 ++ [58, 91] = L := ⟨_, rfl⟩
        obtain ⟨L4, hL4⟩ : ∃ L, L3 ++ Pl.flat (Pl.items (texts its)) = L := ⟨_, rfl⟩
        obtain ⟨L5, hL5⟩ : ∃ L, L4 ++ [93, 125] = L := ⟨_, rfl⟩
        have n1 : L1.length ≤ p.length + 1 := by rw [← hL1]; simp
        have n2 : L2.length ≤ p.length + 2 * ky.length + 3 := by have := Pl.esc_length ky; rw [← hL2]; simp; omega
        have n3 : L3.length ≤ p.length + 2 * ky.length + 5 := by rw [← hL3]; simp; omega
        have n4 : L4.length ≤ p.length + 2 * ky.length + 5 + 2 * total its + 3 * its.length := by
          have := flat_items_length (texts its)
          rw [texts_sum] at this
          have e : (texts its).length = its.length := by simp [texts]
          rw [← hL4, List.length_append]; omega
        have n5 : L5.length ≤ p.length + 2 * ky.length + 7 + 2 * total its + 3 * its.length := by rw [← hL5]; simp; omega
        have H1 := hide hL1
        have H2 := hide hL2
        have H3 := hide hL3
        have H4 := hide hL4
        have H5 := hide hL5
        clear hL1 hL2 hL3 hL4 hL5
        go_wp2_with (at_make; refine wpList_made rfl _ _ rfl w' _ _ rfl rfl (by omega) (by omega) (Below.refl _ _) ?_)
        intro ad0 cap0 x0 O0
        have O0 := hide O0
        go_wp2_with (at_builtin; refine wpList_app rfl (.tmp 83) (.tmp 84) rfl w' _ _ [] p _ _ rfl rfl (unhide O0) (unhide HP) (by simp; omega) ?_)
        intro ad1 cap1 x1 O1
        have O1 := hide O1
        go_wp2_with (at_builtin; refine wpList_appb rfl (.tmp 88) (.tmp 89) rfl w' _ _ p [123] L1 _ _ rfl H1 rfl rfl (unhide O1) (by simp; omega) ?_)
        intro ad2 cap2 x2 O2
        have O2 := hide O2
        go_wp2_with fail
        have C12 := quoted_any w'.heap.size _ L1 ky a1 c1 w' x2 (unhide O2) (unhide HK).row (by omega)
        rw [unhide H2] at C12
        refine C12.mono ?_
        rintro e x3 ⟨v3, rfl, O3⟩
        clear C12
        obtain ⟨ad3, cap3, hv3⟩ := O3.shape
        rw [hv3] at O3
        rw [hv3]
        have O3 := hide O3
        clear hv3
        go_wp2_with (at_builtin; refine wpList_appb rfl (.tmp 94) (.tmp 95) rfl w' _ _ L2 [58, 91] L3 _ _ rfl H3 rfl rfl (unhide O3) (by simp; omega) ?_)
        intro ad4 cap4 x4 O4
        have O4 := hide O4
        go_wp2
        go_loopw [11, 13] (fun v i wr => ∃ j : Nat, j ≤ its.length ∧ i = .int .i64 j ∧ Owns w'.heap.size w' wr v (L3 ++ Pl.flat (Pl.items (texts (its.take j))))) (fun _ i _ => its.length - (intOf i).toNat)
        case atStart => exact ⟨0, by omega, rfl, by simpa [texts, Pl.items, Pl.flat] using unhide O4⟩
        case round =>
          obtain ⟨j, hj, rfl, hO⟩ := hrel
          obtain ⟨A, hA⟩ : ∃ A, L3 ++ Pl.flat (Pl.items (texts (its.take j))) = A := ⟨_, rfl⟩
          have nA : A.length ≤ p.length + 2 * ky.length + 5 + 2 * total its + 3 * its.length := by
            have h1 := flat_items_length (texts (its.take j))
            rw [texts_sum] at h1
            have h2 := total_take its j
            have e : (texts (its.take j)).length ≤ its.length := by simp [texts]; omega
            rw [← hA, List.length_append]; omega
          rw [hA] at hO
          have HA := hide hA
          have HO := hide hO
          clear hA hO
          by_cases hlt : j < its.length
          · rcases unhide HI with h | ⟨b, off, rfl, hbB, hcell⟩
            · rw [h] at hlt; simp at hlt
            · have hx : its[j]? = some its[j] := List.getElem?_eq_getElem _
              obtain ⟨it, hit⟩ : ∃ it, its[j] = it := ⟨_, rfl⟩
              rw [hit] at hx
              obtain ⟨hcl, harg⟩ := hcell j it hx
              have htx : texts (its.take (j + 1)) = texts (its.take j) ++ [it.2.2] := by
                rw [List.take_add_one, hx]; simp [texts]
              have hsn := Pl.items_snoc (texts (its.take j)) it.2.2
              rw [← htx] at hsn
              have hemp : texts (its.take j) = [] ↔ j = 0 := by
                constructor
                · intro h
                  have := congrArg List.length h
                  rw [texts, List.length_map, List.length_take, List.length_nil] at this
                  omega
                · rintro rfl; rfl
              have htl : it.2.2.length ≤ total its := by
                have h1 := total_step hx
                have h2 := total_take its (j + 1)
                omega
              rw [← (unhide HO).bel.cell (p := ⟨b, off + j, none⟩) hbB] at hcl
              obtain ⟨ai, ci, ti⟩ := it
              change wr.cell? ⟨b, off + j, none⟩ = some (.slice ai ti.length ci) at hcl
              change Arg w' ai ci ti at harg
              change ti.length ≤ total its at htl
              have HARG := hide harg
              clear hcell hx hit htx harg
              by_cases hj0 : j = 0
              · have hgo : A ++ 34 :: (Pl.esc ti ++ [34]) = L3 ++ Pl.flat (Pl.items (texts (its.take (j + 1)))) := by
                  rw [hsn, if_pos (hemp.2 hj0), ← unhide HA]; simp
                have HGO := hide hgo
                have hj1 : ¬ (0 : Int) < (j : Int) := by omega
                clear hgo hsn hemp hj0
                go_wp2_with fail
                have C12 := quoted_any w'.heap.size _ A ti ai ci w' wr (unhide HO) (unhide HARG).row (by omega)
                rw [unhide HGO] at C12
                refine C12.mono ?_
                rintro e x5 ⟨v5, rfl, O5⟩
                clear C12
                have O5 := hide O5
                go_wp2
                go_roundw
                case rel => exact ⟨j + 1, by omega, by go_num, unhide O5⟩
                case measure => simp [intOf]; omega
              · have hgo : (A ++ [44]) ++ 34 :: (Pl.esc ti ++ [34]) = L3 ++ Pl.flat (Pl.items (texts (its.take (j + 1)))) := by
                  rw [hsn, if_neg (fun h => hj0 (hemp.1 h)), ← unhide HA]; simp
                obtain ⟨A2, hA2⟩ : ∃ A2, A ++ [44] = A2 := ⟨_, rfl⟩
                have nA2 : A2.length ≤ A.length + 1 := by rw [← hA2]; simp
                rw [hA2] at hgo
                have HGO := hide hgo
                have HA2 := hide hA2
                have hj1 : (0 : Int) < (j : Int) := by omega
                clear hgo hsn hemp hA2 hj0
                go_wp2_with (at_builtin; refine wpList_appb rfl (.tmp 105) (.tmp 106) rfl w' _ _ A [44] A2 _ _ rfl HA2 rfl rfl (unhide HO) (by simp; omega) ?_)
                intro ad6 cap6 x6 O6
                have hcl6 : x6.cell? ⟨b, off + j, none⟩ = some (.slice ai ti.length ci) := by
                  rw [O6.bel.cell (p := ⟨b, off + j, none⟩) hbB, ← (unhide HO).bel.cell (p := ⟨b, off + j, none⟩) hbB]; exact hcl
                have O6 := hide O6
                clear hcl
                go_wp2_with fail
                have C12 := quoted_any w'.heap.size _ A2 ti ai ci w' x6 (unhide O6) (unhide HARG).row (by omega)
                rw [unhide HGO] at C12
                refine C12.mono ?_
                rintro e x5 ⟨v5, rfl, O5⟩
                clear C12
                have O5 := hide O5
                go_wp2
                go_roundw
                case rel => exact ⟨j + 1, by omega, by go_num, unhide O5⟩
                case measure => simp [intOf]; omega
          · have hA2 := unhide HA
            rw [List.take_of_length_le (by omega), unhide H4] at hA2
            subst hA2
            clear HA nA
            go_wp2_with (at_builtin; refine wpList_appb rfl (.tmp 114) (.tmp 115) rfl w' _ _ L4 [93, 125] L5 _ _ rfl H5 rfl rfl (unhide HO) (by simp; omega) ?_)
            intro ad7 cap7 x7 O7
            have O7 := hide O7
            obtain ⟨D, hD⟩ : ∃ D, L5 ++ r = D := ⟨_, rfl⟩
            have nD : D.length = L5.length + r.length := by rw [← hD, List.length_append]
            have HD := hide hD
            have ND := hide nD
            clear hD nD
            go_wp2_with (at_builtin; refine wpList_app rfl (.tmp 119) (.tmp 120) rfl w' _ _ L5 r _ _ rfl rfl (unhide O7) (unhide HR) (by omega) ?_)
            intro ad8 cap8 x8 O8
            try rw [List.length_append] at O8
            try rw [List.length_append]
            rw [← unhide ND] at O8 ⊢
            rw [unhide HD] at O8
            have hDp : D = p ++ (Pl.flat (.inl 123 :: .inr ky :: .inl 58 :: .inl 91 :: (Pl.items (texts its) ++ [.inl 93, .inl 125])) ++ r) := by
              rw [← unhide HD, ← unhide H5, ← unhide H4, ← unhide H3, ← unhide H2, ← unhide H1]
              simp [Pl.flat, Pl.flat_append]
            have hEnds : Pl.Ends 0 (.inl 123 :: .inr ky :: .inl 58 :: .inl 91 :: (Pl.items (texts its) ++ [.inl 93, .inl 125])) := Pl.ends_object ky (texts its)
            obtain ⟨g, cap9, hv9, hcap9, hmx9, hcell9⟩ := O8.open (by intro h; have := congrArg List.length h; rw [unhide ND, ← unhide H5] at this; simp at this)
            have C14 := zzValue_any g D.length cap9 D p r _ x8 rfl hcap9 (by rw [unhide ND]; omega) hmx9 hcell9 hDp hEnds
            rw [show D.length - r.length = L5.length from by rw [unhide ND]; omega] at C14
            have C14 := hide C14
            have O8 := hide O8
            rw [hv9]
            clear hcell9 hv9 hDp hEnds
            have hDb : D.length ≤ 16777216 := by rw [unhide ND]; omega
            go_wp2_with fail
            refine (unhide C14).mono ?_
            rintro e x9 ⟨rfl, rfl⟩
            go_wp2
            go_ret
            exact RetTrue.mk (unhide O8).bel

end Go.Proofs.Qxb6601536a
