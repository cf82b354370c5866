/-
  Seat b6601536a: the law FnSkipStringEndsAfterQuotedText (4), walked.
-/
import Derived.Test.Qxb6601536aOwn
namespace Go.Proofs.Qxb6601536a
open Go.RowKit

set_option maxHeartbeats 400000 in
theorem zz11_in (a0 a1 a2 : Option Addr) (n0 n1 n2 c0 c1 c2 : Nat) (w : World) (h : n0 + n1 + n2 ≤ 1048576) :
    Calls Try.prog 11 #[.slice a0 n0 c0, .slice a1 n1 c1, .slice a2 n2 c2] w fun e w' => e = .returned (.bool true) ∧ w' = w := by
  go_enter Try.func11, Try.ntmps11
  go_wp2
  go_ret
  exact ⟨rfl, rfl⟩

set_option maxHeartbeats 800000 in
theorem zz11_out (a0 a1 a2 : Option Addr) (n0 n1 n2 c0 c1 c2 : Nat) (w : World) (h0 : n0 ≤ maxLen) (h1 : n1 ≤ maxLen) (h2 : n2 ≤ maxLen) (h : ¬ n0 + n1 + n2 ≤ 1048576) :
    Calls Try.prog 11 #[.slice a0 n0 c0, .slice a1 n1 c1, .slice a2 n2 c2] w fun e w' => e = .returned (.bool false) ∧ w' = w := by
  unfold maxLen at h0 h1 h2
  by_cases g0 : 1048576 < n0
  · go_enter Try.func11, Try.ntmps11
    go_wp2
    go_ret
    exact ⟨rfl, rfl⟩
  · by_cases g1 : 1048576 < n1
    · go_enter Try.func11, Try.ntmps11
      go_wp2
      go_ret
      exact ⟨rfl, rfl⟩
    · by_cases g2 : 1048576 < n0 + n1
      · go_enter Try.func11, Try.ntmps11
        go_wp2
        go_ret
        exact ⟨rfl, rfl⟩
      · by_cases g3 : 1048576 < n2
        · go_enter Try.func11, Try.ntmps11
          go_wp2
          go_ret
          exact ⟨rfl, rfl⟩
        · go_enter Try.func11, Try.ntmps11
          go_wp2
          go_ret
          exact ⟨rfl, rfl⟩

set_option maxHeartbeats 400000 in
theorem zzSkip_any (g n cap : Nat) (l : List UInt8) (start E : Nat) (w : World) (hl : l.length = n) (hcap : n ≤ cap) (hb : n ≤ 1099511627776) (hm : cap ≤ 9223372036854775807)
    (hc : ∀ i x, l[i]? = some x → w.cell? ⟨g, i, none⟩ = some (.int .u8 x.toNat)) (hE : Pl.Closes (l.drop (start + 1)) E) :
    Calls Try.prog 9 #[.slice (some ⟨g, 0, none⟩) n cap, .int .i64 start] w fun e w' => e = .returned (.int .i64 ((start + 1 + E + 1 : Nat) : Int)) ∧ w' = w := by
  have C := hide (skipString_any g n cap l start E w hl hcap hb hm hc hE)
  clear hc hE
  go_enter Try.func9, Try.ntmps9
  go_wp2_with fail
  refine (unhide C).mono ?_
  rintro e w' ⟨rfl, rfl⟩
  go_wp2
  go_ret
  exact ⟨by go_num, rfl⟩

set_option maxHeartbeats 1000000 in
theorem lawS_walk (w : World) (p t r : List UInt8) (a0 a1 a2 : Option Addr) (c0 c1 c2 : Nat) (h0 : Arg w a0 c0 p) (h1 : Arg w a1 c1 t) (h2 : Arg w a2 c2 r)
    (b0 : p.length ≤ maxLen) (b1 : t.length ≤ maxLen) (b2 : r.length ≤ maxLen) :
    Calls Try.prog 4 #[.slice a0 p.length c0, .slice a1 t.length c1, .slice a2 r.length c2] w fun e w' => e = .returned (.bool true) ∧ Below w.heap.size w w' := by
  by_cases hC : p.length + t.length + r.length ≤ 1048576
  · have C11 := hide (zz11_in a0 a1 a2 p.length t.length r.length c0 c1 c2 w hC)
    have HP := hide h0
    have HT := hide h1
    have HR := hide h2
    clear h0 h1 h2 b0 b1 b2
    by_cases hS : p.length + 2 * t.length + r.length ≤ 1048576
    · go_enter Try.func4, Try.ntmps4
      go_wp2_with fail
      refine (unhide C11).mono ?_
      rintro e w' ⟨rfl, rfl⟩
      go_wp2_with (at_make; refine wpList_made rfl _ _ rfl w' _ _ rfl rfl (by omega) (by omega) (Below.refl _ _) ?_)
      intro ad cap w1 H1
      have H1 := hide H1
      go_wp2_with (at_builtin; refine wpList_app rfl (.tmp 49) (.tmp 50) rfl w' _ _ [] p _ _ rfl rfl (unhide H1) (unhide HP) (by simp; omega) ?_)
      intro ad2 cap2 w2 H2
      have H2 := hide H2
      go_wp2_with fail
      have C12 := quoted_any w'.heap.size _ p t a1 c1 w' w2 (unhide H2) (unhide HT).row (by omega)
      refine C12.mono ?_
      rintro e w3 ⟨v3, rfl, H3⟩
      clear C12
      have hl3 : (p ++ 34 :: (Pl.esc t ++ [34])).length ≤ p.length + 2 * t.length + 2 := by
        have := Pl.esc_length t
        simp
        omega
      obtain ⟨L, hL⟩ : ∃ L, p ++ 34 :: (Pl.esc t ++ [34]) = L := ⟨_, rfl⟩
      rw [hL] at H3 hl3
      have HL := hide hL
      clear hL
      obtain ⟨ad3, cap3, hv3⟩ := H3.shape
      rw [hv3] at H3
      rw [hv3]
      have H3 := hide H3
      clear hv3
      go_wp2_with (at_builtin; refine wpList_app rfl (.tmp 59) (.tmp 60) rfl w' _ _ L r _ _ rfl rfl (unhide H3) (unhide HR) (by omega) ?_)
      intro ad4 cap4 w4 H4
      obtain ⟨D, hD⟩ : ∃ D, L ++ r = D := ⟨_, rfl⟩
      have hDl : D.length = L.length + r.length := by rw [← hD, List.length_append]
      try rw [List.length_append] at H4
      try rw [List.length_append]
      rw [← hDl] at H4 ⊢
      rw [hD] at H4
      have hLL : p.length + 1 + (Pl.esc t).length + 1 = L.length := by
        rw [← unhide HL]; simp; omega
      have hDb : D.length ≤ 1099511627776 := by omega
      have hcl : Pl.Closes (D.drop (p.length + 1)) (Pl.esc t).length := by
        have e : D.drop (p.length + 1) = Pl.esc t ++ 34 :: r := by
          rw [← hD, ← unhide HL, List.append_assoc, List.drop_append, List.drop_eq_nil_of_le (by omega)]
          simp
        rw [e]
        exact Pl.closes_quoted t r
      obtain ⟨g, cap5, hv5, hcap5, hmx5, hcell⟩ := H4.open (by intro h; rw [h] at hDl; simp at hDl; omega)
      have C9 := zzSkip_any g D.length cap5 D p.length (Pl.esc t).length w4 rfl hcap5 hDb hmx5 hcell hcl
      rw [hLL] at C9
      have C9 := hide C9
      have H4 := hide H4
      rw [hv5]
      clear hcell hcl hv5 hLL hDl hD
      go_wp2_with fail
      refine (unhide C9).mono ?_
      rintro e w5 ⟨rfl, rfl⟩
      go_wp2
      go_ret
      exact ⟨rfl, (unhide H4).bel⟩
    · go_enter Try.func4, Try.ntmps4
      go_wp2_with fail
      refine (unhide C11).mono ?_
      rintro e w' ⟨rfl, rfl⟩
      go_wp2
      go_ret
      exact ⟨rfl, Below.refl _ _⟩
  · have C11 := hide (zz11_out a0 a1 a2 p.length t.length r.length c0 c1 c2 w b0 b1 b2 hC)
    clear hC h0 h1 h2
    go_enter Try.func4, Try.ntmps4
    go_wp2_with fail
    refine (unhide C11).mono ?_
    rintro e w' ⟨rfl, rfl⟩
    go_wp2
    go_ret
    exact ⟨rfl, Below.refl _ _⟩

end Go.Proofs.Qxb6601536a
