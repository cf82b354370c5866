/-
  Seat b6601536a: skipValue (20) at an object, walked.
-/
import Derived.Test.Qxb6601536aOwn
import Derived.Test.Qxb6601536aTok
namespace Go.Proofs.Qxb6601536a
open Go.RowKit

theorem byte_is (c : UInt8) (n : Nat) (h : n < 256) (e : c = UInt8.ofNat n) : ((c.toNat : Int) == (n : Int)) = true := (byte_beq c n h).trans (by simp [e])
theorem byte_not (c : UInt8) (n : Nat) (h : n < 256) (e : ¬ c = UInt8.ofNat n) : ((c.toNat : Int) == (n : Int)) = false := (byte_beq c n h).trans (by simp [e])

theorem at_head (q x : List UInt8) (b : UInt8) : (q ++ b :: x)[q.length]? = some b := by simp

set_option maxHeartbeats 2000000 in
theorem skipValue_any (g n cap : Nat) (l p r : List UInt8) (ts : List (UInt8 ⊕ List UInt8)) (w : World) (hl : l.length = n) (hcap : n ≤ cap) (hb : n ≤ 1099511627776) (hm : cap ≤ 9223372036854775807)
    (hc : ∀ i x, l[i]? = some x → w.cell? ⟨g, i, none⟩ = some (.int .u8 x.toNat)) (hlp : l = p ++ (Pl.flat (.inl 123 :: ts) ++ r)) (hE : Pl.Ends 0 (.inl 123 :: ts)) :
    Calls Try.prog 20 #[.slice (some ⟨g, 0, none⟩) n cap, .int .i64 p.length] w fun e w' => e = .returned (.int .i64 ((n - r.length : Nat) : Int)) ∧ w' = w := by
  have hpn : p.length < n := by rw [← hl, hlp]; simp [Pl.flat]
  have hcell := hc p.length 123 (by rw [hlp, Pl.flat]; exact at_head _ _ _)
  have HC := hide hc
  have HP := hide hlp
  have HE := hide hE
  have HLn := hide hl
  clear hc hlp hE hl
  go_enter Try.func20, Try.ntmps20
  go_wp2
  go_loop [5, 6] (fun d i => ∃ (q : List UInt8) (todo : List (UInt8 ⊕ List UInt8)) (k : Nat), d = .int .i64 k ∧ i = .int .i64 q.length ∧ k ≤ q.length ∧ l = q ++ (Pl.flat todo ++ r) ∧ Pl.Ends k todo) (fun _ i => n - (intOf i).toNat)
  case atStart => exact ⟨p, _, 0, rfl, rfl, by omega, unhide HP, unhide HE⟩
  case round =>
    clear hcell hpn
    obtain ⟨q, todo, k, rfl, rfl, hkq, hlq, hEn⟩ := hrel
    match todo, hlq, hEn with
    | [], _, hEn => exact absurd hEn (by simp [Pl.Ends])
    | .inr t :: todo, hlq, hEn =>
      have hqn : q.length < n := by rw [← unhide HLn, hlq]; simp [Pl.flat]
      have hcell : w.cell? ⟨g, q.length, none⟩ = some (.int .u8 34) := unhide HC q.length 34 (by rw [hlq, Pl.flat]; exact at_head _ _ _)
      have HQ : Hid (l = (q ++ 34 :: (Pl.esc t ++ [34])) ++ (Pl.flat todo ++ r)) := hide (by rw [hlq]; simp [Pl.flat])
      have HQ1 : Hid ((q ++ 34 :: (Pl.esc t ++ [34])).length = q.length + 1 + (Pl.esc t).length + 1) := hide (by simp; omega)
      have hqE : q.length + 1 + (Pl.esc t).length + 1 ≤ n := by
        rw [← unhide HLn, unhide HQ, List.length_append, unhide HQ1]; omega
      have hcl : Pl.Closes (l.drop (q.length + 1)) (Pl.esc t).length := by
        have e : l.drop (q.length + 1) = Pl.esc t ++ 34 :: (Pl.flat todo ++ r) := by
          rw [hlq, Pl.flat, List.drop_append, List.drop_eq_nil_of_le (by omega)]
          simp
        rw [e]
        exact Pl.closes_quoted t _
      have C19 := hide (skipString_any g n cap l q.length (Pl.esc t).length w (unhide HLn) hcap hb hm (unhide HC) hcl)
      have HEn : Hid (Pl.Ends k todo) := hide (by simpa [Pl.Ends] using hEn)
      clear hEn hlq hcl
      generalize (Pl.esc t).length = E at *
      go_wp2_with fail
      refine (unhide C19).mono ?_
      rintro e w' ⟨rfl, rfl⟩
      go_wp2
      go_round
      case rel => exact ⟨q ++ 34 :: (Pl.esc t ++ [34]), todo, k, by go_num, by rw [unhide HQ1]; go_num, by rw [unhide HQ1]; omega, HQ.out, HEn.out⟩
      case measure => simp [intOf]; omega
    | .inl b :: todo, hlq, hEn =>
      have hqn : q.length < n := by rw [← unhide HLn, hlq]; simp [Pl.flat]
      have hcell := unhide HC q.length b (by rw [hlq, Pl.flat]; exact at_head _ _ _)
      have HQ : Hid (l = (q ++ [b]) ++ (Pl.flat todo ++ r)) := hide (by rw [hlq]; simp [Pl.flat])
      have hq1 : (q ++ [b]).length = q.length + 1 := by simp
      have HQ1 := hide hq1
      clear hq1
      by_cases c1 : b = 123 ∨ b = 91
      · rw [Pl.Ends, if_pos c1] at hEn
        have HEn := hide hEn
        have tt : ((b.toNat : Int) == 123) = true ∨ (((b.toNat : Int) == 123) = false ∧ ((b.toNat : Int) == 91) = true) := by
          by_cases h : b = 123
          · exact .inl (byte_is b 123 (by omega) h)
          · exact .inr ⟨byte_not b 123 (by omega) h, byte_is b 91 (by omega) (c1.resolve_left h)⟩
        clear hEn hlq c1
        rcases tt with t1 | ⟨t1, t2⟩
        all_goals
          go_wp2
          go_round
          case rel => exact ⟨q ++ [b], todo, k + 1, by go_num, by rw [unhide HQ1]; go_num, by rw [unhide HQ1]; omega, HQ.out, HEn.out⟩
          case measure => simp [intOf]; omega
      · rw [Pl.Ends, if_neg c1] at hEn
        have n1 : ((b.toNat : Int) == 123) = false := byte_not b 123 (by omega) (fun h => c1 (.inl h))
        have n2 : ((b.toNat : Int) == 91) = false := byte_not b 91 (by omega) (fun h => c1 (.inr h))
        by_cases c2 : b = 125 ∨ b = 93
        · rw [if_pos c2] at hEn
          have tt : ((b.toNat : Int) == 125) = true ∨ (((b.toNat : Int) == 125) = false ∧ ((b.toNat : Int) == 93) = true) := by
            by_cases h : b = 125
            · exact .inl (byte_is b 125 (by omega) h)
            · exact .inr ⟨byte_not b 125 (by omega) h, byte_is b 93 (by omega) (c2.resolve_left h)⟩
          have HEn := hide hEn
          have HLQ := hide hlq
          clear hEn hlq c1 c2
          rcases HEn.out with ⟨rfl, rfl⟩ | ⟨hk2, hEn⟩
          · have hend : n - r.length = q.length + 1 := by
              rw [← unhide HLn, unhide HLQ]; simp [Pl.flat]; omega
            have HEND := hide hend
            clear hend
            rcases tt with t1 | ⟨t1, t2⟩
            all_goals
              go_wp2
              go_ret
              exact ⟨by rw [unhide HEND]; go_num, rfl⟩
          · have HEn2 := hide hEn
            clear hEn
            rcases tt with t1 | ⟨t1, t2⟩
            all_goals
              go_wp2
              go_round
              case rel => exact ⟨q ++ [b], todo, k - 1, by go_num, by rw [unhide HQ1]; go_num, by rw [unhide HQ1]; omega, HQ.out, HEn2.out⟩
              case measure => simp [intOf]; omega
        · rw [if_neg c2] at hEn
          have n3 : ((b.toNat : Int) == 125) = false := byte_not b 125 (by omega) (fun h => c2 (.inl h))
          have n4 : ((b.toNat : Int) == 93) = false := byte_not b 93 (by omega) (fun h => c2 (.inr h))
          have n5 : ((b.toNat : Int) == 34) = false := byte_not b 34 (by omega) hEn.1
          have HEn := hide hEn.2
          clear hEn hlq c1 c2
          go_wp2
          go_round
          case rel => exact ⟨q ++ [b], todo, k, by go_num, by rw [unhide HQ1]; go_num, by rw [unhide HQ1]; omega, HQ.out, HEn.out⟩
          case measure => simp [intOf]; omega

end Go.Proofs.Qxb6601536a
