/-
  Seat b6601164a: the walks of allDigits (21), dropOneMinus (19), the byte count (18).
-/
import Derived.Test.Qxb6601164aRows
import Derived.WalkKit
import Derived.WalkSpells
import Derived.WalkLawsBesides
import Derived.Lib.Bytealg
import Derived.Lib.IndexBytes
import Derived.Test.Qxb6601164aPlain
namespace Go.Proofs.Qxb6601164a
open Go.RowKit

theorem hide {p : Prop} (h : p) : Hid p := h
theorem unhide {p : Prop} (h : Hid p) : p := h.out

theorem dig_at {l : List UInt8} {k : Nat} {c : UInt8} (h : l[k]? = some c) (hp : (l.take k).all Pl.dig = true) (hc : Pl.dig c = true) : (l.take (k + 1)).all Pl.dig = true := by
  rw [List.take_add_one, h, List.all_append, hp]
  simp [hc]
theorem dig_not {l : List UInt8} {k : Nat} {c : UInt8} (h : l[k]? = some c) (hc : Pl.dig c = false) : l.all Pl.dig = false := by
  rw [List.all_eq_false]
  exact ⟨c, List.mem_of_getElem? h, by simp [hc]⟩

set_option maxHeartbeats 400000 in
theorem allDigits_any (s : ByteArray) (w : World) (hs : s.size ≤ maxLen) :
    Calls Try.prog 21 #[.string s] w fun e w' => e = .returned (.bool (Pl.digs s.data.toList)) ∧ w' = w := by
  unfold maxLen at hs
  by_cases h0 : s.size = 0
  · have hnil : s.data.toList = [] := List.length_eq_zero_iff.1 (by rw [← Lib.size_eq]; exact h0)
    have hemp : s.toList.isEmpty = true := by rw [Lib.toList_data, hnil]; rfl
    rw [hnil]
    go_enter Try.func21, Try.ntmps21
    go_wp2
    go_ret
    exact ⟨rfl, rfl⟩
  · have hnil : s.data.toList.isEmpty = false := by
      cases h : s.data.toList with
      | nil => have := Lib.size_eq s; rw [h, List.length_nil] at this; omega
      | cons _ _ => rfl
    have hemp : s.toList.isEmpty = false := by rw [Lib.toList_data, hnil]
    have HD : Hid (Pl.digs s.data.toList = s.data.toList.all Pl.dig) := by
      show _ = _
      rw [Pl.digs, hnil]; rfl
    clear hnil
    go_enter Try.func21, Try.ntmps21
    go_wp2
    go_loop [3] (fun i => ∃ k : Nat, k ≤ s.size ∧ i = .int .i64 k ∧ (s.data.toList.take k).all Pl.dig = true) (fun i => s.size - (intOf i).toNat)
    case atStart => exact ⟨0, Nat.zero_le _, rfl, rfl⟩
    case round =>
      obtain ⟨k, hk, rfl, hp⟩ := hrel
      have HP : Hid ((s.data.toList.take k).all Pl.dig = true) := hp
      clear hp
      by_cases hlt : k < s.size
      · have HX : Hid (s.data.toList[k]? = some s[k]) := Lib.data_getElem? s k hlt
        by_cases c1 : (s[k].toNat : Int) < 48
        · go_wp2
          go_ret
          exact ⟨by rw [HD.out, dig_not HX.out (by simp [Pl.dig]; omega)]; rfl, rfl⟩
        · by_cases c2 : (57 : Int) < s[k].toNat
          · go_wp2
            go_ret
            exact ⟨by rw [HD.out, dig_not HX.out (by simp [Pl.dig]; omega)]; rfl, rfl⟩
          · go_wp2
            go_round
            case rel => exact ⟨k + 1, by omega, by go_num, dig_at HX.out HP.out (by simp [Pl.dig]; omega)⟩
            case measure => simp [intOf]; omega
      · go_wp2
        go_ret
        have hkk : k = s.size := by omega
        subst hkk
        have := HP.out
        rw [Lib.size_eq, List.take_length] at this
        exact ⟨by rw [HD.out, this]; rfl, rfl⟩

end Go.Proofs.Qxb6601164a
