/-
  Seat b6601164a: what the library's functions on the road hand back (after the shelf's templates).
-/
import Derived.Test.Qxb6601164aRows
import Derived.WalkKit
import Derived.WalkSpells
import Derived.Lib.Strings
import Derived.Lib.Slices
import Derived.Lib.Walk
import Derived.Lib.Bytealg
import Derived.Lib.IndexBytes
namespace Go.Proofs.Qxb6601164a
open Go.RowKit

set_option maxHeartbeats 1000000 in
set_option maxRecDepth 100000 in
theorem stringslite_IndexByte (s : ByteArray) (c : Int) (w : World) :
    Calls Try.prog 40 #[.string s, .int .u8 c] w fun e w' => e = .returned (.int .i64 (Lib.indexByte s.data.toList c.toNat.toUInt8)) ∧ w' = w := by
  go_enter Try.func40, Try.ntmps40
  go_wp2
  rw [run_callFunc_extern Try.func41 (by kernel_rfl) (by kernel_rfl) (by kernel_rfl) (e := Extern.BytealgIndexByte.indexByte) (by kernel_rfl), Lib.run_indexByteString]
  simp only [Result.andThen]
  rw [Oper.upon_value]
  go_wp2
  go_ret
  exact ⟨rfl, rfl⟩

set_option maxHeartbeats 1000000 in
theorem strings_IndexByte (s : ByteArray) (c : Int) (w : World) :
    Calls Try.prog 36 #[.string s, .int .u8 c] w fun e w' => e = .returned (.int .i64 (Lib.indexByte s.data.toList c.toNat.toUInt8)) ∧ w' = w := by
  go_enter Try.func36, Try.ntmps36
  go_wp2_with (go_at_call 40; refine (stringslite_IndexByte _ _ _).mono ?_; rintro e w' ⟨rfl, rfl⟩)
  go_ret
  exact ⟨rfl, rfl⟩

set_option maxHeartbeats 1000000 in
theorem strings_TrimPrefix (s p : ByteArray) (w : World) :
    Calls Try.prog 26 #[.string s, .string p] w fun e w' => e = .returned (.string ⟨(Lib.trimPrefix s.data.toList p.data.toList).toArray⟩) ∧ w' = w := by
  go_enter Try.func26, Try.ntmps26
  go_wp2
  · have h1 : p.size ≤ s.size := by assumption
    have h2 : ((s.extract 0 p.size).toList == p.toList) = true := by assumption
    go_ret
    refine ⟨?_, rfl⟩
    rw [Lib.trimPrefix_hit s p h1 h2]
    rfl
  · have h2 : ((s.extract 0 p.size).toList == p.toList) = false := by assumption
    go_ret
    refine ⟨?_, rfl⟩
    rw [Lib.trimPrefix_miss s p (by rw [h2]; simp)]
    rfl
  · have h1 : ¬ p.size ≤ s.size := by assumption
    go_ret
    refine ⟨?_, rfl⟩
    rw [Lib.trimPrefix_miss s p (by simp [h1])]
    rfl

set_option maxHeartbeats 2000000 in
set_option maxRecDepth 1000000 in
theorem strings_IndexRune_ascii (s : ByteArray) (r : Int) (w : World) (h0 : 0 ≤ r) (h1 : r < 128) :
    Calls Try.prog 31 #[.string s, .int .i32 r] w fun e w' => e = .returned (.int .i64 (Lib.indexByte s.data.toList r.toNat.toUInt8)) ∧ w' = w := by
  go_enter Try.func31, Try.ntmps31
  go_wp2_with (go_at_call 36; refine (strings_IndexByte _ _ _).mono ?_; rintro e w' ⟨rfl, rfl⟩)
  go_ret
  exact ⟨rfl, rfl⟩

set_option maxHeartbeats 1000000 in
set_option maxRecDepth 1000000 in
/-- strings.IndexAny at one ASCII byte. -/
theorem strings_IndexAny_one (s chars : ByteArray) (c : UInt8) (w : World) (hlist : chars.data.toList = [c]) (hc : c.toNat < 128) :
    Calls Try.prog 27 #[.string s, .string chars] w fun e w' => e = .returned (.int .i64 (Lib.indexByte s.data.toList c)) ∧ w' = w := by
  have h1 : chars.size = 1 := by rw [Lib.size_eq, hlist]; rfl
  have hc0 : chars[0]'(by omega) = c := by
    have := Lib.data_getElem? chars 0 (by omega)
    rw [hlist] at this
    simpa using this.symm
  have hemp : chars.toList.isEmpty = false := by rw [Lib.toList_data, hlist]; rfl
  have hn1 : ((chars.size : Int) == 1) = true := beq_iff_eq.2 (by omega)
  have hsz : (0 : Int) < (chars.size : Int) := by omega
  have hcz : ¬ ((128 : Int) ≤ (c.toNat : Int)) := by omega
  have hback : ((c.toNat : Int)).toNat.toUInt8 = c := by simp
  clear hlist
  go_enter Try.func27, Try.ntmps27
  go_wp2_with (go_at_call 31; refine (strings_IndexRune_ascii _ _ _ (by omega) (by omega)).mono ?_; rintro e w' ⟨rfl, hw⟩; rw [hw, hback])
  go_ret
  exact ⟨rfl, rfl⟩

end Go.Proofs.Qxb6601164a
