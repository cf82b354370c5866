/-
  Seat b6601164a: the law FnIsPlainNumberJoinsAtPoint (9), walked.
-/
import Derived.Test.Qxb6601164aWalkB
namespace Go.Proofs.Qxb6601164a
open Go.RowKit

set_option maxHeartbeats 400000 in
theorem joins_walk (a0 a1 : ByteArray) (w0 : a0.size ≤ maxLen) (w1 : a1.size ≤ maxLen) (w : World) :
    Calls Try.prog 9 #[.string a0, .string a1] w fun e w' => e = .returned (.bool true) ∧ w' = w := by
  by_cases hC : a0.size + a1.size ≤ 1048576
  · have c18 := hide (zzBytes_in a0 a1 w hC)
    have c19 := hide (drop_any a0 w)
    have hl := Pl.lessB_size a0
    have c13 := zzAll_any (Pl.lessB a0) w (by unfold maxLen; omega)
    have c13' := zzAll_any a1 w w1
    rw [Pl.lessB_data] at c13
    have hstop : Pl.plain (a0.data.toList ++ 46 :: a1.data.toList) = (Pl.digs (Pl.less a0.data.toList) && Pl.digs a1.data.toList) := Pl.joins _ _
    generalize Pl.digs (Pl.less a0.data.toList) = B1 at *
    generalize Pl.digs a1.data.toList = B2 at *
    have hcat : (a0 ++ ⟨#[46]⟩ ++ a1 : ByteArray).data.toList = a0.data.toList ++ 46 :: a1.data.toList := by
      simp [ByteArray.data_append]
    have c15 := zzPlain_any (a0 ++ ⟨#[46]⟩ ++ a1) ⟨#[46]⟩ w (by rw [Lib.size_eq, hcat]; simp only [List.length_append, List.length_cons, ← Lib.size_eq, maxLen]; omega) rfl
    rw [hcat, hstop] at c15
    clear hcat
    have C15 := hide c15
    clear c15
    have C1 := hide c13
    have C2 := hide c13'
    clear hstop c13 c13'
    cases B1
    · go_enter Try.func9, Try.ntmps9
      go_wp2_with fail
      refine (unhide c18).mono ?_
      rintro e w' ⟨rfl, rfl⟩
      go_wp2_with fail
      refine (unhide c19).mono ?_
      rintro e w' ⟨rfl, rfl⟩
      go_wp2_with fail
      refine (unhide C1).mono ?_
      rintro e w' ⟨rfl, rfl⟩
      go_wp2_with fail
      refine (unhide C15).mono ?_
      rintro e w' ⟨rfl, rfl⟩
      go_wp2
      go_ret
      exact ⟨rfl, rfl⟩
    · go_enter Try.func9, Try.ntmps9
      go_wp2_with fail
      refine (unhide c18).mono ?_
      rintro e w' ⟨rfl, rfl⟩
      go_wp2_with fail
      refine (unhide c19).mono ?_
      rintro e w' ⟨rfl, rfl⟩
      go_wp2_with fail
      refine (unhide C1).mono ?_
      rintro e w' ⟨rfl, rfl⟩
      go_wp2_with fail
      refine (unhide C2).mono ?_
      rintro e w' ⟨rfl, rfl⟩
      go_wp2_with fail
      refine (unhide C15).mono ?_
      rintro e w' ⟨rfl, rfl⟩
      go_wp2
      go_ret
      exact ⟨by cases B2 <;> rfl, rfl⟩
  · have c18 := hide (zzBytes_out a0 a1 w w0 w1 hC)
    clear hC
    go_enter Try.func9, Try.ntmps9
    go_wp2_with fail
    refine (unhide c18).mono ?_
    rintro e w' ⟨rfl, rfl⟩
    go_wp2
    go_ret
    exact ⟨rfl, rfl⟩

end Go.Proofs.Qxb6601164a
