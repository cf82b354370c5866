/-
  Seat b6601536a: what the law FnSkipValueEndsAfterEncodedObject (7) goes through: the byte count (18), the small calls.
-/
import Derived.Test.Qxb6601536aValue
namespace Go.Proofs.Qxb6601536a
open Go.RowKit

/-- an item that came in: its address, its capacity, its bytes -/
abbrev Item := Option Addr × Nat × List UInt8
def Item.val (it : Item) : Value := .slice it.1 it.2.2.length it.2.1

/-- a slice of byte slices that came in -/
def Args (w0 : World) (a : Option Addr) (its : List Item) : Prop :=
  (its = []) ∨ ∃ b off, a = some ⟨b, off, none⟩ ∧ b < w0.heap.size ∧ ∀ (j : Nat) (it : Item), its[j]? = some it → w0.cell? ⟨b, off + j, none⟩ = some it.val ∧ Arg w0 it.1 it.2.1 it.2.2

def total : List Item → Nat
  | [] => 0
  | it :: its => it.2.2.length + total its
theorem total_append (a b : List Item) : total (a ++ b) = total a + total b := by
  induction a with
  | nil => simp [total]
  | cons x a ih => simp [total, ih]; omega
theorem total_take (its : List Item) (k : Nat) : total (its.take k) ≤ total its := by
  have h := total_append (its.take k) (its.drop k)
  rw [List.take_append_drop] at h
  omega
theorem total_step {its : List Item} {k : Nat} {it : Item} (h : its[k]? = some it) : total (its.take (k + 1)) = total (its.take k) + it.2.2.length := by
  rw [List.take_add_one, h, total_append]
  simp [total]

theorem items_length : ∀ ls : List (List UInt8), (Pl.flat (ls.flatMap fun x => [.inl 44, .inr x])).length ≤ 2 * (ls.map List.length).sum + 3 * ls.length
  | [] => by simp [Pl.flat]
  | t :: ls => by
    have ih := items_length ls
    have := Pl.esc_length t
    simp [Pl.flat]
    omega
theorem flat_items_length (ls : List (List UInt8)) : (Pl.flat (Pl.items ls)).length ≤ 2 * (ls.map List.length).sum + 3 * ls.length := by
  cases ls with
  | nil => simp [Pl.items, Pl.flat]
  | cons t ls =>
    have ih := items_length ls
    have := Pl.esc_length t
    simp [Pl.items, Pl.flat]
    omega
/-- the items' texts -/
def texts (its : List Item) : List (List UInt8) := its.map fun it => it.2.2
theorem texts_sum (its : List Item) : ((texts its).map List.length).sum = total its := by
  induction its with
  | nil => rfl
  | cons x its ih => simpa [texts, total] using ih

/-- it returns a bool, and the world is as it was -/
def BoolRet (w : World) (e : Ending) (w' : World) : Prop := ∃ b : Bool, e = .returned (.bool b) ∧ w' = w
theorem BoolRet.mk {w : World} (b : Bool) : BoolRet w (.returned (.bool b)) w := ⟨b, rfl, rfl⟩

set_option maxHeartbeats 1000000 in
theorem zz18_any (a0 a1 a2 a3 : Option Addr) (n0 n1 n2 c0 c1 c2 c3 : Nat) (its : List Item) (w : World) (h0 : n0 ≤ maxLen) (h1 : n1 ≤ maxLen) (h2 : n2 ≤ maxLen) (h3 : its.length ≤ maxLen) (h : Args w a3 its)
    (hb : ∀ (j : Nat) (it : Item), its[j]? = some it → it.2.2.length ≤ maxLen) :
    Calls Try.prog 18 #[.slice a0 n0 c0, .slice a1 n1 c1, .slice a2 n2 c2, .slice a3 its.length c3] w (BoolRet w) := by
  unfold maxLen at h0 h1 h2 h3
  have H := hide h
  have HB := hide hb
  clear h hb
  by_cases g0 : 1048576 < n0
  · go_enter Try.func18, Try.ntmps18
    go_wp2
    go_ret
    exact BoolRet.mk _
  by_cases g1 : 1048576 < n1
  · go_enter Try.func18, Try.ntmps18
    go_wp2
    go_ret
    exact BoolRet.mk _
  by_cases g2 : 1048576 < n0 + n1
  · go_enter Try.func18, Try.ntmps18
    go_wp2
    go_ret
    exact BoolRet.mk _
  by_cases g3 : 1048576 < n2
  · go_enter Try.func18, Try.ntmps18
    go_wp2
    go_ret
    exact BoolRet.mk _
  by_cases g4 : 1048576 < n0 + n1 + n2
  · go_enter Try.func18, Try.ntmps18
    go_wp2
    go_ret
    exact BoolRet.mk _
  by_cases g5 : 1048576 < its.length
  · go_enter Try.func18, Try.ntmps18
    go_wp2
    go_ret
    exact BoolRet.mk _
  by_cases g6 : 1048576 < n0 + n1 + n2 + its.length
  · go_enter Try.func18, Try.ntmps18
    go_wp2
    go_ret
    exact BoolRet.mk _
  go_enter Try.func18, Try.ntmps18
  go_wp2
  go_loop [9, 10] (fun s i => ∃ z k : Nat, s = .int .i64 z ∧ i = .int .i64 k ∧ z ≤ 1048576 ∧ k ≤ its.length) (fun _ i => its.length - (intOf i).toNat)
  case atStart => exact ⟨n0 + n1 + n2 + its.length, 0, by go_num, rfl, by omega, by omega⟩
  case round =>
    obtain ⟨z, k, rfl, rfl, hz, hk⟩ := hrel
    by_cases hlt : k < its.length
    · rcases unhide H with h | ⟨b, off, rfl, _, hcell⟩
      · rw [h] at hlt; simp at hlt
      · have hx : its[k]? = some its[k] := List.getElem?_eq_getElem _
        obtain ⟨it, hit⟩ : ∃ it, its[k] = it := ⟨_, rfl⟩
        rw [hit] at hx
        have hcl := (hcell k it hx).1
        have hbl := unhide HB k it hx
        unfold maxLen at hbl
        obtain ⟨ai, ci, ti⟩ := it
        change w.cell? ⟨b, off + k, none⟩ = some (.slice ai ti.length ci) at hcl
        change ti.length ≤ 9223372036854775807 at hbl
        clear hcell hx hit
        by_cases q1 : 1048576 < ti.length
        · go_wp2
          go_ret
          exact BoolRet.mk _
        · by_cases q2 : 1048576 < z + ti.length
          · go_wp2
            go_ret
            exact BoolRet.mk _
          · go_wp2
            go_round
            case rel => exact ⟨z + ti.length, k + 1, by go_num, by go_num, by omega, by omega⟩
            case measure => simp [intOf]; omega
    · go_wp2
      go_ret
      exact BoolRet.mk _

end Go.Proofs.Qxb6601536a
