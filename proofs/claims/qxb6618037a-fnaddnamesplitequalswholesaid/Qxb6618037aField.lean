/-
  MY OWN WORK (seat b6618037a). ZZMakeFieldRead, ZZFieldReadFields, ZZAddName, (*fieldRead).addName.
-/
import Derived.Test.Qxb6618037aMakes
namespace Go.Proofs.Qxb6618037a
open Go.RowKit

theorem make_any (a : Option Addr) (n c : Nat) (b1 b2 b3 b4 b5 : Bool) (w : World) :
    Calls Try.prog 15 #[.slice a n c, .bool b1, .bool b2, .bool b3, .bool b4, .bool b5] w fun e w' =>
      e = .returned (.agg #[.slice a n c, .bool b1, .bool b2, .bool b3, .bool b4, .bool b5]) ∧ w' = w.alloc (.cells #[.slice a n c, .bool b1, .bool b2, .bool b3, .bool b4, .bool b5] 28) := by
  go_enter Try.func15, Try.ntmps15
  go_wp2
  exact bodyPost_ret (v := .agg #[.slice a n c, .bool b1, .bool b2, .bool b3, .bool b4, .bool b5]) (by simp [results, Try.results15, go_sem]) rfl ⟨rfl, rfl⟩

theorem fields_any (p : Nat) (a : Option Addr) (n c : Nat) (b1 b2 b3 b4 b5 : Bool) (w : World) (h : w.heap[p]? = some (.cells #[.slice a n c, .bool b1, .bool b2, .bool b3, .bool b4, .bool b5] 28 (0, 0))) :
    Calls Try.prog 11 #[.pointer (some ⟨p, 0, none⟩)] w fun e w' =>
      e = .returned (.tuple #[.slice a n c, .bool b1, .bool b2, .bool b3, .bool b4, .bool b5]) ∧ Below w.heap.size w w' := by
  have c0 : w.cell? ⟨p, 0, none⟩ = some (.slice a n c) := by rw [cell_of_row w p 0 _ 28 (0, 0) h]; rfl
  have c1 : w.cell? ⟨p, 1, none⟩ = some (.bool b1) := by rw [cell_of_row w p 1 _ 28 (0, 0) h]; rfl
  have c2 : w.cell? ⟨p, 2, none⟩ = some (.bool b2) := by rw [cell_of_row w p 2 _ 28 (0, 0) h]; rfl
  have c3 : w.cell? ⟨p, 3, none⟩ = some (.bool b3) := by rw [cell_of_row w p 3 _ 28 (0, 0) h]; rfl
  have c4 : w.cell? ⟨p, 4, none⟩ = some (.bool b4) := by rw [cell_of_row w p 4 _ 28 (0, 0) h]; rfl
  have c5 : w.cell? ⟨p, 5, none⟩ = some (.bool b5) := by rw [cell_of_row w p 5 _ 28 (0, 0) h]; rfl
  clear h
  go_enter Try.func11, Try.ntmps11
  go_wp2
  go_quiet (fail)
  go_wp2
  exact bodyPost_ret (v := .tuple #[.slice a n c, .bool b1, .bool b2, .bool b3, .bool b4, .bool b5]) (by simp [results, Try.results11, go_sem]) rfl ⟨rfl, below_drewN (Below.refl _ _) _⟩

end Go.Proofs.Qxb6618037a
