/-
  MY OWN WORK (seat b6618037a). What the walks say of a byte slice: 'Row w a n zs': the n bytes zs lie where the slice leads.
-/
import Derived.Test.Qxb6618037aRows
import Derived.WalkKit
import Derived.ProofKit
import Derived.WalkSpells
import Derived.WalkLawsBesides
import Derived.Deep.QuietTactic
import Derived.BigQuiet
namespace Go.Proofs.Qxb6618037a
open Go.RowKit

theorem hide {p : Prop} (h : p) : Hid p := h
theorem unhide {p : Prop} (h : Hid p) : p := h

/-- The n bytes zs lie where the slice (a, n) leads. -/
def Row (w : World) (a : Option Addr) (n : Nat) (zs : List Int) : Prop :=
  zs.length = n ∧ (0 < n → ∃ b off, a = some ⟨b, off, none⟩ ∧ ∀ i, i < n → w.cell? ⟨b, off + i, none⟩ = some (.int .u8 (zs.getD i 0)))

theorem Row.below {w w' : World} {a : Option Addr} {n : Nat} {zs : List Int} {B : Nat} (h : Row w a n zs) (hb : Below B w w') (hB : ∀ x, a = some x → x.block < B) : Row w' a n zs := by
  refine ⟨h.1, fun hn => ?_⟩
  obtain ⟨b, off, rfl, hc⟩ := h.2 hn
  refine ⟨b, off, rfl, fun i hi => ?_⟩
  rw [hb.cell (p := ⟨b, off + i, none⟩) (by exact hB ⟨b, off, none⟩ rfl)]
  exact hc i hi

theorem Row.kept {w w' : World} {a : Option Addr} {n : Nat} {zs : List Int} (h : Row w a n zs) (hb : Below w.heap.size w w') : Row w' a n zs := by
  refine ⟨h.1, fun hn => ?_⟩
  obtain ⟨b, off, rfl, hc⟩ := h.2 hn
  refine ⟨b, off, rfl, fun i hi => ?_⟩
  have := World.block_lt_of_cell? w _ (hc i hi)
  rw [hb.cell (by simpa using this)]
  exact hc i hi

theorem Row.nil (w : World) (a : Option Addr) : Row w a 0 [] := ⟨rfl, fun h => by omega⟩

/-! ### zzBytes_..: the three lengths add up to at most 2^20 -/
theorem bytes_small (a0 a6 a7 : Option Addr) (l0 c0 l6 c6 l7 c7 : Nat) (a1 a2 a3 a4 a5 : Bool) (w : World) (h : l0 + l6 + l7 ≤ 1048576) :
    Calls Try.prog 14 #[.slice a0 l0 c0, .bool a1, .bool a2, .bool a3, .bool a4, .bool a5, .slice a6 l6 c6, .slice a7 l7 c7] w fun e w' => e = .returned (.bool true) ∧ w' = w := by
  have h0 : ¬ (1048576 : Int) < (l0 : Int) := by omega
  have h6 : ¬ (1048576 : Int) < (l6 : Int) := by omega
  have h7 : ¬ (1048576 : Int) < (l7 : Int) := by omega
  have h06 : ¬ (1048576 : Int) < (l0 : Int) + (l6 : Int) := by omega
  have h067 : ¬ (1048576 : Int) < (l0 : Int) + (l6 : Int) + (l7 : Int) := by omega
  go_enter Try.func14, Try.ntmps14
  go_wp2
  go_ret
  exact ⟨rfl, rfl⟩

theorem bytes_big (a0 a6 a7 : Option Addr) (l0 c0 l6 c6 l7 c7 : Nat) (a1 a2 a3 a4 a5 : Bool) (w : World) (m0 : l0 ≤ maxLen) (m6 : l6 ≤ maxLen) (m7 : l7 ≤ maxLen) (h : 1048576 < l0 + l6 + l7) :
    Calls Try.prog 14 #[.slice a0 l0 c0, .bool a1, .bool a2, .bool a3, .bool a4, .bool a5, .slice a6 l6 c6, .slice a7 l7 c7] w fun e w' => e = .returned (.bool false) ∧ w' = w := by
  unfold maxLen at m0 m6 m7
  go_enter Try.func14, Try.ntmps14
  go_wp2
  all_goals (go_ret; exact ⟨rfl, rfl⟩)

end Go.Proofs.Qxb6618037a
