/-
  MY OWN WORK (seat b6619363a). The leaves: withinOnSide, withinBefore, has, withinAllowed.
-/
import Derived.Test.Qxb6619363aRows
import Derived.Test.Qxb6619363aPlain
import Derived.WalkKit
import Derived.ProofKit
import Derived.WalkSpells
import Derived.WalkLawsBesides
import Derived.Deep.QuietTactic
import Derived.BigQuiet
import Derived.Deep.RegionWith
namespace Go.Proofs.Qxb6619363a
open Go.RowKit

theorem hide {p : Prop} (h : p) : Hid p := h
theorem unhide {p : Prop} (h : Hid p) : p := h

theorem ret_bool {a b : Bool} (h : a = b) : Ending.returned (.bool a) = .returned (.bool b) := by rw [h]

/-- has at the hours' place. -/
theorem has1 (X0 X1 : Nat) (x2 x3 x4 : Int) (ei : Bool) (v : Nat) (w : World) (hX : X1 < 18446744073709551616) (hv : v ≤ 59) :
    Calls Try.prog 11 #[.agg #[.int .u64 X0, .int .u64 X1, .int .u64 x2, .int .u64 x3, .int .u64 x4, .bool ei], .int .i64 1, .int .i64 v] w fun e w' => e = .returned (.bool (bt X1 v)) ∧ Below w.heap.size w w' := by
  have H := hide (has_bit X1 v hX (by omega))
  clear hX
  go_enter Try.func11, Try.ntmps11
  go_wp2
  go_quiet (fail)
  go_wp2
  go_ret
  exact ⟨ret_bool (unhide H), below_drewN ((Below.refl _ _).alloc (Nat.le_refl _) _) _⟩

/-- has at the minutes' place. -/
theorem has0 (X0 X1 : Nat) (x2 x3 x4 : Int) (ei : Bool) (v : Nat) (w : World) (hX : X0 < 18446744073709551616) (hv : v ≤ 59) :
    Calls Try.prog 11 #[.agg #[.int .u64 X0, .int .u64 X1, .int .u64 x2, .int .u64 x3, .int .u64 x4, .bool ei], .int .i64 0, .int .i64 v] w fun e w' => e = .returned (.bool (bt X0 v)) ∧ Below w.heap.size w w' := by
  have H := hide (has_bit X0 v hX (by omega))
  clear hX
  go_enter Try.func11, Try.ntmps11
  go_wp2
  go_quiet (fail)
  go_wp2
  go_ret
  exact ⟨ret_bool (unhide H), below_drewN ((Below.refl _ _).alloc (Nat.le_refl _) _) _⟩

/-- withinAllowed. -/
theorem allowed_any (X0 X1 : Nat) (x2 x3 x4 : Int) (t : Nat) (w : World) (h0 : X0 < 18446744073709551616) (h1 : X1 < 18446744073709551616) (ht : t ≤ 1439) :
    Calls Try.prog 7 #[.agg #[.int .u64 X0, .int .u64 X1, .int .u64 x2, .int .u64 x3, .int .u64 x4], .int .i64 t] w fun e w' => e = .returned (.bool (al X0 X1 t)) ∧ Below w.heap.size w w' := by
  have H0 := hide (shr_bit X0 (t % 60) h0)
  have H1 := shr_bit X1 (t / 60) h1
  clear h0 h1
  cases hb : bt X1 (t / 60)
  · rw [hb] at H1
    have Hb := hide hb
    clear hb
    go_enter Try.func7, Try.ntmps7
    go_wp2
    go_ret
    exact ⟨ret_bool (by unfold al; rw [unhide Hb]; rfl), (Below.refl _ _).alloc (Nat.le_refl _) _⟩
  · rw [hb] at H1
    have Hb := hide hb
    clear hb
    go_enter Try.func7, Try.ntmps7
    go_wp2
    go_ret
    exact ⟨ret_bool (by unfold al; rw [unhide Hb, unhide H0]; rfl), (Below.refl _ _).alloc (Nat.le_refl _) _⟩

/-- withinOnSide. -/
theorem side_up (s t : Int) (w : World) : Calls Try.prog 6 #[.int .i64 s, .int .i64 t, .int .i64 1] w fun e w' => e = .returned (.bool (decide (s ≤ t))) ∧ w' = w := by
  go_enter Try.func6, Try.ntmps6
  go_wp2
  go_ret
  exact ⟨rfl, rfl⟩
theorem side_dn (s t : Int) (w : World) : Calls Try.prog 6 #[.int .i64 s, .int .i64 t, .int .i64 (-1)] w fun e w' => e = .returned (.bool (decide (t ≤ s))) ∧ w' = w := by
  go_enter Try.func6, Try.ntmps6
  go_wp2
  go_ret
  exact ⟨rfl, rfl⟩

/-- withinBefore. -/
theorem before_up (s r t : Int) (w : World) : Calls Try.prog 8 #[.int .i64 s, .int .i64 r, .int .i64 t, .int .i64 1] w fun e w' => e = .returned (.bool (decide (s ≤ t ∧ t < r))) ∧ w' = w := by
  by_cases h : s ≤ t
  · go_enter Try.func8, Try.ntmps8
    go_wp2
    go_ret
    exact ⟨ret_bool (by simp [h]), rfl⟩
  · have hd : decide (s ≤ t) = false := by simpa using h
    go_enter Try.func8, Try.ntmps8
    go_wp2
    go_ret
    exact ⟨ret_bool (by simp), rfl⟩
theorem before_dn (s r t : Int) (w : World) : Calls Try.prog 8 #[.int .i64 s, .int .i64 r, .int .i64 t, .int .i64 (-1)] w fun e w' => e = .returned (.bool (decide (r < t ∧ t ≤ s))) ∧ w' = w := by
  by_cases h : r < t
  · go_enter Try.func8, Try.ntmps8
    go_wp2
    go_ret
    exact ⟨ret_bool (by simp [h]), rfl⟩
  · have hd : decide (r < t) = false := by simpa using h
    go_enter Try.func8, Try.ntmps8
    go_wp2
    go_ret
    exact ⟨ret_bool (by simp), rfl⟩

end Go.Proofs.Qxb6619363a
