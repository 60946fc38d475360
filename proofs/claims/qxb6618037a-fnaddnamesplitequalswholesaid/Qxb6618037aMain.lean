/-
  MY OWN WORK (seat b6618037a). The law's own walk.
-/
import Derived.Test.Qxb6618037aParts
namespace Go.Proofs.Qxb6618037a
open Go.RowKit

set_option maxRecDepth 100000 in
set_option maxHeartbeats 1000000 in
theorem main_big (a0 a6 a7 : Option Addr) (l0 c0 l6 c6 l7 c7 : Nat) (a1 a2 a3 a4 a5 : Bool) (w : World) (m0 : l0 ≤ maxLen) (m6 : l6 ≤ maxLen) (m7 : l7 ≤ maxLen) (h : 1048576 < l0 + l6 + l7) :
    Calls Try.prog 4 #[.slice a0 l0 c0, .bool a1, .bool a2, .bool a3, .bool a4, .bool a5, .slice a6 l6 c6, .slice a7 l7 c7] w fun e w' => e = .returned (.bool true) ∧ Below w.heap.size w w' := by
  go_enter Try.func4, Try.ntmps4
  go_wp2_with fail
  refine (bytes_big a0 a6 a7 l0 c0 l6 c6 l7 c7 a1 a2 a3 a4 a5 w m0 m6 m7 h).mono ?_
  rintro e w' ⟨rfl, rfl⟩
  go_wp2_with fail
  go_ret
  exact ⟨rfl, Below.refl _ _⟩

set_option maxRecDepth 100000 in
set_option maxHeartbeats 1000000 in
theorem main_mid (a0 a6 a7 : Option Addr) (l0 c0 l6 c6 l7 c7 : Nat) (a1 a2 a3 a4 a5 : Bool) (w : World) (h : l0 + l6 + l7 ≤ 1048576) (hm : 262144 < l0 ∨ 262144 < l6 ∨ 262144 < l7) :
    Calls Try.prog 4 #[.slice a0 l0 c0, .bool a1, .bool a2, .bool a3, .bool a4, .bool a5, .slice a6 l6 c6, .slice a7 l7 c7] w fun e w' => e = .returned (.bool true) ∧ Below w.heap.size w w' := by
  by_cases h0 : 262144 < l0
  · go_enter Try.func4, Try.ntmps4
    go_wp2_with fail
    refine (bytes_small a0 a6 a7 l0 c0 l6 c6 l7 c7 a1 a2 a3 a4 a5 w h).mono ?_
    rintro e w' ⟨rfl, rfl⟩
    go_wp2_with fail
    go_ret
    exact ⟨rfl, Below.refl _ _⟩
  · by_cases h6 : 262144 < l6
    · go_enter Try.func4, Try.ntmps4
      go_wp2_with fail
      refine (bytes_small a0 a6 a7 l0 c0 l6 c6 l7 c7 a1 a2 a3 a4 a5 w h).mono ?_
      rintro e w' ⟨rfl, rfl⟩
      go_wp2_with fail
      go_ret
      exact ⟨rfl, Below.refl _ _⟩
    · have h7 : 262144 < l7 := by omega
      clear hm
      go_enter Try.func4, Try.ntmps4
      go_wp2_with fail
      refine (bytes_small a0 a6 a7 l0 c0 l6 c6 l7 c7 a1 a2 a3 a4 a5 w h).mono ?_
      rintro e w' ⟨rfl, rfl⟩
      go_wp2_with fail
      go_ret
      exact ⟨rfl, Below.refl _ _⟩

end Go.Proofs.Qxb6618037a
