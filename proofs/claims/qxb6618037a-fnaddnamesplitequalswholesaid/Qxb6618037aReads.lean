/-
  MY OWN WORK (seat b6618037a). zzEqBytes, zzHasPrefix: they only read.
-/
import Derived.Test.Qxb6618037aMem
namespace Go.Proofs.Qxb6618037a
open Go.RowKit

/-- zzHasPrefix at a true prefix. -/
theorem prefix_yes (a p : Option Addr) (la ca lp cp : Nat) (za zp : List Int) (w : World) (ma : la ≤ maxLen) (ha : Row w a la za) (hp : Row w p lp zp) (hle : lp ≤ la) (hpre : ∀ i, i < lp → za.getD i 0 = zp.getD i 0) :
    Calls Try.prog 17 #[.slice a la ca, .slice p lp cp] w fun e w' => e = .returned (.bool true) ∧ Below w.heap.size w w' := by
  unfold maxLen at ma
  have h0 : ¬ (la : Int) < (lp : Int) := by omega
  go_enter Try.func17, Try.ntmps17
  go_wp2
  go_loopw [5] (fun i wr => ∃ k : Nat, k ≤ lp ∧ i = .int .i64 k ∧ ∃ q, wr = w.drewN q) (fun i _ => lp - (intOf i).toNat)
  case atStart => exact ⟨0, Nat.zero_le _, rfl, 0, rfl⟩
  case round =>
    obtain ⟨k, hk, rfl, q, rfl⟩ := hrel
    by_cases hlt : k < lp
    · obtain ⟨ba, oa, rfl, hca⟩ := ha.2 (by omega)
      obtain ⟨bp, op, rfl, hcp⟩ := hp.2 (by omega)
      have g1 := hca k (by omega)
      have g2 := hcp k (by omega)
      have e1 := hpre k hlt
      rw [← e1] at g2
      have hi1 : (k : Int) < (la : Int) := by omega
      have hi2 : (k : Int) < (lp : Int) := by omega
      clear e1 hpre hca hcp ha hp
      go_wp2
      go_quiet (fail)
      go_wp2
      go_roundw
      case rel => exact ⟨k + 1, by omega, by go_num, _, rfl⟩
      case measure => simp [intOf]; omega
    · go_wp2
      go_ret
      exact ⟨rfl, below_drewN (Below.refl _ _) _⟩

/-- zzEqBytes at two equal rows. -/
theorem eq_yes (a p : Option Addr) (la ca cp : Nat) (za : List Int) (w : World) (ma : la ≤ maxLen) (ha : Row w a la za) (hp : Row w p la za) :
    Calls Try.prog 13 #[.slice a la ca, .slice p la cp] w fun e w' => e = .returned (.bool true) ∧ Below w.heap.size w w' := by
  unfold maxLen at ma
  go_enter Try.func13, Try.ntmps13
  go_wp2
  go_loopw [5] (fun i wr => ∃ k : Nat, k ≤ la ∧ i = .int .i64 k ∧ ∃ q, wr = w.drewN q) (fun i _ => la - (intOf i).toNat)
  case atStart => exact ⟨0, Nat.zero_le _, rfl, 0, rfl⟩
  case round =>
    obtain ⟨k, hk, rfl, q, rfl⟩ := hrel
    by_cases hlt : k < la
    · obtain ⟨ba, oa, rfl, hca⟩ := ha.2 (by omega)
      obtain ⟨bp, op, rfl, hcp⟩ := hp.2 (by omega)
      have g1 := hca k (by omega)
      have g2 := hcp k (by omega)
      have hi1 : (k : Int) < (la : Int) := by omega
      clear hca hcp ha hp
      go_wp2
      go_quiet (fail)
      go_wp2
      go_roundw
      case rel => exact ⟨k + 1, by omega, by go_num, _, rfl⟩
      case measure => simp [intOf]; omega
    · go_wp2
      go_ret
      exact ⟨rfl, below_drewN (Below.refl _ _) _⟩

end Go.Proofs.Qxb6618037a
