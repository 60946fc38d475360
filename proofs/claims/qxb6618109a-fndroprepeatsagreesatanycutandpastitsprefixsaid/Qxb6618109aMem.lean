/-
  MY OWN WORK (seat b6618109a). What the walks say of a slice of problems: 'PRow w a n ps'.
-/
import Derived.Test.Qxb6618109aRows
import Derived.Test.Qxb6618109aPlain
import Derived.WalkKit
import Derived.ProofKit
import Derived.WalkSpells
import Derived.WalkLawsBesides
import Derived.Deep.QuietTactic
import Derived.BigQuiet
import Derived.Deep.RegionWith
namespace Go.Proofs.Qxb6618109a
open Go.RowKit

theorem hide {p : Prop} (h : p) : Hid p := h
theorem unhide {p : Prop} (h : Hid p) : p := h

def pz : Pb := (0, ByteArray.empty)

/-- The n problems ps lie where the slice (a, n) leads. -/
def PRow (w : World) (a : Option Addr) (n : Nat) (ps : List Pb) : Prop :=
  ps.length = n ∧ (0 < n → ∃ b off, a = some ⟨b, off, none⟩ ∧ ∀ i, i < n → w.cell? ⟨b, off + i * 2, none⟩ = some (.int .i64 (ps.getD i pz).1) ∧ w.cell? ⟨b, off + i * 2 + 1, none⟩ = some (.string (ps.getD i pz).2))

theorem PRow.kept {w w' : World} {a : Option Addr} {n : Nat} {ps : List Pb} (h : PRow w a n ps) (hb : Below w.heap.size w w') : PRow w' a n ps := by
  refine ⟨h.1, fun hn => ?_⟩
  obtain ⟨b, off, rfl, hc⟩ := h.2 hn
  refine ⟨b, off, rfl, fun i hi => ?_⟩
  have h1 := World.block_lt_of_cell? w _ (hc i hi).1
  rw [hb.cell (p := ⟨b, off + i * 2, none⟩) (by simpa using h1), hb.cell (p := ⟨b, off + i * 2 + 1, none⟩) (by simpa using h1)]
  exact hc i hi

theorem PRow.nil (w : World) (a : Option Addr) : PRow w a 0 [] := ⟨rfl, fun h => by omega⟩

/-- It answers a bool and turns nothing; at 'false' Q holds. -/
def Tells (Q : Prop) (w : World) (e : Ending) (w' : World) : Prop := ∃ b, e = .returned (.bool b) ∧ w = w' ∧ (b = false → Q)

theorem size_at {ps : List Pb} {k : Nat} (hs : ∀ p ∈ ps, p.2.size ≤ maxLen) (hk : k < ps.length) : (ps.getD k pz).2.size ≤ 9223372036854775807 := by
  have e : ps.getD k pz = ps[k] := by simp [hk]
  rw [e]
  have := hs ps[k] (List.getElem_mem hk)
  unfold maxLen at this
  omega

/-- zzProblemsTooBig. -/
theorem tooBig_any (a : Option Addr) (n c : Nat) (ps : List Pb) (w : World) (hm : n ≤ maxLen) (hs : ∀ p ∈ ps, p.2.size ≤ maxLen) (h : PRow w a n ps) :
    Calls Try.prog 8 #[.slice a n c] w (Tells (n ≤ 4096) w) := by
  unfold maxLen at hm
  by_cases hn : 4096 < n
  · go_enter Try.func8, Try.ntmps8
    go_wp2
    go_ret
    exact ⟨true, rfl, rfl, by simp⟩
  · go_enter Try.func8, Try.ntmps8
    go_wp2
    go_loop [3, 4] (fun t i => ∃ k : Nat, ∃ z : Int, k ≤ n ∧ i = .int .i64 k ∧ t = .int .i64 z ∧ 0 ≤ z ∧ z ≤ 1048576) (fun _ i => n - (intOf i).toNat)
    case atStart => exact ⟨0, 0, Nat.zero_le _, rfl, rfl, by omega, by omega⟩
    case round =>
      obtain ⟨k, z, hk, rfl, rfl, hz0, hz1⟩ := hrel
      by_cases hlt : k < n
      · obtain ⟨b, off, rfl, hc⟩ := h.2 (by omega)
        obtain ⟨g1, g2⟩ := hc k hlt
        have hsz := size_at hs (k := k) (by rw [h.1]; exact hlt)
        generalize (ps.getD k pz).2 = s at g2 hsz
        clear hc g1 h hs
        go_wp2
        · go_ret
          exact ⟨true, rfl, rfl, by simp⟩
        · go_ret
          exact ⟨true, rfl, rfl, by simp⟩
        · go_round
          case rel => exact ⟨k + 1, _, by omega, by go_num, rfl, by omega, by omega⟩
          case measure => simp [intOf]; omega
      · go_wp2
        go_ret
        exact ⟨false, rfl, rfl, by intro _; omega⟩

/-- zzBytes_FnDropRepeatsKeepsEachFirstOccurrenceOnce. -/
theorem bytes7 (a : Option Addr) (n c : Nat) (m : Int) (ps : List Pb) (w : World) (hm : n ≤ maxLen) (hs : ∀ p ∈ ps, p.2.size ≤ maxLen) (h : PRow w a n ps) :
    Calls Try.prog 7 #[.slice a n c, .int .i64 m] w (Tells True w) := by
  unfold maxLen at hm
  by_cases hn : 1048576 < n
  · go_enter Try.func7, Try.ntmps7
    go_wp2
    go_ret
    exact ⟨false, rfl, rfl, fun _ => trivial⟩
  · go_enter Try.func7, Try.ntmps7
    go_wp2
    go_loop [5, 6] (fun t i => ∃ k : Nat, ∃ z : Int, k ≤ n ∧ i = .int .i64 k ∧ t = .int .i64 z ∧ 0 ≤ z ∧ z ≤ 1048576) (fun _ i => n - (intOf i).toNat)
    case atStart => exact ⟨0, n, Nat.zero_le _, rfl, by simp, by omega, by omega⟩
    case round =>
      obtain ⟨k, z, hk, rfl, rfl, hz0, hz1⟩ := hrel
      by_cases hlt : k < n
      · obtain ⟨b, off, rfl, hc⟩ := h.2 (by omega)
        obtain ⟨g1, g2⟩ := hc k hlt
        have hsz := size_at hs (k := k) (by rw [h.1]; exact hlt)
        generalize (ps.getD k pz).2 = s at g2 hsz
        clear hc g1 h hs
        go_wp2
        · go_ret
          exact ⟨false, rfl, rfl, fun _ => trivial⟩
        · go_ret
          exact ⟨false, rfl, rfl, fun _ => trivial⟩
        · go_round
          case rel => exact ⟨k + 1, _, by omega, by go_num, rfl, by omega, by omega⟩
          case measure => simp [intOf]; omega
      · go_wp2
        go_ret
        exact ⟨true, rfl, rfl, fun _ => trivial⟩

/-- zzBytes_FnDropRepeatsAgreesAtAnyCutAndPastItsPrefix. -/
theorem bytes15 (a : Option Addr) (n c : Nat) (m m' : Int) (ps : List Pb) (w : World) (hm : n ≤ maxLen) (hs : ∀ p ∈ ps, p.2.size ≤ maxLen) (h : PRow w a n ps) :
    Calls Try.prog 15 #[.slice a n c, .int .i64 m, .int .i64 m'] w (Tells True w) := by
  unfold maxLen at hm
  by_cases hn : 1048576 < n
  · go_enter Try.func15, Try.ntmps15
    go_wp2
    go_ret
    exact ⟨false, rfl, rfl, fun _ => trivial⟩
  · go_enter Try.func15, Try.ntmps15
    go_wp2
    go_loop [7, 8] (fun t i => ∃ k : Nat, ∃ z : Int, k ≤ n ∧ i = .int .i64 k ∧ t = .int .i64 z ∧ 0 ≤ z ∧ z ≤ 1048576) (fun _ i => n - (intOf i).toNat)
    case atStart => exact ⟨0, n, Nat.zero_le _, rfl, by simp, by omega, by omega⟩
    case round =>
      obtain ⟨k, z, hk, rfl, rfl, hz0, hz1⟩ := hrel
      by_cases hlt : k < n
      · obtain ⟨b, off, rfl, hc⟩ := h.2 (by omega)
        obtain ⟨g1, g2⟩ := hc k hlt
        have hsz := size_at hs (k := k) (by rw [h.1]; exact hlt)
        generalize (ps.getD k pz).2 = s at g2 hsz
        clear hc g1 h hs
        go_wp2
        · go_ret
          exact ⟨false, rfl, rfl, fun _ => trivial⟩
        · go_ret
          exact ⟨false, rfl, rfl, fun _ => trivial⟩
        · go_round
          case rel => exact ⟨k + 1, _, by omega, by go_num, rfl, by omega, by omega⟩
          case measure => simp [intOf]; omega
      · go_wp2
        go_ret
        exact ⟨true, rfl, rfl, fun _ => trivial⟩

end Go.Proofs.Qxb6618109a
