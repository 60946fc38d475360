/-
  MY OWN WORK (seat b6619383a). What the walks say of a slice of claims: 'CRow w a n cs'; zzClaimBytes, zzBytes.
-/
import Derived.Test.Qxb6619383aRows
import Derived.Test.Qxb6619383aPlain
import Derived.WalkKit
import Derived.ProofKit
import Derived.WalkSpells
import Derived.WalkLawsBesides
import Derived.Deep.QuietTactic
import Derived.BigQuiet
import Derived.Deep.RegionWith
namespace Go.Proofs.Qxb6619383a
open Go.RowKit

theorem hide {p : Prop} (h : p) : Hid p := h
theorem unhide {p : Prop} (h : Hid p) : p := h

def cz : Cl := (ByteArray.empty, ByteArray.empty)

/-- The n claims cs lie where the slice (a, n) leads. -/
def CRow (w : World) (a : Option Addr) (n : Nat) (cs : List Cl) : Prop :=
  cs.length = n ∧ (0 < n → ∃ b off, a = some ⟨b, off, none⟩ ∧ ∀ i, i < n → w.cell? ⟨b, off + i * 2, none⟩ = some (.string (cs.getD i cz).1) ∧ w.cell? ⟨b, off + i * 2 + 1, none⟩ = some (.string (cs.getD i cz).2))

theorem CRow.kept {w w' : World} {a : Option Addr} {n : Nat} {cs : List Cl} (h : CRow w a n cs) (hb : Below w.heap.size w w') : CRow w' a n cs := by
  refine ⟨h.1, fun hn => ?_⟩
  obtain ⟨b, off, rfl, hc⟩ := h.2 hn
  refine ⟨b, off, rfl, fun i hi => ?_⟩
  have h1 := World.block_lt_of_cell? w _ (hc i hi).1
  rw [hb.cell (p := ⟨b, off + i * 2, none⟩) (by simpa using h1), hb.cell (p := ⟨b, off + i * 2 + 1, none⟩) (by simpa using h1)]
  exact hc i hi

theorem CRow.nil (w : World) (a : Option Addr) : CRow w a 0 [] := ⟨rfl, fun h => by omega⟩

/-- What Go's types say of a claim. -/
def Good (p : Cl) : Prop := p.1.size ≤ maxLen ∧ p.2.size ≤ maxLen

theorem getD_at {l : List Cl} {k : Nat} (h : k < l.length) : l.getD k cz = l[k] := by simp [h]
theorem good_at {cs : List Cl} {k : Nat} (hs : ∀ p ∈ cs, Good p) (hk : k < cs.length) : Good (cs.getD k cz) := by
  rw [getD_at hk]; exact hs _ (List.getElem_mem hk)

/-- It answers an int within bounds and turns nothing. -/
def Sums (w : World) (e : Ending) (w' : World) : Prop := ∃ z : Int, e = .returned (.int .i64 z) ∧ w = w' ∧ 0 ≤ z ∧ z ≤ 1048577
/-- It answers a bool and turns nothing. -/
def Tells (w : World) (e : Ending) (w' : World) : Prop := ∃ b, e = .returned (.bool b) ∧ w = w'

set_option maxHeartbeats 1000000 in
/-- zzClaimBytes. -/
theorem claimBytes_any (a : Option Addr) (n c : Nat) (cs : List Cl) (tot : Int) (w : World) (hm : n ≤ maxLen) (hs : ∀ p ∈ cs, Good p) (h : CRow w a n cs) (ht0 : 0 ≤ tot) (ht1 : tot ≤ 1048576) :
    Calls Try.prog 10 #[.int .i64 tot, .slice a n c] w (Sums w) := by
  unfold maxLen at hm
  go_enter Try.func10, Try.ntmps10
  go_wp2
  go_loop [0, 5] (fun t i => ∃ k : Nat, ∃ z : Int, k ≤ n ∧ i = .int .i64 k ∧ t = .int .i64 z ∧ 0 ≤ z ∧ z ≤ 1048576) (fun _ i => n - (intOf i).toNat)
  case atStart => exact ⟨0, tot, Nat.zero_le _, rfl, rfl, ht0, ht1⟩
  case round =>
    obtain ⟨k, z, hk, rfl, rfl, hz0, hz1⟩ := hrel
    by_cases hlt : k < n
    · obtain ⟨b, off, rfl, hc⟩ := h.2 (by omega)
      obtain ⟨g1, g2⟩ := hc k hlt
      obtain ⟨s1, s2⟩ := good_at hs (k := k) (by rw [h.1]; exact hlt)
      unfold maxLen at s1 s2
      generalize (cs.getD k cz).1 = s at g1 s1
      generalize (cs.getD k cz).2 = v at g2 s2
      clear hc h hs
      by_cases q1 : 1048576 - z < (s.size : Int)
      · go_wp2
        go_ret
        exact ⟨1048577, rfl, rfl, by omega, by omega⟩
      · by_cases q2 : 1048576 - z - (s.size : Int) < (v.size : Int)
        · have hd : decide (1048576 - z < (s.size : Int)) = false := by simpa using q1
          go_wp2
          go_ret
          exact ⟨1048577, rfl, rfl, by omega, by omega⟩
        · by_cases q3 : 1048576 - z - (s.size : Int) - (v.size : Int) < 32
          · go_wp2
            go_ret
            exact ⟨1048577, rfl, rfl, by omega, by omega⟩
          · go_wp2
            go_round
            case rel => exact ⟨k + 1, _, by omega, by go_num, rfl, by omega, by omega⟩
            case measure => simp [intOf]; omega
    · go_wp2
      go_ret
      exact ⟨z, rfl, rfl, by omega, by omega⟩

set_option maxRecDepth 100000 in
set_option maxHeartbeats 2000000 in
/-- zzBytes_... -/
theorem bytes9 (a a' : Option Addr) (n c n' c' : Nat) (cs cs' : List Cl) (i : Int) (x : ByteArray) (w : World) (hm : n ≤ maxLen) (hs : ∀ p ∈ cs, Good p) (h : CRow w a n cs) (hm' : n' ≤ maxLen) (hs' : ∀ p ∈ cs', Good p) (h' : CRow w a' n' cs') (hx : x.size ≤ maxLen) :
    Calls Try.prog 9 #[.slice a n c, .slice a' n' c', .int .i64 i, .string x] w (Tells w) := by
  unfold maxLen at hm hm' hx
  by_cases hn : 1048576 < n
  · clear hs h hs' h'
    go_enter Try.func9, Try.ntmps9
    go_wp2
    go_ret
    exact ⟨false, rfl, rfl⟩
  · go_enter Try.func9, Try.ntmps9
    go_wp2
    go_loop [9, 10] (fun t i => ∃ k : Nat, ∃ z : Int, k ≤ n ∧ i = .int .i64 k ∧ t = .int .i64 z ∧ 0 ≤ z ∧ z ≤ 1048576) (fun _ i => n - (intOf i).toNat)
    case atStart => exact ⟨0, n, Nat.zero_le _, rfl, by simp, by omega, by omega⟩
    case round =>
      obtain ⟨k, z, hk, rfl, rfl, hz0, hz1⟩ := hrel
      by_cases hlt : k < n
      · obtain ⟨b, off, rfl, hc⟩ := h.2 (by omega)
        obtain ⟨g1, g2⟩ := hc k hlt
        obtain ⟨s1, s2⟩ := good_at hs (k := k) (by rw [h.1]; exact hlt)
        unfold maxLen at s1 s2
        generalize (cs.getD k cz).1 = s at g1 s1
        generalize (cs.getD k cz).2 = v at g2 s2
        clear hc h hs h' hs'
        go_wp2
        · go_ret
          exact ⟨false, rfl, rfl⟩
        · go_ret
          exact ⟨false, rfl, rfl⟩
        · go_ret
          exact ⟨false, rfl, rfl⟩
        · go_ret
          exact ⟨false, rfl, rfl⟩
        · go_round
          case rel => exact ⟨k + 1, _, by omega, by go_num, rfl, by omega, by omega⟩
          case measure => simp [intOf]; omega
      · clear h hs
        by_cases hn' : 1048576 < n'
        · clear h' hs'
          go_wp2
          go_ret
          exact ⟨false, rfl, rfl⟩
        · by_cases hzn : 1048576 < z + (n' : Int)
          · clear h' hs'
            go_wp2
            go_ret
            exact ⟨false, rfl, rfl⟩
          · go_wp2
            go_loop [9, 11] (fun t i => ∃ k : Nat, ∃ z : Int, k ≤ n' ∧ i = .int .i64 k ∧ t = .int .i64 z ∧ 0 ≤ z ∧ z ≤ 1048576) (fun _ i => n' - (intOf i).toNat)
            case atStart => exact ⟨0, z + n', Nat.zero_le _, rfl, by simp, by omega, by omega⟩
            case round =>
              obtain ⟨k', z', hk', rfl, rfl, hz0', hz1'⟩ := hrel
              by_cases hlt' : k' < n'
              · obtain ⟨b, off, rfl, hc⟩ := h'.2 (by omega)
                obtain ⟨g1, g2⟩ := hc k' hlt'
                obtain ⟨s1, s2⟩ := good_at hs' (k := k') (by rw [h'.1]; exact hlt')
                unfold maxLen at s1 s2
                generalize (cs'.getD k' cz).1 = s at g1 s1
                generalize (cs'.getD k' cz).2 = v at g2 s2
                clear hc h' hs'
                go_wp2
                · go_ret
                  exact ⟨false, rfl, rfl⟩
                · go_ret
                  exact ⟨false, rfl, rfl⟩
                · go_ret
                  exact ⟨false, rfl, rfl⟩
                · go_ret
                  exact ⟨false, rfl, rfl⟩
                · go_round
                  case rel => exact ⟨k' + 1, _, by omega, by go_num, rfl, by omega, by omega⟩
                  case measure => simp [intOf]; omega
              · clear h' hs'
                go_wp2
                · go_ret
                  exact ⟨false, rfl, rfl⟩
                · go_ret
                  exact ⟨false, rfl, rfl⟩
                · go_ret
                  exact ⟨true, rfl, rfl⟩

end Go.Proofs.Qxb6619383a
