/-
  MY OWN WORK (seat b6618037a). zzCloneBytes, zzCatBytes: they make a row of their own and fill it.
-/
import Derived.Test.Qxb6618037aMem
import Derived.Deep.OwnRows
namespace Go.Proofs.Qxb6618037a
open Go.RowKit

theorem Try.info5 : (Try.prog.info? 5).map (fun i => (i.zero, i.size, i.bytes)) = some (some (.int .u8 0), 1, 1) := by kernel_rfl

/-- A row of n cells of which the first k are filled. -/
def fill (zs : List Int) (n k : Nat) : Array Value := ((List.range n).map fun i => Value.int .u8 (if i < k then zs.getD i 0 else 0)).toArray

theorem size_fill (zs : List Int) (n k : Nat) : (fill zs n k).size = n := by simp [fill]
theorem fill_zero (zs : List Int) (n : Nat) : madeCells #[.int .u8 0] n = fill zs n 0 := by
  apply Array.ext_getElem?
  intro i
  by_cases h : i < n
  · simp [madeCells, fill, h, Nat.mod_one]
  · simp [madeCells, fill, h]
theorem fill_set (zs : List Int) (n k : Nat) : (fill zs n k).setIfInBounds k (.int .u8 (zs[k]?.getD 0)) = fill zs n (k + 1) := by
  apply Array.ext_getElem?
  intro i
  rw [Array.getElem?_setIfInBounds]
  by_cases h : i < n
  · by_cases hk : k = i
    · subst hk
      simp [fill, h]
    · rw [if_neg hk]
      have : (i < k + 1) = (i < k) := by rw [eq_iff_iff]; omega
      simp [fill, h, this]
  · by_cases hk : k = i
    · subst hk; simp [fill, h]
    · rw [if_neg hk]; simp [fill, h]
theorem fill_all (zs : List Int) (n : Nat) (h : zs.length = n) : fill zs n n = (zs.map (Value.int .u8)).toArray := by
  apply Array.ext_getElem?
  intro i
  by_cases hi : i < n
  · simp [fill, hi, h]
  · simp [fill, hi, h]
theorem fill_cell (zs : List Int) (n k : Nat) (h : k < n) : ∃ v, (fill zs n k)[k]? = some v := ⟨_, by simp [fill, h]; rfl⟩

/-- zzCloneBytes of nil. -/
theorem clone_nil (w : World) : Calls Try.prog 6 #[.slice none 0 0] w fun e w' => e = .returned (.slice none 0 0) ∧ w' = w := by
  have hq : ∀ (w : World) (a : Option Addr) (n c : Nat), (binOp .eql 22 (.slice a n c) (.slice none 0 0)).run Try.prog w = .ok (.bool a.isNone) w := fun w a n c => Lib.run_eql_slice_nil w 22 5 a n c 0 0 Try.underlying22
  go_enter Try.func6, Try.ntmps6
  go_wp2
  go_ret
  exact ⟨rfl, rfl⟩

/-- zzCloneBytes of a slice that is not nil. -/
theorem clone_some (x : Addr) (n c : Nat) (zs : List Int) (w : World) (hn : n ≤ 1048576) (hr : Row w (some x) n zs) :
    Calls Try.prog 6 #[.slice (some x) n c] w fun e w' => e = .returned (.slice (some ⟨w.heap.size, 0, none⟩) n n) ∧ w' = w.alloc (.cells (zs.map (Value.int .u8)).toArray 5) := by
  have hq : ∀ (w : World) (a : Option Addr) (n c : Nat), (binOp .eql 22 (.slice a n c) (.slice none 0 0)).run Try.prog w = .ok (.bool a.isNone) w := fun w a n c => Lib.run_eql_slice_nil w 22 5 a n c 0 0 Try.underlying22
  have hmk := fun w => run_make_row' (P := Try.prog) 22 5 (.int .u8 0) 1 Try.underlying22 Try.info5 rfl .i64 .i64 n (by omega) (by omega) w
  rw [fill_zero zs] at hmk
  go_enter Try.func6, Try.ntmps6
  go_wp2
  clear hmk hq
  go_loopw [4] (fun i wr => ∃ k : Nat, k ≤ n ∧ i = .int .i64 k ∧ wr = w.alloc (.cells (fill zs n k) 5)) (fun i _ => n - (intOf i).toNat)
  case atStart => exact ⟨0, Nat.zero_le _, rfl, rfl⟩
  case round =>
    obtain ⟨k, hk, rfl, rfl⟩ := hrel
    by_cases hlt : k < n
    · obtain ⟨ba, oa, ex, hca⟩ := hr.2 (by omega)
      obtain rfl := Option.some.inj ex
      have g1 := hca k (by omega)
      have hbl := World.block_lt_of_cell? w _ g1
      have hi1 : (k : Int) < (n : Int) := by omega
      obtain ⟨v, hv⟩ := fill_cell zs n k hlt
      simp only at hbl
      have hs := fill_set zs n k
      have HS : Hid ((fill zs n k).setIfInBounds k (.int .u8 (zs[k]?.getD 0)) = fill zs n (k + 1)) := hs
      clear hca hr hs ex
      go_wp2
      go_roundw
      case rel => exact ⟨k + 1, by omega, by go_num, by rw [HS.out]⟩
      case measure => simp [intOf]; omega
    · go_wp2
      go_ret
      exact ⟨rfl, by rw [← fill_all zs n hr.1, show k = n by omega]⟩

/-- zzCatBytes. -/
theorem cat_any (a b : Option Addr) (la ca lb cb : Nat) (za zb : List Int) (w : World) (hn : la + lb ≤ 1048576) (ha : Row w a la za) (hb : Row w b lb zb) :
    Calls Try.prog 12 #[.slice a la ca, .slice b lb cb] w fun e w' => e = .returned (.slice (some ⟨w.heap.size, 0, none⟩) (la + lb) (la + lb)) ∧ w' = w.alloc (.cells ((za ++ zb).map (Value.int .u8)).toArray 5) := by
  have hmk := fun w => run_make_row' (P := Try.prog) 22 5 (.int .u8 0) 1 Try.underlying22 Try.info5 rfl .i64 .i64 (la + lb) (by omega) (by omega) w
  rw [fill_zero (za ++ zb)] at hmk
  have ec : ((la + lb : Nat) : Int) = (la : Int) + (lb : Int) := by omega
  rw [ec] at hmk
  clear ec
  go_enter Try.func12, Try.ntmps12
  go_wp2
  clear hmk
  go_loopw [6] (fun i wr => ∃ k : Nat, k ≤ la ∧ i = .int .i64 k ∧ wr = w.alloc (.cells (fill (za ++ zb) (la + lb) k) 5)) (fun i _ => la - (intOf i).toNat)
  case atStart => exact ⟨0, Nat.zero_le _, rfl, rfl⟩
  case round =>
    obtain ⟨k, hk, rfl, rfl⟩ := hrel
    by_cases hlt : k < la
    · obtain ⟨ba, oa, rfl, hca⟩ := ha.2 (by omega)
      have g1 := hca k (by omega)
      have hbl := World.block_lt_of_cell? w _ g1
      have hi1 : (k : Int) < (la : Int) := by omega
      have hi2 : (k : Int) < (la : Int) + (lb : Int) := by omega
      obtain ⟨v, hv⟩ := fill_cell (za ++ zb) (la + lb) k (by omega)
      simp only at hbl
      have hs := fill_set (za ++ zb) (la + lb) k
      have e1 : (za ++ zb)[k]? = za[k]? := List.getElem?_append_left (by rw [ha.1]; omega)
      rw [e1] at hs
      have HS : Hid ((fill (za ++ zb) (la + lb) k).setIfInBounds k (.int .u8 (za[k]?.getD 0)) = fill (za ++ zb) (la + lb) (k + 1)) := hs
      clear hca ha hb hs e1
      go_wp2
      go_roundw
      case rel => exact ⟨k + 1, by omega, by go_num, by rw [HS.out]⟩
      case measure => simp [intOf]; omega
    · obtain rfl : k = la := by omega
      go_wp2
      go_loopw [7] (fun i wr => ∃ j : Nat, j ≤ lb ∧ i = .int .i64 j ∧ wr = w.alloc (.cells (fill (za ++ zb) (k + lb) (k + j)) 5)) (fun i _ => lb - (intOf i).toNat)
      case atStart => exact ⟨0, Nat.zero_le _, rfl, rfl⟩
      case round =>
        obtain ⟨j, hj, rfl, rfl⟩ := hrel
        by_cases hlt : j < lb
        · obtain ⟨ba, oa, rfl, hca⟩ := hb.2 (by omega)
          have g1 := hca j (by omega)
          have hbl := World.block_lt_of_cell? w _ g1
          have hi1 : (j : Int) < (lb : Int) := by omega
          have hi2 : (k : Int) + (j : Int) < (k : Int) + (lb : Int) := by omega
          obtain ⟨v, hv⟩ := fill_cell (za ++ zb) (k + lb) (k + j) (by omega)
          simp only at hbl
          have hs := fill_set (za ++ zb) (k + lb) (k + j)
          have e1 : (za ++ zb)[k + j]? = zb[j]? := by rw [List.getElem?_append_right (by rw [ha.1]; omega), ha.1]; congr 1; omega
          rw [e1] at hs
          have HS : Hid ((fill (za ++ zb) (k + lb) (k + j)).setIfInBounds (k + j) (.int .u8 (zb[j]?.getD 0)) = fill (za ++ zb) (k + lb) (k + j + 1)) := hs
          clear hca ha hb hs e1
          go_wp2
          go_roundw
          case rel => exact ⟨j + 1, by omega, by go_num, by rw [HS.out]; rfl⟩
          case measure => simp [intOf]; omega
        · go_wp2
          go_ret
          exact ⟨rfl, by rw [← fill_all (za ++ zb) (k + lb) (by simp [ha.1, hb.1]), show j = lb by omega]⟩

end Go.Proofs.Qxb6618037a
