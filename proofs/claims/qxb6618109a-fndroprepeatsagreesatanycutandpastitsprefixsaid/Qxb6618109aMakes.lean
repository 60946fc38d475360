/-
  MY OWN WORK (seat b6618109a). zzCloneZZ, zzProblemsRange, zzProblemsAll, zzCopyProblems: each makes a row of its own and fills it.
-/
import Derived.Test.Qxb6618109aMem
namespace Go.Proofs.Qxb6618109a
open Go.RowKit

theorem Try.info37 : (Try.prog.info? 37).map (fun i => (i.zero, i.size, i.bytes)) = some (some (.agg #[.int .i64 0, .string ByteArray.empty]), 2, 24) := by kernel_rfl
theorem Try.info38 : (Try.prog.info? 38).map (fun i => (i.zero, i.size, i.bytes)) = some (some (.agg #[.int .i64 0, .string ByteArray.empty]), 2, 24) := by kernel_rfl

/-- The cells of a row of problems. -/
def flat (ps : List Pb) : List Value := ps.flatMap fun p => [.int .i64 p.1, .string p.2]
theorem flat_cons (p : Pb) (ps : List Pb) : flat (p :: ps) = .int .i64 p.1 :: .string p.2 :: flat ps := rfl
theorem flat_append (ps qs : List Pb) : flat (ps ++ qs) = flat ps ++ flat qs := by simp [flat]
theorem length_flat : ∀ ps : List Pb, (flat ps).length = ps.length * 2
  | [] => rfl
  | p :: r => by rw [flat_cons]; simp [length_flat r]; omega
theorem flat_at : ∀ (ps : List Pb) (k : Nat), k < ps.length → (flat ps)[k * 2]? = some (.int .i64 (ps.getD k pz).1) ∧ (flat ps)[k * 2 + 1]? = some (.string (ps.getD k pz).2)
  | [], k, h => by simp at h
  | p :: r, 0, _ => by rw [flat_cons]; simp
  | p :: r, k + 1, h => by
    have := flat_at r k (by simpa using h)
    rw [flat_cons]
    rw [show (k + 1) * 2 = k * 2 + 2 from by omega]
    simpa using this
theorem flat_set : ∀ (ps : List Pb) (k : Nat) (p : Pb), k < ps.length → ((flat ps).set (k * 2) (.int .i64 p.1)).set (k * 2 + 1) (.string p.2) = flat (ps.set k p)
  | [], k, _, h => by simp at h
  | q :: r, 0, p, _ => by rw [flat_cons]; simp [flat_cons]
  | q :: r, k + 1, p, h => by
    have := flat_set r k p (by simpa using h)
    rw [flat_cons, show (k + 1) * 2 = k * 2 + 2 from by omega]
    simp [flat_cons, ← this]
/-- The row's block. -/
def cells (ps : List Pb) : Array Value := (flat ps).toArray
theorem size_cells (ps : List Pb) : (cells ps).size = ps.length * 2 := by simp [cells, length_flat]
theorem cells_at0 (ps : List Pb) (k : Nat) (h : k < ps.length) : (cells ps)[k * 2]? = some (.int .i64 (ps.getD k pz).1) := by
  simpa [cells] using (flat_at ps k h).1
theorem cells_at1 (ps : List Pb) (k : Nat) (h : k < ps.length) : (cells ps)[k * 2 + 1]? = some (.string (ps.getD k pz).2) := by
  simpa [cells] using (flat_at ps k h).2
theorem cells_set (ps : List Pb) (k : Nat) (p : Pb) (h : k < ps.length) : ((cells ps).setIfInBounds (k * 2) (.int .i64 p.1)).setIfInBounds (k * 2 + 1) (.string p.2) = cells (ps.set k p) := by
  unfold cells
  rw [← flat_set ps k p h]
  simp
theorem cells_made (n : Nat) : madeCells #[.int .i64 0, .string ByteArray.empty] (n * 2) = cells (List.replicate n pz) := by
  have hz : ∀ n, flat (List.replicate n pz) = (List.range (n * 2)).map fun j => if j % 2 = 0 then Value.int .i64 0 else .string ByteArray.empty := by
    intro n
    induction n with
    | zero => rfl
    | succ n ih =>
      rw [List.replicate_succ', flat_append, ih, show (n + 1) * 2 = n * 2 + 1 + 1 from by omega, List.range_succ, List.range_succ]
      simp [flat, pz, show (n * 2 + 1) % 2 = 1 from by omega]
  apply Array.ext'
  unfold cells
  rw [List.toList_toArray, hz]
  simp only [madeCells, Array.toList_map, Array.toList_range]
  apply List.map_congr_left
  intro j _
  rcases Nat.mod_two_eq_zero_or_one j with h | h
  · simp [h]
  · simp [h]

/-- A row of n problems of which the first k are filled. -/
def pfill (ps : List Pb) (n k : Nat) : List Pb := ps.take k ++ List.replicate (n - k) pz
theorem length_pfill (ps : List Pb) (n k : Nat) (h : ps.length = n) (hk : k ≤ n) : (pfill ps n k).length = n := by simp [pfill]; omega
theorem pfill_zero (ps : List Pb) (n : Nat) : List.replicate n pz = pfill ps n 0 := by simp [pfill]
theorem pfill_all (ps : List Pb) (n : Nat) (h : ps.length = n) : pfill ps n n = ps := by simp [pfill, ← h]
theorem pfill_set (ps : List Pb) (n k : Nat) (h : ps.length = n) (hk : k < n) : (pfill ps n k).set k (ps.getD k pz) = pfill ps n (k + 1) := by
  have hk' : k < ps.length := by omega
  have e1 : n - k = (n - (k + 1)) + 1 := by omega
  unfold pfill
  rw [e1, List.replicate_succ, List.set_append_right _ _ (by simp; omega)]
  have e2 : k - (ps.take k).length = 0 := by simp; omega
  rw [e2, List.set_cons_zero, List.take_succ_eq_append_getElem hk', List.append_assoc]
  simp [hk']

theorem run_make_pbs (t e : TypeId) (ht : Try.prog.underlying t = some (.slice e)) (hinfo : (Try.prog.info? e).map (fun i => (i.zero, i.size, i.bytes)) = some (some (.agg #[.int .i64 0, .string ByteArray.empty]), 2, 24)) (ps : List Pb) (n : Nat) (hn : n ≤ 1048576) (w : World) :
    (Instr.makeSlice t (.int .i64 (n : Int)) (.int .i64 (n : Int))).run Try.prog w = .ok (.slice (some ⟨w.heap.size, 0, none⟩) n n) (w.alloc (.cells (cells (pfill ps n 0)) e)) := by
  obtain ⟨i, hi, hz, hs, hb⟩ := info_parts hinfo
  have hr := run_make (P := Try.prog) w t e i _ ht hi hz .i64 .i64 n n (by omega) (Int.le_refl _) (by rw [hb]; omega) (by omega)
  simp only [Int.toNat_natCast, hs] at hr
  rw [hr, ← pfill_zero, ← cells_made]
  rfl

theorem setCell_drewN (w : World) (n : Nat) (a : Addr) (v : Value) : (w.drewN n).setCell a v = (w.setCell a v).drewN n := rfl

theorem clone_nil (w : World) : Calls Try.prog 9 #[.slice none 0 0] w fun e w' => e = .returned (.slice none 0 0) ∧ w' = w := by
  have hq : ∀ (w : World) (a : Option Addr) (n c : Nat), (binOp .eql 22 (.slice a n c) (.slice none 0 0)).run Try.prog w = .ok (.bool a.isNone) w := fun w a n c => Lib.run_eql_slice_nil w 22 38 a n c 0 0 Try.underlying22
  go_enter Try.func9, Try.ntmps9
  go_wp2
  go_ret
  exact ⟨rfl, rfl⟩

theorem clone_some (x : Addr) (n c : Nat) (ps : List Pb) (w : World) (hn : n ≤ 4096) (hr : PRow w (some x) n ps) :
    Calls Try.prog 9 #[.slice (some x) n c] w fun e w' => e = .returned (.slice (some ⟨w.heap.size, 0, none⟩) n n) ∧ w' = w.alloc (.cells (cells ps) 38) := by
  have hq : ∀ (w : World) (a : Option Addr) (n c : Nat), (binOp .eql 22 (.slice a n c) (.slice none 0 0)).run Try.prog w = .ok (.bool a.isNone) w := fun w a n c => Lib.run_eql_slice_nil w 22 38 a n c 0 0 Try.underlying22
  have hmk := run_make_pbs 22 38 Try.underlying22 Try.info38 ps n (by omega)
  go_enter Try.func9, Try.ntmps9
  go_wp2
  clear hmk hq
  go_loopw [4] (fun i wr => ∃ k : Nat, k ≤ n ∧ i = .int .i64 k ∧ wr = w.alloc (.cells (cells (pfill ps n k)) 38)) (fun i _ => n - (intOf i).toNat)
  case atStart => exact ⟨0, Nat.zero_le _, rfl, rfl⟩
  case round =>
    obtain ⟨k, hk, rfl, rfl⟩ := hrel
    by_cases hlt : k < n
    · obtain ⟨ba, oa, ex, hca⟩ := hr.2 (by omega)
      obtain rfl := Option.some.inj ex
      obtain ⟨g1, g2⟩ := hca k (by omega)
      have hbl := World.block_lt_of_cell? w _ g1
      have hi1 : (k : Int) < (n : Int) := by omega
      simp only at hbl
      have hl := length_pfill ps n k hr.1 hk
      have v1 := cells_at0 (pfill ps n k) k (by omega)
      have v2 := cells_at1 (pfill ps n k) k (by omega)
      have HS := hide (cells_set (pfill ps n k) k (ps.getD k pz) (by omega))
      rw [pfill_set ps n k hr.1 hlt] at HS
      generalize (pfill ps n k).getD k pz = old at v1 v2
      generalize ps.getD k pz = new at g1 g2 HS
      clear hca hr ex hl
      go_wp2
      go_roundw
      case rel => exact ⟨k + 1, by omega, by go_num, by rw [unhide HS]⟩
      case measure => simp [intOf]; omega
    · go_wp2
      go_ret
      exact ⟨rfl, by rw [show k = n by omega, pfill_all ps n hr.1]⟩

/-- A row that was just laid. -/
theorem row_new (w : World) (ps : List Pb) (t : TypeId) (n : Nat) (hn : ps.length = n) : PRow (w.alloc (.cells (cells ps) t)) (some ⟨w.heap.size, 0, none⟩) n ps := by
  refine ⟨hn, fun _ => ⟨_, _, rfl, fun i hi => ?_⟩⟩
  rw [Nat.zero_add, World.cell?_alloc_new, World.cell?_alloc_new]
  exact ⟨cells_at0 ps i (by omega), cells_at1 ps i (by omega)⟩

/-- A row's block, read as a row. -/
theorem row_block {w : World} {g m n : Nat} {R ps : List Pb} {t : TypeId} {f : Nat × Nat} (h : w.heap[g]? = some (.cells (cells R) t f)) (hm : m ≤ R.length) (e : R.take m = ps) (hn : ps.length = n) : PRow w (some ⟨g, 0, none⟩) n ps := by
  have hmn : m = n := by rw [← hn, ← e]; simp; omega
  subst hmn
  refine ⟨hn, fun _ => ⟨_, _, rfl, fun i hi => ?_⟩⟩
  have e1 : ps.getD i pz = R.getD i pz := by rw [← e]; simp [hi]
  rw [Nat.zero_add, e1, cell_of_row w g _ _ t f h, cell_of_row w g _ _ t f h]
  exact ⟨cells_at0 R i (by omega), cells_at1 R i (by omega)⟩

/-- zzCopyProblems. -/
theorem copy_any (a : Option Addr) (n c : Nat) (ps : List Pb) (w : World) (hn : n ≤ 4096) (hr : PRow w a n ps) :
    Calls Try.prog 13 #[.slice a n c] w fun e w' => e = .returned (.slice (some ⟨w.heap.size, 0, none⟩) n n) ∧ w' = w.alloc (.cells (cells ps) 37) := by
  have hmk := run_make_pbs 27 37 Try.underlying27 Try.info37 ps n (by omega)
  go_enter Try.func13, Try.ntmps13
  go_wp2
  clear hmk
  go_loopw [4] (fun i wr => ∃ k : Nat, k ≤ n ∧ i = .int .i64 k ∧ wr = w.alloc (.cells (cells (pfill ps n k)) 37)) (fun i _ => n - (intOf i).toNat)
  case atStart => exact ⟨0, Nat.zero_le _, rfl, rfl⟩
  case round =>
    obtain ⟨k, hk, rfl, rfl⟩ := hrel
    by_cases hlt : k < n
    · obtain ⟨ba, oa, rfl, hca⟩ := hr.2 (by omega)
      obtain ⟨g1, g2⟩ := hca k (by omega)
      have hbl := World.block_lt_of_cell? w _ g1
      have hi1 : (k : Int) < (n : Int) := by omega
      simp only at hbl
      have hl := length_pfill ps n k hr.1 hk
      have v1 := cells_at0 (pfill ps n k) k (by omega)
      have v2 := cells_at1 (pfill ps n k) k (by omega)
      have HS := hide (cells_set (pfill ps n k) k (ps.getD k pz) (by omega))
      rw [pfill_set ps n k hr.1 hlt] at HS
      generalize (pfill ps n k).getD k pz = old at v1 v2
      generalize ps.getD k pz = new at g1 g2 HS
      clear hca hr hl
      go_wp2
      go_roundw
      case rel => exact ⟨k + 1, by omega, by go_num, by rw [unhide HS]⟩
      case measure => simp [intOf]; omega
    · go_wp2
      go_ret
      exact ⟨rfl, by rw [show k = n by omega, pfill_all ps n hr.1]⟩

/-- zzProblemsRange. -/
theorem range_any (a : Option Addr) (n c lo m : Nat) (ps : List Pb) (w : World) (hn : n ≤ 4096) (hlo : lo + m ≤ n) (hr : PRow w a n ps) :
    Calls Try.prog 16 #[.slice a n c, .int .i64 lo, .int .i64 (lo + m : Nat)] w fun e w' => e = .returned (.slice (some ⟨w.heap.size, 0, none⟩) m m) ∧ ∃ q, w' = (w.alloc (.cells (cells ((ps.drop lo).take m)) 37)).drewN q := by
  have hml : ((ps.drop lo).take m).length = m := by have := hr.1; simp; omega
  have hmk := run_make_pbs 27 37 Try.underlying27 Try.info37 ((ps.drop lo).take m) m (by omega)
  have hat : ∀ k, k < m → ((ps.drop lo).take m).getD k pz = ps.getD (lo + k) pz := by
    intro k hk
    simp [hk, List.getElem?_drop]
  have es : ((lo + m : Nat) : Int) - (lo : Int) = (m : Int) := by omega
  generalize (ps.drop lo).take m = qs at hml hmk hat
  have Hq := hide hml
  have Ha := hide hat
  clear hml hat
  have hlm : ((lo + m : Nat) : Int) ≤ 4096 := by omega
  generalize hhi : lo + m = hi at hlm es
  have Hhi := hide hhi
  clear hhi
  go_enter Try.func16, Try.ntmps16
  go_wp2
  clear hmk
  go_loopw [8] (fun i wr => ∃ k : Nat, k ≤ m ∧ i = .int .i64 (lo + k : Nat) ∧ ∃ q, wr = (w.alloc (.cells (cells (pfill qs m k)) 37)).drewN q) (fun i _ => lo + m - (intOf i).toNat)
  case atStart => exact ⟨0, Nat.zero_le _, rfl, 0, rfl⟩
  case round =>
    obtain ⟨k, hk, rfl, q, rfl⟩ := hrel
    have ehi : (hi : Int) = (lo : Int) + (m : Int) := by have := unhide Hhi; omega
    by_cases hlt : k < m
    · obtain ⟨ba, oa, rfl, hca⟩ := hr.2 (by omega)
      obtain ⟨g1, g2⟩ := hca (lo + k) (by omega)
      have hbl := World.block_lt_of_cell? w _ g1
      have hi1 : (lo : Int) + (k : Int) < (n : Int) := by omega
      have hi2 : (k : Int) < (m : Int) := by omega
      have hi3 : (lo : Int) + (k : Int) < (hi : Int) := by omega
      simp only at hbl
      have hl := length_pfill qs m k (unhide Hq) hk
      have v1 := cells_at0 (pfill qs m k) k (by omega)
      have v2 := cells_at1 (pfill qs m k) k (by omega)
      have HS := hide (cells_set (pfill qs m k) k (qs.getD k pz) (by omega))
      rw [pfill_set qs m k (unhide Hq) hlt, (unhide Ha) k hlt] at HS
      generalize (pfill qs m k).getD k pz = old at v1 v2
      generalize ps.getD (lo + k) pz = new at g1 g2 HS
      have f1 : (w.alloc (.cells (cells (pfill qs m k)) 37)).cell? ⟨ba, oa + (lo + k) * 2, none⟩ = some (.int .i64 new.1) := by rw [World.cell?_alloc_past _ _ _ hbl]; exact g1
      have f2 : (w.alloc (.cells (cells (pfill qs m k)) 37)).cell? ⟨ba, oa + (lo + k) * 2 + 1, none⟩ = some (.string new.2) := by rw [World.cell?_alloc_past _ _ _ hbl]; exact g2
      clear hca hr hl ehi es g1 g2
      go_wp2
      go_region
      all_goals go_wp2
      go_roundw
      case rel => exact ⟨k + 1, by omega, by go_num, q + 1, by rw [setCell_drewN, setCell_drewN, World.setCell_alloc_at _ _ _ _ _ rfl, World.setCell_alloc_at _ _ _ _ _ rfl, unhide HS]⟩
      case measure => simp [intOf]; omega
    · have hi3 : ¬ (lo : Int) + (k : Int) < (hi : Int) := by omega
      clear ehi es
      go_wp2
      go_ret
      exact ⟨rfl, q, by rw [show k = m by omega, pfill_all qs m (unhide Hq)]⟩

end Go.Proofs.Qxb6618109a
