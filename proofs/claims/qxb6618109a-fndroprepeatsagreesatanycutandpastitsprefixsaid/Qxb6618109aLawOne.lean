/-
  MY OWN WORK (seat b6618109a). The walk of FnDropRepeatsKeepsEachFirstOccurrenceOnce.
-/
import Derived.Test.Qxb6618109aFirsts
import Derived.Test.Qxb6618109aDropWalk
namespace Go.Proofs.Qxb6618109a
open Go.RowKit

/-- zzCloneZZ, nil or not. -/
theorem clone_any (a : Option Addr) (n c : Nat) (ps : List Pb) (w : World) (hn : n ≤ 4096) (hr : PRow w a n ps) (hx : a = none → n = 0 ∧ c = 0) :
    Calls Try.prog 9 #[.slice a n c] w fun e w' => ∃ a' c', e = .returned (.slice a' n c') ∧ (a' = none → n = 0 ∧ c' = 0) ∧ PRow w' a' n ps ∧ Below w.heap.size w w' := by
  cases a with
  | none =>
    obtain ⟨rfl, rfl⟩ := hx rfl
    obtain rfl : ps = [] := List.eq_nil_of_length_eq_zero hr.1
    refine (clone_nil w).mono ?_
    rintro e w' ⟨rfl, rfl⟩
    exact ⟨none, 0, rfl, fun _ => ⟨rfl, rfl⟩, PRow.nil _ _, Below.refl _ _⟩
  | some x =>
    refine (clone_some x n c ps w hn hr).mono ?_
    rintro e w' ⟨rfl, rfl⟩
    exact ⟨_, n, rfl, (fun h => by cases h), row_new w ps 38 n hr.1, (Below.refl _ _).alloc (Nat.le_refl _) _⟩

theorem pv_new (w : World) (ps : List Pb) (q : Nat) (hn : ps.length ≤ 4096) : PV w.heap.size ((w.alloc (.cells (cells ps) 37)).drewN q) (.slice (some ⟨w.heap.size, 0, none⟩) ps.length ps.length) ps :=
  Or.inr ⟨_, _, ps, rfl, heap_alloc_new w _, rfl, by omega, by simp, Nat.le_refl _⟩

/-- zzProblemsAll. -/
theorem all_any (a : Option Addr) (n c : Nat) (ps : List Pb) (w : World) (hn : n ≤ 4096) (hr : PRow w a n ps) (hx : a = none → n = 0 ∧ c = 0) :
    Calls Try.prog 10 #[.slice a n c] w fun e w' => ∃ a' c', e = .returned (.slice a' n c') ∧ PV w.heap.size w' (.slice a' n c') ps ∧ Below w.heap.size w w' := by
  have hq : ∀ (w : World) (a : Option Addr) (n c : Nat), (binOp .eql 22 (.slice a n c) (.slice none 0 0)).run Try.prog w = .ok (.bool a.isNone) w := fun w a n c => Lib.run_eql_slice_nil w 22 38 a n c 0 0 Try.underlying22
  cases a with
  | none =>
    obtain ⟨rfl, rfl⟩ := hx rfl
    obtain rfl : ps = [] := List.eq_nil_of_length_eq_zero hr.1
    clear hx hr
    go_enter Try.func10, Try.ntmps10
    go_wp2
    go_ret
    exact ⟨none, 0, rfl, Or.inl ⟨rfl, rfl⟩, Below.refl _ _⟩
  | some x =>
    have F0 := range_any (some x) n c 0 n ps w hn (by omega) hr
    have e1 : (ps.drop 0).take n = ps := by rw [List.drop_zero, List.take_of_length_le (by rw [hr.1]; exact Nat.le_refl _)]
    rw [e1, Nat.zero_add] at F0
    have hpl := hr.1
    have F := hide F0
    have Hpl := hide hpl
    clear hx hr F0 e1 hpl
    go_enter Try.func10, Try.ntmps10
    go_wp2_with fail
    refine (unhide F).mono ?_
    rintro e w1 ⟨rfl, q, hw1⟩
    have Hw := hide hw1
    clear hw1 F hq
    go_wp2
    go_ret
    rw [unhide Hw]
    have hpl := unhide Hpl
    subst hpl
    exact ⟨_, _, rfl, pv_new w ps q hn, below_drewN ((Below.refl _ _).alloc (Nat.le_refl _) _) _⟩

theorem PV.alloc {B : Nat} {w : World} {v : Value} {ps : List Pb} (h : PV B w v ps) (o : Obj) : PV B (w.alloc o) v ps := h.kept ((Below.refl _ _).alloc (Nat.le_refl _) _) (Nat.le_refl _)
theorem PV.rowAt {B n c : Nat} {w : World} {a : Option Addr} {ps : List Pb} (h : PV B w (.slice a n c) ps) : PRow w a n ps := by
  obtain ⟨a', c', e, hr⟩ := h.row
  simp only [Value.slice.injEq] at e
  obtain ⟨rfl, rfl, rfl⟩ := e
  exact hr

theorem good_size {ps : List Pb} (h : ∀ q ∈ ps, Good q) : ∀ q ∈ ps, q.2.size ≤ maxLen := fun q hq => (h q hq).2
theorem good_drop {ps : List Pb} {m : Nat} (h : ∀ q ∈ ps, Good q) : ∀ q ∈ drop ps m, Good q := by
  intro q hq
  unfold drop at hq
  rcases List.mem_append.1 hq with h1 | h1
  · exact h q (List.mem_of_mem_take h1)
  · exact h q (List.mem_of_mem_drop ((mem_dd _ _).1 h1))

set_option maxRecDepth 100000 in
set_option maxHeartbeats 2000000 in
theorem law_one (a : Option Addr) (n c : Nat) (mI : Int) (ps : List Pb) (w : World) (hm : n ≤ maxLen) (hgood : ∀ q ∈ ps, Good q) (hr : PRow w a n ps) (hx : a = none → n = 0 ∧ c = 0) :
    Calls Try.prog 3 #[.slice a n c, .int .i64 mI] w fun e w' => e = .returned (.bool true) ∧ Below w.heap.size w w' := by
  have F7 := hide (bytes7 a n c mI ps w hm (good_size hgood) hr)
  have F8 := hide (tooBig_any a n c ps w hm (good_size hgood) hr)
  have Hgood := hide hgood
  have Hr := hide hr
  have Hx := hide hx
  unfold maxLen at hm
  clear hgood hr hx
  go_enter Try.func3, Try.ntmps3
  go_wp2_with fail
  refine (unhide F7).mono ?_
  rintro e w' ⟨b, rfl, hw, -⟩
  obtain rfl : w = w' := hw
  clear F7
  cases b
  · go_wp2_with fail
    go_ret
    exact ⟨rfl, Below.refl _ _⟩
  go_wp2_with fail
  refine (unhide F8).mono ?_
  rintro e w' ⟨b, rfl, hw, hb⟩
  obtain rfl : w = w' := hw
  clear F8
  cases b
  · have hn4 : n ≤ 4096 := hb rfl
    clear hb
    by_cases hneg : mI < 0
    · go_wp2_with fail
      go_ret
      exact ⟨rfl, Below.refl _ _⟩
    by_cases hbig : (n : Int) < mI
    · have hneg' : ¬ mI < 0 := hneg
      go_wp2_with fail
      go_ret
      exact ⟨rfl, Below.refl _ _⟩
    obtain ⟨m, rfl⟩ := Int.eq_ofNat_of_zero_le (show 0 ≤ mI by omega)
    have hmn : m ≤ n := by omega
    have hpl : ps.length = n := (unhide Hr).1
    have Hpl := hide hpl
    clear hpl
    go_wp2_with fail
    refine (clone_any a n c ps w hn4 (unhide Hr) (unhide Hx)).mono ?_
    rintro e w1 ⟨a1, c1, rfl, n1, r1, b1⟩
    have N1 := hide n1
    have R1 := hide r1
    have B1 := hide b1
    clear n1 r1 b1 Hr Hx
    go_wp2_with fail
    refine (all_any a1 n c1 ps w1 hn4 (unhide R1) (unhide N1)).mono ?_
    rintro e w2 ⟨a2, c2, rfl, pv2, b2⟩
    have R2 := hide pv2.rowAt
    have R12 := hide ((unhide R1).kept b2)
    have B2 := hide ((unhide B1).trans (b2.mono (unhide B1).size))
    clear pv2 b2 R1 B1
    go_wp2_with fail
    refine (all_any a1 n c1 ps w2 hn4 (unhide R12) (unhide N1)).mono ?_
    rintro e w3 ⟨a3, c3, rfl, pv3, b3⟩
    have PV3 := hide pv3
    have B3 := hide b3
    clear pv3 b3 R12 N1
    go_wp2_with fail
    have K4 := hide ((unhide B3).alloc (unhide B3).size (.cells #[.slice a3 n c3] 27))
    refine (zzdrop_any w2.heap.size w3.heap.size m (.slice a3 n c3) ps _ (heap_alloc_new w3 _) ((unhide PV3).alloc _) (by rw [unhide Hpl]; exact hmn) (unhide Hgood) (unhide B3).size).mono ?_
    rintro e w5 ⟨rfl, ⟨v5, hp5, pv5⟩, b5⟩
    have K5 := hide ((unhide K4).trans b5)
    obtain ⟨a5, c5, hv5, r5⟩ := pv5.row
    rw [hv5] at hp5
    have hl5 := length_drop ps m (by rw [unhide Hpl]; exact hmn)
    rw [unhide Hpl] at hl5
    generalize hnr : (drop ps m).length = nr at hp5 r5 hl5
    have Hnr := hide hnr
    have hc5 : w5.cell? ⟨w3.heap.size, 0, none⟩ = some (.slice a5 nr c5) := by rw [cell_of_row w5 _ 0 _ 27 (0, 0) hp5]; rfl
    have R5 := hide r5
    have HP5 := hide hp5
    have R25 := hide ((unhide R2).kept (unhide K5))
    clear hv5 pv5 b5 K4 PV3 r5 hp5 hnr
    go_wp2_with fail
    refine (firsts_yes a2 a5 n c2 c5 m nr ps w5 hn4 hmn (unhide Hnr).symm (unhide R25) (unhide R5)).mono ?_
    rintro e w6 ⟨rfl, b6⟩
    have hc6 : w6.cell? ⟨w3.heap.size, 0, none⟩ = some (.slice a5 nr c5) := (b6.cell (p := ⟨w3.heap.size, 0, none⟩) (lt_of_block (unhide HP5))).trans hc5
    have R6 := hide ((unhide R5).kept b6)
    have B6 := hide b6
    clear R25 b6 hc5
    go_wp2_with fail
    refine (copy_any a5 nr c5 (drop ps m) w6 (by omega) (unhide R6)).mono ?_
    rintro e w7 ⟨rfl, rfl⟩
    go_wp2_with fail
    have pv8 : PV w6.heap.size ((w6.alloc (.cells (cells (drop ps m)) 37)).alloc (.cells #[.slice (some ⟨w6.heap.size, 0, none⟩) nr nr] 27)) (.slice (some ⟨w6.heap.size, 0, none⟩) nr nr) (drop ps m) := by
      have h0 := pv_new w6 (drop ps m) 0 (by rw [unhide Hnr]; omega)
      rw [unhide Hnr] at h0
      exact PV.alloc (w := w6.alloc (.cells (cells (drop ps m)) 37)) h0 _
    have PV8 := hide pv8
    clear pv8
    refine (zzdrop_any w6.heap.size (w6.heap.size + 1) m (.slice (some ⟨w6.heap.size, 0, none⟩) nr nr) (drop ps m) _ (heap_alloc2_new w6 _ _) (unhide PV8) (by rw [unhide Hnr]; omega) (good_drop (unhide Hgood)) (by omega)).mono ?_
    rintro e w9 ⟨rfl, ⟨v9, hp9, pv9⟩, b9⟩
    rw [drop_twice ps m (by rw [unhide Hpl]; exact hmn)] at pv9
    obtain ⟨a9, c9, hv9, r9⟩ := pv9.row
    rw [hv9] at hp9
    rw [unhide Hnr] at r9 hp9
    have hc9 : w9.cell? ⟨w6.heap.size + 1, 0, none⟩ = some (.slice a9 nr c9) := by rw [cell_of_row w9 _ 0 _ 27 (0, 0) hp9]; rfl
    have K9 := hide ((((Below.refl w6.heap.size w6).alloc (Nat.le_refl _) (.cells (cells (drop ps m)) 37)).alloc (by simp) (.cells #[.slice (some ⟨w6.heap.size, 0, none⟩) nr nr] 27)).trans b9)
    have hlt6 : w3.heap.size < w6.heap.size := Nat.lt_of_lt_of_le (lt_of_block (unhide HP5)) (unhide B6).size
    have hc69 : w9.cell? ⟨w3.heap.size, 0, none⟩ = some (.slice a5 nr c5) := ((unhide K9).cell (p := ⟨w3.heap.size, 0, none⟩) hlt6).trans hc6
    have R9 := hide r9
    have R59 := hide ((unhide R6).kept (unhide K9))
    have BB := hide ((((unhide B2).trans ((unhide K5).mono (unhide B2).size)).trans ((unhide B6).mono (Nat.le_trans (unhide B2).size (unhide K5).size))).trans ((unhide K9).mono (Nat.le_trans (Nat.le_trans (unhide B2).size (unhide K5).size) (unhide B6).size)))
    clear hv9 pv9 b9 PV8 r9 hp9 hc6 R6 hlt6
    go_wp2_with fail
    refine (same_yes a9 a5 nr c9 c5 (drop ps m) w9 (by omega) (unhide R9) (unhide R59)).mono ?_
    rintro e w10 ⟨rfl, b10⟩
    have B10 := hide ((unhide BB).trans (b10.mono (unhide BB).size))
    clear b10
    go_wp2_with fail
    go_ret
    exact ⟨rfl, unhide B10⟩
  · go_wp2_with fail
    go_ret
    exact ⟨rfl, Below.refl _ _⟩

end Go.Proofs.Qxb6618109a
