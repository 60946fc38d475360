/-
  MY OWN WORK (seat b6618109a). zzEq, zzSame, zzFirstIndex.
-/
import Derived.Test.Qxb6618109aMap
namespace Go.Proofs.Qxb6618109a
open Go.RowKit

/-- zzEq: it lays its two arguments in memory and looks. -/
theorem eq_any (p q : Pb) (w : World) :
    Calls Try.prog 27 #[.agg #[.int .i64 p.1, .string p.2], .agg #[.int .i64 q.1, .string q.2]] w fun e w' => e = .returned (.bool (decide (p = q))) ∧
      w' = (w.alloc (.cells #[.int .i64 p.1, .string p.2] 37)).alloc (.cells #[.int .i64 q.1, .string q.2] 37) := by
  obtain ⟨a, s⟩ := p
  obtain ⟨b, t⟩ := q
  simp only
  by_cases h1 : a = b
  · subst h1
    by_cases h2 : s = t
    · subst h2
      go_enter Try.func27, Try.ntmps27
      go_wp2
      go_ret
      exact ⟨by simp, rfl⟩
    · have h3 : (s.toList == t.toList) = false := by
        rw [beq_eq_false_iff_ne]
        intro e
        rw [ByteArray.toList_eq, ByteArray.toList_eq] at e
        exact h2 (ByteArray.ext (Array.ext' e))
      go_enter Try.func27, Try.ntmps27
      go_wp2
      go_ret
      exact ⟨by simp [h2], rfl⟩
  · have h3 : (a == b) = false := by simp [h1]
    go_enter Try.func27, Try.ntmps27
    go_wp2
    go_ret
    exact ⟨by simp [h1], rfl⟩

/-- zzSame of two equal rows. -/
theorem same_yes (a b : Option Addr) (n ca cb : Nat) (ps : List Pb) (w : World) (hn : n ≤ 8192) (ha : PRow w a n ps) (hb : PRow w b n ps) :
    Calls Try.prog 14 #[.slice a n ca, .slice b n cb] w fun e w' => e = .returned (.bool true) ∧ Below w.heap.size w w' := by
  go_enter Try.func14, Try.ntmps14
  go_wp2
  go_loopw [5] (fun i wr => ∃ k : Nat, k ≤ n ∧ i = .int .i64 k ∧ Below w.heap.size w wr) (fun i _ => n - (intOf i).toNat)
  case atStart => exact ⟨0, Nat.zero_le _, rfl, Below.refl _ _⟩
  case round =>
    obtain ⟨k, hk, rfl, hB⟩ := hrel
    by_cases hlt : k < n
    · obtain ⟨ba, oa, rfl, hca⟩ := (ha.kept hB).2 (by omega)
      obtain ⟨bb, ob, rfl, hcb⟩ := (hb.kept hB).2 (by omega)
      obtain ⟨g1, g2⟩ := hca k hlt
      obtain ⟨g3, g4⟩ := hcb k hlt
      have hi1 : (k : Int) < (n : Int) := by omega
      generalize ps.getD k pz = p at g1 g2 g3 g4
      have HB := hide hB
      clear hca hcb ha hb hB
      go_wp2
      go_region_with (go_at_call 27; refine (eq_any p p _).mono ?_; rintro e w' ⟨rfl, rfl⟩)
      all_goals
        go_wp2
        go_roundw
        case rel => exact ⟨k + 1, by omega, by go_num, (((unhide HB).drew).alloc (unhide HB).size _).alloc (by have := (unhide HB).size; simp; omega) _⟩
        case measure => simp [intOf]; omega
    · go_wp2
      go_ret
      exact ⟨rfl, hB⟩

theorem ret_int {k : IntKind} {a b : Int} (h : a = b) : Ending.returned (.int k a) = .returned (.int k b) := by rw [h]

/-- What zzFirstIndex answers. -/
def fx (ps : List Pb) (lo : Nat) (p : Pb) : Int := if isIn (ps.drop lo) p then ((lo + fi p (ps.drop lo) : Nat) : Int) else -1

theorem fx_hit (ps : List Pb) (lo k : Nat) (p : Pb) (hk : lo + k < ps.length) (he : ps.getD (lo + k) pz = p) (hn : ∀ j, j < k → (ps.drop lo)[j]? ≠ some p) : fx ps lo p = ((lo + k : Nat) : Int) := by
  have h1 : (ps.drop lo)[k]? = some p := by
    rw [List.getElem?_drop, List.getElem?_eq_getElem hk, ← he]
    simp [hk]
  have h2 : p ∈ ps.drop lo := List.mem_of_getElem? h1
  unfold fx
  rw [if_pos ((isIn_iff _ _).2 h2), fi_eq h1 hn]
theorem fx_miss (ps : List Pb) (lo n : Nat) (p : Pb) (hn : ps.length = n) (h : ∀ j, j < n - lo → (ps.drop lo)[j]? ≠ some p) : fx ps lo p = -1 := by
  unfold fx
  rw [if_neg]
  rw [isIn_iff]
  exact not_mem_of (fun j hj => h j (by simp at hj; omega))

set_option maxHeartbeats 1000000 in
/-- zzFirstIndex. -/
theorem first_any (a : Option Addr) (n c lo : Nat) (ps : List Pb) (p : Pb) (w : World) (hn : n ≤ 8192) (hlo : lo ≤ n) (ha : PRow w a n ps) :
    Calls Try.prog 28 #[.slice a n c, .int .i64 lo, .agg #[.int .i64 p.1, .string p.2]] w fun e w' => e = .returned (.int .i64 (fx ps lo p)) ∧ Below w.heap.size w w' := by
  go_enter Try.func28, Try.ntmps28
  go_wp2
  go_loopw [7] (fun i wr => ∃ k : Nat, lo + k ≤ n ∧ i = .int .i64 (lo + k : Nat) ∧ (∀ j, j < k → (ps.drop lo)[j]? ≠ some p) ∧ Below (w.heap.size + 1) (w.alloc (.cells #[.int .i64 p.1, .string p.2] 37)) wr) (fun i _ => n - (intOf i).toNat)
  case atStart => exact ⟨0, by omega, rfl, fun j hj => by omega, Below.refl _ _⟩
  case round =>
    obtain ⟨k, hk, rfl, hno, hB⟩ := hrel
    have hBw : Below w.heap.size w wr := ((Below.refl _ _).alloc (Nat.le_refl _) _).trans (hB.mono (by omega))
    by_cases hlt : lo + k < n
    · obtain ⟨ba, oa, rfl, hca⟩ := (ha.kept hBw).2 (by omega)
      obtain ⟨g1, g2⟩ := hca (lo + k) hlt
      have hi1 : (lo : Int) + (k : Int) < (n : Int) := by omega
      have hbx : wr.heap[w.heap.size]? = some (.cells #[.int .i64 p.1, .string p.2] 37 (0, 0)) := by rw [hB.block _ (by omega)]; exact heap_alloc_new w _
      have c0 : wr.cell? ⟨w.heap.size, 0, none⟩ = some (.int .i64 p.1) := by rw [cell_of_row wr _ 0 _ 37 (0, 0) hbx]; rfl
      have c1 : wr.cell? ⟨w.heap.size, 1, none⟩ = some (.string p.2) := by rw [cell_of_row wr _ 1 _ 37 (0, 0) hbx]; rfl
      have hsz : w.heap.size + 1 ≤ wr.heap.size := by have := hB.size; simpa using this
      have hpl : ps.length = n := ha.1
      generalize hq : ps.getD (lo + k) pz = q at g1 g2
      have Hq := hide hq
      have HB := hide hB
      have HBw := hide hBw
      have Hno := hide hno
      have Hpl := hide hpl
      clear hca ha hB hBw hno hq hpl hbx
      by_cases hpq : q = p
      · have hd : decide (q = p) = true := by simp [hpq]
        have Hpq := hide hpq
        clear hpq
        go_wp2
        go_region_with (go_at_call 27; refine (eq_any q p _).mono ?_; rintro e w' ⟨rfl, rfl⟩; rw [hd])
        all_goals
          go_wp2
          go_ret
          refine ⟨ret_int ?_, ((HBw.out.drew).alloc HBw.out.size _).alloc (by have := HBw.out.size; simp; omega) _⟩
          rw [fx_hit ps lo k p (by rw [unhide Hpl]; exact hlt) ((unhide Hq).trans (unhide Hpq)) (unhide Hno)]
          omega
      · have hd : decide (q = p) = false := by simp [hpq]
        have Hpq := hide hpq
        clear hpq
        go_wp2
        go_region_with (go_at_call 27; refine (eq_any q p _).mono ?_; rintro e w' ⟨rfl, rfl⟩; rw [hd])
        all_goals
          go_wp2
          go_roundw
          case rel =>
            refine ⟨k + 1, by omega, by go_num, fun j hj => ?_, (((unhide HB).drew).alloc hsz _).alloc (by simp; omega) _⟩
            by_cases hjk : j < k
            · exact unhide Hno j hjk
            · obtain rfl : j = k := by omega
              rw [List.getElem?_drop]
              intro e
              refine unhide Hpq ?_
              rw [← unhide Hq, List.getD_eq_getElem?_getD, e]
              rfl
          case measure => simp [intOf]; omega
    · have hk' : k = n - lo := by omega
      have Hno := hide hno
      have Hpl := hide ha.1
      clear hno ha
      have hi1 : ¬ (lo : Int) + (k : Int) < (n : Int) := by omega
      go_wp2
      go_ret
      exact ⟨ret_int (fx_miss ps lo n p (unhide Hpl) (by rw [← hk']; exact unhide Hno)).symm, hBw⟩

end Go.Proofs.Qxb6618109a
