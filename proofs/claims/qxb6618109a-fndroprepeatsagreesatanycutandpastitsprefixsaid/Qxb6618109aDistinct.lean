/-
  MY OWN WORK (seat b6618109a). zzDistinctAfter.
-/
import Derived.Test.Qxb6618109aFirsts
namespace Go.Proofs.Qxb6618109a
open Go.RowKit

theorem here_iff (ps : List Pb) (m k : Nat) (h : m + k < ps.length) : fx ps m (ps.getD (m + k) pz) = ((m + k : Nat) : Int) ↔ fi ((ps.drop m)[k]'(by simp; omega)) (ps.drop m) = k := by
  have e : ps.getD (m + k) pz = (ps.drop m)[k]'(by simp; omega) := by simp [h]
  rw [e, fx_nonneg _ _ _ (List.getElem_mem _)]
  omega

theorem distinct_any (a : Option Addr) (n c m : Nat) (ps : List Pb) (w : World) (hn : n ≤ 4096) (hm : m ≤ n) (ha : PRow w a n ps) :
    Calls Try.prog 17 #[.slice a n c, .int .i64 m] w fun e w' => e = .returned (.int .i64 ((dd (ps.drop m)).length : Nat)) ∧ Below w.heap.size w w' := by
  have Hpl := hide ha.1
  have HA := hide ha
  clear ha
  go_enter Try.func17, Try.ntmps17
  go_wp2
  go_loopw [5, 6] (fun v i wr => ∃ k : Nat, m + k ≤ n ∧ i = .int .i64 (m + k : Nat) ∧ v = .int .i64 ((dd ((ps.drop m).take k)).length : Nat) ∧ Below w.heap.size w wr) (fun _ i _ => n - (intOf i).toNat)
  case atStart => exact ⟨0, by omega, rfl, rfl, Below.refl _ _⟩
  case round =>
    obtain ⟨k, hk, rfl, rfl, hB⟩ := hrel
    have hcb : (dd ((ps.drop m).take k)).length ≤ k := by
      have := length_dd ((ps.drop m).take k)
      simp at this
      omega
    by_cases hlt : m + k < n
    · obtain ⟨ba, oa, rfl, hca⟩ := ((unhide HA).kept hB).2 (by omega)
      obtain ⟨g3, g4⟩ := hca (m + k) (by omega)
      have hh := here_iff ps m k (by rw [unhide Hpl]; exact hlt)
      have hcs := count_step (ps.drop m) k (by have := unhide Hpl; simp; omega)
      generalize hq : ps.getD (m + k) pz = q at g3 g4 hh
      have F := hide (first_any (some ⟨ba, oa, none⟩) n c m ps q wr (by omega) hm ((unhide HA).kept hB))
      have hi4 : (m : Int) + (k : Int) < (n : Int) := by omega
      generalize fx ps m q = f at hh F
      generalize (dd ((ps.drop m).take k)).length = cnt at hcb hcs
      have HBd := hide hB
      have Hcs := hide hcs
      by_cases hf : f = ((m + k : Nat) : Int)
      · have hfe : (f == ((m : Int) + (k : Int))) = true := by rw [beq_iff_eq, hf]; omega
        have Hfi := hide (hh.1 hf)
        clear hca hB hq hh hf hcs
        go_wp2_with fail
        refine (unhide F).mono ?_
        rintro e w1 ⟨rfl, hb1⟩
        have Hb1 := hide hb1
        clear hb1 F
        go_wp2_with fail
        go_roundw
        case rel => exact ⟨k + 1, by omega, by go_num, by rw [unhide Hcs, if_pos (unhide Hfi)]; go_num, (unhide HBd).trans ((unhide Hb1).mono (unhide HBd).size)⟩
        case measure => simp [intOf]; omega
      · have hfe : (f == ((m : Int) + (k : Int))) = false := by rw [beq_eq_false_iff_ne]; intro e; exact hf (by rw [e]; omega)
        have Hfi := hide (fun e => hf (hh.2 e))
        clear hca hB hq hh hf hcs
        go_wp2_with fail
        refine (unhide F).mono ?_
        rintro e w1 ⟨rfl, hb1⟩
        have Hb1 := hide hb1
        clear hb1 F
        go_wp2_with fail
        go_roundw
        case rel => exact ⟨k + 1, by omega, by go_num, by rw [unhide Hcs, if_neg (unhide Hfi)]; rfl, (unhide HBd).trans ((unhide Hb1).mono (unhide HBd).size)⟩
        case measure => simp [intOf]; omega
    · have hi4 : ¬ (m : Int) + (k : Int) < (n : Int) := by omega
      go_wp2
      go_ret
      refine ⟨ret_int ?_, hB⟩
      rw [List.take_of_length_le (i := k) (l := ps.drop m) (by have := unhide Hpl; simp; omega)]

end Go.Proofs.Qxb6618109a
