/-
  MY OWN WORK (seat b6618109a). zzIsFirstOccurrences at what dropRepeats leaves.
-/
import Derived.Test.Qxb6618109aEq
namespace Go.Proofs.Qxb6618109a
open Go.RowKit

theorem getD_drop_lt (ps : List Pb) (m i : Nat) (hm : m ≤ ps.length) (hi : i < m) : (drop ps m).getD i pz = ps.getD i pz := by
  have h := drop_take ps m hm
  have h1 : ((drop ps m).take m).getD i pz = (ps.take m).getD i pz := by rw [h]
  simpa [hi] using h1

/-- The place of the last one that was looked up. -/
def prevAt (ps : List Pb) (m k : Nat) : Int := if k = 0 then -1 else fx ps m ((drop ps m).getD (m + (k - 1)) pz)

theorem at_drop (ps : List Pb) (m k : Nat) (hm : m ≤ ps.length) : (drop ps m).getD (m + k) pz = (dd (ps.drop m)).getD k pz := by
  rw [← drop_drop ps m hm]
  simp [List.getElem?_drop]
theorem fx_nonneg (ps : List Pb) (m : Nat) (p : Pb) (h : p ∈ ps.drop m) : fx ps m p = ((m + fi p (ps.drop m) : Nat) : Int) := by
  unfold fx; rw [if_pos ((isIn_iff _ _).2 h)]
theorem prev_lt (ps : List Pb) (m k : Nat) (hm : m ≤ ps.length) (hk : m + k < (drop ps m).length) : prevAt ps m k < fx ps m ((drop ps m).getD (m + k) pz) := by
  have hd : (drop ps m).length = m + (dd (ps.drop m)).length := by unfold drop; simp; omega
  have hk' : k < (dd (ps.drop m)).length := by omega
  have hmem : (dd (ps.drop m))[k] ∈ ps.drop m := (mem_dd _ _).1 (List.getElem_mem hk')
  have e1 : (dd (ps.drop m)).getD k pz = (dd (ps.drop m))[k] := by simp [hk']
  rw [at_drop ps m k hm, e1, fx_nonneg _ _ _ hmem]
  unfold prevAt
  split
  · omega
  · have hk2 : k - 1 < (dd (ps.drop m)).length := by omega
    have hmem2 : (dd (ps.drop m))[k - 1] ∈ ps.drop m := (mem_dd _ _).1 (List.getElem_mem hk2)
    have e2 : (dd (ps.drop m)).getD (k - 1) pz = (dd (ps.drop m))[k - 1] := by simp [hk2]
    rw [at_drop ps m (k - 1) hm, e2, fx_nonneg _ _ _ hmem2]
    have := List.pairwise_iff_getElem.1 (rise_dd (ps.drop m)) (k - 1) k hk2 hk' (by omega)
    omega
theorem found (ps : List Pb) (m j : Nat) (hm : m ≤ ps.length) (h1 : m ≤ j) (h2 : j < ps.length) : 0 ≤ fx (drop ps m) m (ps.getD j pz) := by
  have hmem : ps.getD j pz ∈ (drop ps m).drop m := by
    rw [drop_drop ps m hm, mem_dd]
    have e : ps.getD j pz = ps[j] := by simp [h2]
    rw [e]
    have : ps[j] = (ps.drop m)[j - m]'(by simp; omega) := by simp [show m + (j - m) = j by omega]
    rw [this]
    exact List.getElem_mem _
  rw [fx_nonneg _ _ _ hmem]
  omega
theorem fx_bound (ps : List Pb) (m : Nat) (p : Pb) (hm : m ≤ ps.length) : -1 ≤ fx ps m p ∧ fx ps m p ≤ ps.length := by
  unfold fx
  split
  · have := fi_le p (ps.drop m)
    simp at this
    omega
  · omega

set_option maxHeartbeats 2000000 in
theorem firsts_yes (a b : Option Addr) (n ca cb m nr : Nat) (ps : List Pb) (w : World) (hn : n ≤ 4096) (hm : m ≤ n) (hnr : nr = (drop ps m).length) (ha : PRow w a n ps) (hb : PRow w b nr (drop ps m)) :
    Calls Try.prog 12 #[.slice a n ca, .int .i64 m, .slice b nr cb] w fun e w' => e = .returned (.bool true) ∧ Below w.heap.size w w' := by
  have hpl := ha.1
  have hlen := length_drop ps m (by omega)
  have hr1 : m ≤ nr := by omega
  have hr2 : nr ≤ n := by omega
  have hi1 : ¬ (nr : Int) < (m : Int) := by omega
  have hi2 : ¬ (n : Int) < (nr : Int) := by omega
  have Hpl := hide hpl
  have Hnr := hide hnr
  have HA := hide ha
  have HB := hide hb
  clear hpl hlen hnr ha hb
  go_enter Try.func12, Try.ntmps12
  go_wp2
  go_loopw [7] (fun i wr => ∃ k : Nat, k ≤ m ∧ i = .int .i64 k ∧ Below w.heap.size w wr) (fun i _ => m - (intOf i).toNat)
  case atStart => exact ⟨0, Nat.zero_le _, rfl, Below.refl _ _⟩
  case round =>
    obtain ⟨k, hk, rfl, hB⟩ := hrel
    by_cases hlt : k < m
    · obtain ⟨ba, oa, rfl, hca⟩ := ((unhide HA).kept hB).2 (by omega)
      obtain ⟨bb, ob, rfl, hcb⟩ := ((unhide HB).kept hB).2 (by omega)
      obtain ⟨g1, g2⟩ := hca k (by omega)
      obtain ⟨g3, g4⟩ := hcb k (by omega)
      rw [getD_drop_lt ps m k (by rw [unhide Hpl]; exact hm) hlt] at g3 g4
      have hi3 : (k : Int) < (n : Int) := by omega
      have hi4 : (k : Int) < (nr : Int) := by omega
      have hi5 : (k : Int) < (m : Int) := by omega
      generalize ps.getD k pz = p at g1 g2 g3 g4
      have HBB := hide hB
      clear hca hcb hB
      go_wp2
      go_region_with (go_at_call 27; refine (eq_any p p _).mono ?_; rintro e w' ⟨rfl, rfl⟩)
      all_goals
        go_wp2
        go_roundw
        case rel => exact ⟨k + 1, by omega, by go_num, (((unhide HBB).drew).alloc (unhide HBB).size _).alloc (by have := (unhide HBB).size; simp; omega) _⟩
        case measure => simp [intOf]; omega
    · have hi5 : ¬ (k : Int) < (m : Int) := by omega
      have HBB := hide hB
      clear hB
      go_wp2
      go_loopw [8, 9] (fun v i wr => ∃ k : Nat, m + k ≤ nr ∧ i = .int .i64 (m + k : Nat) ∧ v = .int .i64 (prevAt ps m k) ∧ Below w.heap.size w wr) (fun _ i _ => nr - (intOf i).toNat)
      case atStart => exact ⟨0, by omega, rfl, rfl, unhide HBB⟩
      case round =>
        obtain ⟨k, hk, rfl, rfl, hB⟩ := hrel
        by_cases hlt : m + k < nr
        · obtain ⟨bb, ob, rfl, hcb⟩ := ((unhide HB).kept hB).2 (by omega)
          obtain ⟨g3, g4⟩ := hcb (m + k) (by omega)
          have hpv := prev_lt ps m k (by rw [unhide Hpl]; exact hm) (by rw [← unhide Hnr]; exact hlt)
          have hfb := fx_bound ps m ((drop ps m).getD (m + k) pz) (by rw [unhide Hpl]; exact hm)
          have hpe : prevAt ps m (k + 1) = fx ps m ((drop ps m).getD (m + k) pz) := by simp [prevAt]
          generalize hq : (drop ps m).getD (m + k) pz = q at g3 g4 hpv hfb hpe
          have F := hide (first_any a n ca m ps q wr (by omega) hm ((unhide HA).kept hB))
          have hi3 : (m : Int) + (k : Int) < (nr : Int) := by omega
          generalize fx ps m q = f at hpv hfb hpe F
          generalize prevAt ps m k = pv at hpv
          have Hpe := hide hpe
          have HBc := hide hB
          have hnl : ¬ f ≤ pv := by omega
          clear hcb hB hq hpe
          go_wp2_with fail
          refine (unhide F).mono ?_
          rintro e w1 ⟨rfl, hb1⟩
          have Hb1 := hide hb1
          clear hb1 F
          go_wp2_with fail
          go_roundw
          case rel => exact ⟨k + 1, by omega, by go_num, by rw [unhide Hpe], (unhide HBc).trans ((unhide Hb1).mono (unhide HBc).size)⟩
          case measure => simp [intOf]; omega
        · have hi3 : ¬ (m : Int) + (k : Int) < (nr : Int) := by omega
          have HBc := hide hB
          clear hB
          go_wp2
          go_loopw [11] (fun i wr => ∃ k : Nat, m + k ≤ n ∧ i = .int .i64 (m + k : Nat) ∧ Below w.heap.size w wr) (fun i _ => n - (intOf i).toNat)
          case atStart => exact ⟨0, by omega, rfl, unhide HBc⟩
          case round =>
            obtain ⟨k, hk, rfl, hB⟩ := hrel
            by_cases hlt : m + k < n
            · obtain ⟨ba, oa, rfl, hca⟩ := ((unhide HA).kept hB).2 (by omega)
              obtain ⟨g3, g4⟩ := hca (m + k) (by omega)
              have hfd := found ps m (m + k) (by rw [unhide Hpl]; exact hm) (by omega) (by rw [unhide Hpl]; exact hlt)
              generalize hq : ps.getD (m + k) pz = q at g3 g4 hfd
              have F := hide (first_any b nr cb m (drop ps m) q wr (by omega) hr1 ((unhide HB).kept hB))
              have hi4 : (m : Int) + (k : Int) < (n : Int) := by omega
              generalize fx (drop ps m) m q = f at hfd F
              have HBd := hide hB
              have hnl : ¬ f < 0 := by omega
              clear hca hB hq
              go_wp2_with fail
              refine (unhide F).mono ?_
              rintro e w1 ⟨rfl, hb1⟩
              have Hb1 := hide hb1
              clear hb1 F
              go_wp2_with fail
              go_roundw
              case rel => exact ⟨k + 1, by omega, by go_num, (unhide HBd).trans ((unhide Hb1).mono (unhide HBd).size)⟩
              case measure => simp [intOf]; omega
            · have hi4 : ¬ (m : Int) + (k : Int) < (n : Int) := by omega
              go_wp2
              go_ret
              exact ⟨rfl, hB⟩

end Go.Proofs.Qxb6618109a
