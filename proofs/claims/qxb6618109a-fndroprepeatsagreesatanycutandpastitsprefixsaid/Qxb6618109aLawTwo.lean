/-
  MY OWN WORK (seat b6618109a). The walk of FnDropRepeatsAgreesAtAnyCutAndPastItsPrefix.
-/
import Derived.Test.Qxb6618109aJoin
namespace Go.Proofs.Qxb6618109a
open Go.RowKit

theorem ret_bool {a b : Bool} (h : a = b) : Ending.returned (.bool a) = .returned (.bool b) := by rw [h]

theorem range_from (a : Option Addr) (n c lo hi : Nat) (ps : List Pb) (w : World) (hn : n ≤ 4096) (hlo : lo ≤ hi) (hhi : hi ≤ n) (hr : PRow w a n ps) :
    Calls Try.prog 16 #[.slice a n c, .int .i64 lo, .int .i64 hi] w fun e w' => e = .returned (.slice (some ⟨w.heap.size, 0, none⟩) (hi - lo) (hi - lo)) ∧ ∃ q, w' = (w.alloc (.cells (cells ((ps.drop lo).take (hi - lo))) 37)).drewN q := by
  have h := range_any a n c lo (hi - lo) ps w hn (by omega) hr
  rw [show lo + (hi - lo) = hi from by omega] at h
  exact h

set_option maxRecDepth 100000 in
set_option maxHeartbeats 4000000 in
theorem law_two_in (a : Option Addr) (n c m cc : Nat) (ps : List Pb) (w : World) (hn4 : n ≤ 4096) (hmc : m ≤ cc) (hcn : cc ≤ n) (hgood : ∀ q ∈ ps, Good q) (hr : PRow w a n ps) (hx : a = none → n = 0 ∧ c = 0)
    (h15 : Calls Try.prog 15 #[.slice a n c, .int .i64 m, .int .i64 cc] w (Tells True w)) (h8 : Calls Try.prog 8 #[.slice a n c] w (Tells (n ≤ 4096) w)) :
    Calls Try.prog 4 #[.slice a n c, .int .i64 m, .int .i64 cc] w fun e w' => e = .returned (.bool true) ∧ Below w.heap.size w w' := by
  have F15 := hide h15
  have F8 := hide h8
  have Hgood := hide hgood
  have Hr := hide hr
  have Hx := hide hx
  have Hpl := hide hr.1
  clear h15 h8 hgood hr hx
  have i1 : ¬ (m : Int) < 0 := by omega
  have i2 : ¬ (n : Int) < (m : Int) := by omega
  have i3 : ¬ (cc : Int) < (m : Int) := by omega
  have i4 : ¬ (n : Int) < (cc : Int) := by omega
  go_enter Try.func4, Try.ntmps4
  go_wp2_with fail
  refine (unhide F15).mono ?_
  rintro e w' ⟨b, rfl, hw, -⟩
  obtain rfl : w = w' := hw
  clear F15
  cases b
  · go_wp2_with fail
    go_ret
    exact ⟨rfl, Below.refl _ _⟩
  go_wp2_with fail
  refine (unhide F8).mono ?_
  rintro e w' ⟨b, rfl, hw, -⟩
  obtain rfl : w = w' := hw
  clear F8
  cases b
  rotate_left
  · go_wp2_with fail
    go_ret
    exact ⟨rfl, Below.refl _ _⟩
  go_wp2_with fail
  refine (clone_any a n c ps w hn4 (unhide Hr) (unhide Hx)).mono ?_
  rintro e w1 ⟨a1, c1, rfl, n1, r1, b1⟩
  have N1 := hide n1
  have R1 := hide r1
  have B1 := hide b1
  clear n1 r1 b1 Hr Hx
  go_wp2_with fail
  refine (all_any a1 n c1 ps w1 hn4 (unhide R1) (unhide N1)).mono ?_
  rintro e w2 ⟨a2, c2, rfl, pv2, b2⟩
  have R2 := hide pv2.rowAt
  have R12 := hide ((unhide R1).kept b2)
  have B2 := hide ((unhide B1).trans (b2.mono (unhide B1).size))
  clear pv2 b2 R1 B1
  go_wp2_with fail
  refine (all_any a1 n c1 ps w2 hn4 (unhide R12) (unhide N1)).mono ?_
  rintro e w3 ⟨a3, c3, rfl, pv3, b3⟩
  have PV3 := hide pv3
  have B3 := hide b3
  clear pv3 b3 N1
  go_wp2_with fail
  have K4 := hide ((unhide B3).alloc (unhide B3).size (.cells #[.slice a3 n c3] 27))
  refine (zzdrop_any w2.heap.size w3.heap.size m (.slice a3 n c3) ps _ (heap_alloc_new w3 _) ((unhide PV3).alloc _) (by rw [unhide Hpl]; omega) (unhide Hgood) (unhide B3).size).mono ?_
  rintro e w5 ⟨rfl, ⟨v5, hp5, pv5⟩, b5⟩
  have K5 := hide ((unhide K4).trans b5)
  obtain ⟨a5, c5, hv5, r5⟩ := pv5.row
  rw [hv5] at hp5
  have hl5 := length_drop ps m (by rw [unhide Hpl]; omega)
  rw [unhide Hpl] at hl5
  generalize hnw : (drop ps m).length = nw at hp5 r5 hl5
  have Hnw := hide hnw
  have HP5 := hide hp5
  have R5 := hide r5
  have R15 := hide ((unhide R12).kept (unhide K5))
  have R25 := hide ((unhide R2).kept (unhide K5))
  have BB5 := hide ((unhide B2).trans ((unhide K5).mono (unhide B2).size))
  clear hv5 pv5 b5 K4 PV3 r5 hp5 hnw R2 R12 B2 B3 K5
  go_wp2_with fail
  refine (range_from a1 n c1 0 cc ps w5 hn4 (by omega) hcn (unhide R15)).mono ?_
  rintro e w6 ⟨rfl, q6, hw6⟩
  have hpt : (ps.drop 0).take (cc - 0) = ps.take cc := by simp
  rw [hpt] at hw6
  have hs6 : w6.heap.size = w5.heap.size + 1 := by rw [hw6]; show (w5.heap.push _).size = _; simp
  have pv6 : PV w5.heap.size w6 (.slice (some ⟨w5.heap.size, 0, none⟩) cc cc) (ps.take cc) := by
    have hl : (ps.take cc).length = cc := by have := unhide Hpl; simp; omega
    have := pv_new w5 (ps.take cc) q6 (by omega)
    rw [hl, ← hw6] at this
    exact this
  have b6 : Below w5.heap.size w5 w6 := by rw [hw6]; exact below_drewN ((Below.refl _ _).alloc (Nat.le_refl _) _) _
  have PV6 := hide pv6
  have B6 := hide b6
  have HS6 := hide hs6
  clear hw6 hpt hs6 pv6 b6
  rw [Nat.sub_zero]
  go_wp2_with fail
  refine (zzdrop_any w5.heap.size w6.heap.size m (.slice (some ⟨w5.heap.size, 0, none⟩) cc cc) (ps.take cc) _ (heap_alloc_new w6 _) ((unhide PV6).alloc _) (by have := unhide Hpl; simp; omega) (fun q hq => unhide Hgood q (List.mem_of_mem_take hq)) (unhide B6).size).mono ?_
  rintro e w8 ⟨rfl, ⟨v8, hp8, pv8⟩, b8⟩
  have K8 := hide (((unhide B6).alloc (unhide B6).size (.cells #[.slice (some ⟨w5.heap.size, 0, none⟩) cc cc] 27)).trans b8)
  obtain ⟨a8, c8, hv8, r8⟩ := pv8.row
  rw [hv8] at hp8
  have hl8 := length_drop (ps.take cc) m (by have := unhide Hpl; simp; omega)
  have hlt8 : (ps.take cc).length = cc := by have := unhide Hpl; simp; omega
  rw [hlt8] at hl8
  have hcut := drop_cut ps m cc hmc (by rw [unhide Hpl]; exact hcn)
  have hgd8 : ∀ q ∈ drop (ps.take cc) m, Good q := good_drop (fun q hq => unhide Hgood q (List.mem_of_mem_take hq))
  generalize drop (ps.take cc) m = hd at hp8 r8 hl8 hcut hgd8
  generalize hnh : hd.length = nh at hp8 r8 hl8
  have Hnh := hide hnh
  have HP8 := hide hp8
  have R8 := hide r8
  have Hcut := hide hcut
  have Hgd8 := hide hgd8
  have hc8 : w8.cell? ⟨w6.heap.size, 0, none⟩ = some (.slice a8 nh c8) := by rw [cell_of_row w8 _ 0 _ 27 (0, 0) hp8]; rfl
  have hp8l : w6.heap.size < w8.heap.size := lt_of_block hp8
  have HP58 := hide (((unhide K8).block _ (lt_of_block (unhide HP5))).trans (unhide HP5))
  have R58 := hide ((unhide R5).kept (unhide K8))
  have R18 := hide ((unhide R15).kept (unhide K8))
  have R28 := hide ((unhide R25).kept (unhide K8))
  have BB8 := hide ((unhide BB5).trans ((unhide K8).mono (unhide BB5).size))
  clear hv8 pv8 b8 PV6 r8 hp8 hnh hcut hgd8 hlt8 HP5 R5 R15 R25 BB5 K8 B6
  go_wp2_with (at_make; refine wpList_make_pbs _ rfl _ _ rfl _ (nh + (n - cc)) rfl rfl (by omega) (by omega) ?_)
  obtain ⟨js, hjs⟩ : ∃ js, js = hd ++ ps.drop cc := ⟨_, rfl⟩
  have hjl : js.length = nh + (n - cc) := by rw [hjs, List.length_append, unhide Hnh]; have := unhide Hpl; simp; omega
  have hjh : ∀ k, k < nh → js.getD k pz = hd.getD k pz := by
    intro k hk
    have := unhide Hnh
    rw [hjs]; simp [List.getElem?_append_left (show k < hd.length by omega)]
  have hjt : ∀ k, k < n - cc → js.getD (nh + k) pz = ps.getD (cc + k) pz := by
    intro k hk
    rw [hjs, ← unhide Hnh]
    simp [List.getElem?_append_right, List.getElem?_drop]
  have hst : Held w8.heap.size (w8.heap.size + 1) 0 js w8 ((w8.alloc (.cells (cells (List.replicate (nh + (n - cc)) pz)) 37)).alloc (.cells #[.slice (some ⟨w8.heap.size, 0, none⟩) 0 (nh + (n - cc))] 27)) (List.replicate js.length pz) := by
    rw [← hjl]
    refine ⟨(Laid.start w8 js).kept ((Below.refl _ _).alloc (Nat.le_refl _) _) (by simp), ?_, by omega⟩
    exact heap_alloc2_new w8 _ _
  have Hst := hide hst
  have Hjs := hide hjs
  have Hjl := hide hjl
  have Hjh := hide hjh
  have Hjt := hide hjt
  clear hjs hjl hjh hjt hst
  go_loopw [11] (fun i wr => ∃ k : Nat, ∃ R, k ≤ nh ∧ i = .int .i64 k ∧ Held w8.heap.size (w8.heap.size + 1) k js w8 wr R) (fun i _ => nh - (intOf i).toNat)
  case atStart => exact ⟨0, _, Nat.zero_le _, rfl, unhide Hst⟩
  case round =>
    obtain ⟨k, R, hk, rfl, hI⟩ := hrel
    have hcw : wr.cell? ⟨w6.heap.size, 0, none⟩ = some (.slice a8 nh c8) := (hI.hL.hB.cell (p := ⟨w6.heap.size, 0, none⟩) hp8l).trans hc8
    by_cases hlt : k < nh
    · obtain ⟨ba, oa, rfl, hca⟩ := ((unhide R8).kept hI.hL.hB).2 (by omega)
      obtain ⟨g1, g2⟩ := hca k hlt
      have hpj := hI.hp
      rw [unhide Hjl] at hpj
      have hcj : wr.cell? ⟨w8.heap.size + 1, 0, none⟩ = some (.slice (some ⟨w8.heap.size, 0, none⟩) k (nh + (n - cc))) := by rw [cell_of_row wr _ 0 _ 27 (0, 0) hpj]; rfl
      have hst := hI.step (by rw [unhide Hjl]; omega) (.cells #[.int .i64 (hd.getD k pz).1, .string (hd.getD k pz).2] 37)
      rw [unhide Hjh k hlt, unhide Hjl] at hst
      generalize hd.getD k pz = pe at g1 g2 hst
      have hgl := lt_of_block hI.hL.hg
      have hpjl := lt_of_block hpj
      have hg2 : (wr.alloc (.cells #[.int .i64 pe.1, .string pe.2] 37)).heap[w8.heap.size]? = some (.cells (cells R) 37 (0, 0)) := by rw [Below.heap_alloc wr _ _ hgl]; exact hI.hL.hg
      have hd0 : (wr.alloc (.cells #[.int .i64 pe.1, .string pe.2] 37)).cell? ((⟨wr.heap.size, 0, none⟩ : Addr).add 0) = some (.int .i64 pe.1) := by rw [Addr.add_lit, Nat.zero_add, World.cell?_alloc_new]; rfl
      have hd1 : (wr.alloc (.cells #[.int .i64 pe.1, .string pe.2] 37)).cell? ((⟨wr.heap.size, 0, none⟩ : Addr).add 1) = some (.string pe.2) := by rw [Addr.add_lit, Nat.zero_add, World.cell?_alloc_new]; rfl
      have hRl : R.length = nh + (n - cc) := by rw [hI.hL.hR, unhide Hjl]
      have hpx : ((wr.alloc (.cells #[.int .i64 pe.1, .string pe.2] 37)).drew.setRow w8.heap.size (cells (R.set k pe))).heap[w8.heap.size + 1]? = some (.cells #[.slice (some ⟨w8.heap.size, 0, none⟩) k (nh + (n - cc))] 27 (0, 0)) := by
        rw [setRow_other _ _ _ _ (by omega)]
        show (wr.alloc (.cells #[.int .i64 pe.1, .string pe.2] 37)).heap[w8.heap.size + 1]? = _
        rw [Below.heap_alloc wr _ _ hpjl]; exact hpj
      have cx := (cell_of_row _ _ 0 _ 27 (0, 0) hpx).trans rfl
      have fx0 := frozen_of_row _ _ 0 _ 27 hpx
      have HG2 := hide hg2
      have HD0 := hide hd0
      have HD1 := hide hd1
      have HRl := hide hRl
      have HST := hide hst
      have hi1 : (k : Int) < (nh : Int) := by omega
      clear hpx
      clear hg2 hd0 hd1 hRl hst hca hI hpj
      go_wp2
      go_region_law (refine step_append_pb rfl (.tmp 68) (.tmp 73) rfl w8.heap.size k (nh + (n - cc)) R pe ⟨wr.heap.size, 0, none⟩ rfl rfl (by exact unhide HG2) (unhide HRl) (by omega) (by exact unhide HD0) (by exact unhide HD1) ?_)
      all_goals
        go_wp2
        go_roundw
        case rel => exact ⟨k + 1, _, by omega, by go_num, (unhide HST).drawn⟩
        case measure => simp [intOf]; omega
    · obtain rfl : k = nh := by omega
      have HI := hide hI
      clear hI
      go_wp2
      go_loopw [12] (fun i wr => ∃ j : Nat, ∃ R, j ≤ n - cc ∧ i = .int .i64 (cc + j : Nat) ∧ Held w8.heap.size (w8.heap.size + 1) (k + j) js w8 wr R) (fun i _ => n - (intOf i).toNat)
      case atStart => exact ⟨0, R, Nat.zero_le _, rfl, unhide HI⟩
      case round =>
        obtain ⟨j, R, hj, rfl, hI⟩ := hrel
        by_cases hlt : j < n - cc
        · obtain ⟨ba, oa, rfl, hca⟩ := ((unhide R18).kept hI.hL.hB).2 (by omega)
          obtain ⟨g1, g2⟩ := hca (cc + j) (by omega)
          have hpj := hI.hp
          rw [unhide Hjl] at hpj
          have hcj : wr.cell? ⟨w8.heap.size + 1, 0, none⟩ = some (.slice (some ⟨w8.heap.size, 0, none⟩) (k + j) (k + (n - cc))) := by rw [cell_of_row wr _ 0 _ 27 (0, 0) hpj]; rfl
          have hst := hI.step (by rw [unhide Hjl]; omega) (.cells #[.int .i64 (ps.getD (cc + j) pz).1, .string (ps.getD (cc + j) pz).2] 37)
          rw [unhide Hjt j hlt, unhide Hjl] at hst
          generalize ps.getD (cc + j) pz = pe at g1 g2 hst
          have hgl := lt_of_block hI.hL.hg
          have hpjl := lt_of_block hpj
          have hg2 : (wr.alloc (.cells #[.int .i64 pe.1, .string pe.2] 37)).heap[w8.heap.size]? = some (.cells (cells R) 37 (0, 0)) := by rw [Below.heap_alloc wr _ _ hgl]; exact hI.hL.hg
          have hd0 : (wr.alloc (.cells #[.int .i64 pe.1, .string pe.2] 37)).cell? ((⟨wr.heap.size, 0, none⟩ : Addr).add 0) = some (.int .i64 pe.1) := by rw [Addr.add_lit, Nat.zero_add, World.cell?_alloc_new]; rfl
          have hd1 : (wr.alloc (.cells #[.int .i64 pe.1, .string pe.2] 37)).cell? ((⟨wr.heap.size, 0, none⟩ : Addr).add 1) = some (.string pe.2) := by rw [Addr.add_lit, Nat.zero_add, World.cell?_alloc_new]; rfl
          have hRl : R.length = k + (n - cc) := by rw [hI.hL.hR, unhide Hjl]
          have hpx : ((wr.alloc (.cells #[.int .i64 pe.1, .string pe.2] 37)).drew.setRow w8.heap.size (cells (R.set (k + j) pe))).heap[w8.heap.size + 1]? = some (.cells #[.slice (some ⟨w8.heap.size, 0, none⟩) (k + j) (k + (n - cc))] 27 (0, 0)) := by
            rw [setRow_other _ _ _ _ (by omega)]
            show (wr.alloc (.cells #[.int .i64 pe.1, .string pe.2] 37)).heap[w8.heap.size + 1]? = _
            rw [Below.heap_alloc wr _ _ hpjl]; exact hpj
          have cx := (cell_of_row _ _ 0 _ 27 (0, 0) hpx).trans rfl
          have fx0 := frozen_of_row _ _ 0 _ 27 hpx
          have HG2 := hide hg2
          have HD0 := hide hd0
          have HD1 := hide hd1
          have HRl := hide hRl
          have HST := hide hst
          have hi1 : (cc : Int) + (j : Int) < (n : Int) := by omega
          have hi0 : (0 : Int) ≤ (cc : Int) + (j : Int) := by omega
          have hi2 : ((cc : Int) + (j : Int)).toNat = cc + j := by omega
          clear hpx hg2 hd0 hd1 hRl hst hca hI hpj
          go_wp2
          go_region_law (refine step_append_pb rfl (.tmp 82) (.tmp 94) rfl w8.heap.size (k + j) (k + (n - cc)) R pe ⟨wr.heap.size, 0, none⟩ rfl rfl (by exact unhide HG2) (unhide HRl) (by omega) (by exact unhide HD0) (by exact unhide HD1) ?_)
          all_goals
            go_wp2
            go_roundw
            case rel => exact ⟨j + 1, _, by omega, by go_num, (unhide HST).drawn⟩
            case measure => simp [intOf]; omega
        · obtain rfl : j = n - cc := by omega
          have hi1 : ¬ (cc : Int) + ((n - cc : Nat) : Int) < (n : Int) := by omega
          have HJ := hide hI
          clear hI
          go_wp2_with fail
          have hJ := unhide HJ
          have hkn : k + (n - cc) = js.length := (unhide Hjl).symm
          have hpj := hJ.hp
          have hpv : PV w8.heap.size wr (.slice (some ⟨w8.heap.size, 0, none⟩) (k + (n - cc)) js.length) js := by
            have h1 := hJ.hL
            rw [hkn] at h1 ⊢
            exact h1.pv (by rw [← hkn]; omega)
          have hjg : ∀ q ∈ js, Good q := by
            rw [unhide Hjs]
            intro q hq
            rcases List.mem_append.1 hq with h | h
            · exact unhide Hgd8 q h
            · exact unhide Hgood q (List.mem_of_mem_drop h)
          have hjm : m ≤ js.length := by rw [← hkn]; omega
          refine (zzdrop_any w8.heap.size (w8.heap.size + 1) m _ js wr hpj hpv hjm hjg (by omega)).mono ?_
          rintro e w11 ⟨rfl, ⟨v11, hp11, pv11⟩, b11⟩
          rw [unhide Hjs, unhide Hcut] at pv11
          obtain ⟨a11, c11, hv11, r11⟩ := pv11.row
          rw [hv11] at hp11
          rw [unhide Hnw] at r11 hp11
          have K11 := hide (hJ.hL.hB.trans b11)
          have HP11 := hide hp11
          have R11 := hide r11
          have HP511 := hide (((unhide K11).block _ (lt_of_block (unhide HP58))).trans (unhide HP58))
          have R511 := hide ((unhide R58).kept (unhide K11))
          have R111 := hide ((unhide R18).kept (unhide K11))
          have R211 := hide ((unhide R28).kept (unhide K11))
          have BB11 := hide ((unhide BB8).trans ((unhide K11).mono (unhide BB8).size))
          clear hJ hpj hpv hjg hjm hp11 pv11 hv11 r11 b11 HJ HI Hst Hjt Hjh Hjl Hjs Hcut Hgd8 R58 R18 R28 HP58 BB8 K11 HP8 R8 Hnh hcw hc8 hkn
          go_wp2_with fail
          refine (range_from a1 n c1 m n ps w11 hn4 (by omega) (Nat.le_refl _) (unhide R111)).mono ?_
          rintro e w12 ⟨rfl, q12, hw12⟩
          have hpt : (ps.drop m).take (n - m) = ps.drop m := List.take_of_length_le (by have := unhide Hpl; simp; omega)
          rw [hpt] at hw12
          have pv12 : PV w11.heap.size w12 (.slice (some ⟨w11.heap.size, 0, none⟩) (n - m) (n - m)) (ps.drop m) := by
            have hl : (ps.drop m).length = n - m := by have := unhide Hpl; simp; omega
            have := pv_new w11 (ps.drop m) q12 (by omega)
            rw [hl, ← hw12] at this
            exact this
          have b12 : Below w11.heap.size w11 w12 := by rw [hw12]; exact below_drewN ((Below.refl _ _).alloc (Nat.le_refl _) _) _
          have PV12 := hide pv12
          have B12 := hide b12
          clear hw12 hpt pv12 b12
          go_wp2_with fail
          refine (zzdrop_any w11.heap.size w12.heap.size 0 (.slice (some ⟨w11.heap.size, 0, none⟩) (n - m) (n - m)) (ps.drop m) _ (heap_alloc_new w12 _) ((unhide PV12).alloc _) (Nat.zero_le _) (fun q hq => unhide Hgood q (List.mem_of_mem_drop hq)) (unhide B12).size).mono ?_
          rintro e w14 ⟨rfl, ⟨v14, hp14, pv14⟩, b14⟩
          have ed : drop (ps.drop m) 0 = dd (ps.drop m) := by simp [drop]
          rw [ed] at pv14
          obtain ⟨a14, c14, hv14, r14⟩ := pv14.row
          rw [hv14] at hp14
          have hWl : (drop ps m).length = m + (dd (ps.drop m)).length := by unfold drop; have := unhide Hpl; simp; omega
          rw [unhide Hnw] at hWl
          have K14 := hide (((unhide B12).alloc (unhide B12).size (.cells #[.slice (some ⟨w11.heap.size, 0, none⟩) (n - m) (n - m)] 27)).trans b14)
          have hWm : ∀ k, k < m → (drop ps m).getD k pz = ps.getD k pz := fun k hk => getD_drop_lt ps m k (by rw [unhide Hpl]; omega) hk
          have hWd : ∀ k, (drop ps m).getD (m + k) pz = (dd (ps.drop m)).getD k pz := fun k => at_drop ps m k (by rw [unhide Hpl]; omega)
          have hdl : (dd (ps.drop m)).length ≤ n - m := by have := length_dd (ps.drop m); have := unhide Hpl; simp at *; omega
          have F17 := hide (fun (W : World) (h : PRow W a2 n ps) => distinct_any a2 n c2 m ps W hn4 (by omega) h)
          generalize dd (ps.drop m) = d at hp14 r14 hWl hWd hdl F17
          generalize hnd : d.length = nd at hp14 r14 hWl hdl F17
          have hc14 : w14.cell? ⟨w12.heap.size, 0, none⟩ = some (.slice a14 nd c14) := by rw [cell_of_row w14 _ 0 _ 27 (0, 0) hp14]; rfl
          have hp14l : w12.heap.size < w14.heap.size := lt_of_block hp14
          have Hnd := hide hnd
          have HWl := hide hWl
          have HWm := hide hWm
          have HWd := hide hWd
          have R14 := hide r14
          have HP1114 := hide (((unhide K14).block _ (lt_of_block (unhide HP11))).trans (unhide HP11))
          have HP514 := hide (((unhide K14).block _ (lt_of_block (unhide HP511))).trans (unhide HP511))
          have R1114 := hide ((unhide R11).kept (unhide K14))
          have R514 := hide ((unhide R511).kept (unhide K14))
          have R214 := hide ((unhide R211).kept (unhide K14))
          have BB14 := hide ((unhide BB11).trans ((unhide K14).mono (unhide BB11).size))
          clear hv14 pv14 b14 PV12 r14 hp14 ed hWl hWm hWd hnd HP11 HP511 R11 R511 R111 R211 BB11 K14 B12
          obtain rfl : nw = m + nd := unhide HWl
          generalize drop ps m = WW at Hnw HWm HWd R1114 R514
          go_wp2_with (at_make; refine wpList_make_pbs _ rfl _ _ rfl _ (m + nd) rfl rfl (by omega) (by omega) ?_)
          have hst14 := Laid.start w14 WW
          rw [unhide Hnw] at hst14
          have HST14 := hide hst14
          clear hst14
          go_loopw [14, 15] (fun v i wr => ∃ k : Nat, ∃ R, k ≤ m ∧ i = .int .i64 k ∧ v = .slice (some ⟨w14.heap.size, 0, none⟩) k (m + nd) ∧ Laid w14.heap.size k WW w14 wr R) (fun _ i _ => m - (intOf i).toNat)
          case atStart => exact ⟨0, _, Nat.zero_le _, rfl, rfl, unhide HST14⟩
          case round =>
            obtain ⟨t, R, ht, rfl, rfl, hI⟩ := hrel
            by_cases hlt : t < m
            · obtain ⟨ba, oa, rfl, hca⟩ := ((unhide R214).kept hI.hB).2 (by omega)
              obtain ⟨g1, g2⟩ := hca t (by omega)
              have hst := hI.step (by rw [unhide Hnw]; omega) (.cells #[.int .i64 (ps.getD t pz).1, .string (ps.getD t pz).2] 37)
              rw [unhide HWm t hlt] at hst
              generalize ps.getD t pz = pe at g1 g2 hst
              have hgl := lt_of_block hI.hg
              have hg2 : (wr.alloc (.cells #[.int .i64 pe.1, .string pe.2] 37)).heap[w14.heap.size]? = some (.cells (cells R) 37 (0, 0)) := by rw [Below.heap_alloc wr _ _ hgl]; exact hI.hg
              have hd0 : (wr.alloc (.cells #[.int .i64 pe.1, .string pe.2] 37)).cell? ((⟨wr.heap.size, 0, none⟩ : Addr).add 0) = some (.int .i64 pe.1) := by rw [Addr.add_lit, Nat.zero_add, World.cell?_alloc_new]; rfl
              have hd1 : (wr.alloc (.cells #[.int .i64 pe.1, .string pe.2] 37)).cell? ((⟨wr.heap.size, 0, none⟩ : Addr).add 1) = some (.string pe.2) := by rw [Addr.add_lit, Nat.zero_add, World.cell?_alloc_new]; rfl
              have hRl : R.length = m + nd := by rw [hI.hR, unhide Hnw]
              have HG2 := hide hg2
              have HD0 := hide hd0
              have HD1 := hide hd1
              have HRl := hide hRl
              have HST := hide hst
              have hi1 : (t : Int) < (n : Int) := by omega
              have hi2 : (t : Int) < (m : Int) := by omega
              clear hg2 hd0 hd1 hRl hst hca hI
              go_wp2_with (at_builtin; refine wpList_append_pb rfl (.tmp 114) (.tmp 119) rfl w14.heap.size t (m + nd) R pe ⟨wr.heap.size, 0, none⟩ rfl rfl (unhide HG2) (unhide HRl) (by omega) (unhide HD0) (unhide HD1) ?_)
              go_roundw
              case rel => exact ⟨t + 1, _, by omega, by go_num, rfl, unhide HST⟩
              case measure => simp [intOf]; omega
            · obtain rfl : t = m := by omega
              have hi2 : ¬ (t : Int) < (t : Int) := by omega
              have HI14 := hide hI
              clear hI
              go_wp2
              go_loopw [14, 16] (fun v i wr => ∃ j : Nat, ∃ R, j ≤ nd ∧ i = .int .i64 j ∧ v = .slice (some ⟨w14.heap.size, 0, none⟩) (t + j) (t + nd) ∧ Laid w14.heap.size (t + j) WW w14 wr R) (fun _ i _ => nd - (intOf i).toNat)
              case atStart => exact ⟨0, R, Nat.zero_le _, rfl, rfl, unhide HI14⟩
              case round =>
                obtain ⟨j, R, hj, rfl, rfl, hI⟩ := hrel
                have hcw : wr.cell? ⟨w12.heap.size, 0, none⟩ = some (.slice a14 nd c14) := (hI.hB.cell (p := ⟨w12.heap.size, 0, none⟩) hp14l).trans hc14
                by_cases hlt : j < nd
                · obtain ⟨ba, oa, rfl, hca⟩ := ((unhide R14).kept hI.hB).2 (by omega)
                  obtain ⟨g1, g2⟩ := hca j (by omega)
                  have hst := hI.step (by rw [unhide Hnw]; omega) (.cells #[.int .i64 (d.getD j pz).1, .string (d.getD j pz).2] 37)
                  rw [unhide HWd j] at hst
                  generalize d.getD j pz = pe at g1 g2 hst
                  have hgl := lt_of_block hI.hg
                  have hg2 : (wr.alloc (.cells #[.int .i64 pe.1, .string pe.2] 37)).heap[w14.heap.size]? = some (.cells (cells R) 37 (0, 0)) := by rw [Below.heap_alloc wr _ _ hgl]; exact hI.hg
                  have hd0 : (wr.alloc (.cells #[.int .i64 pe.1, .string pe.2] 37)).cell? ((⟨wr.heap.size, 0, none⟩ : Addr).add 0) = some (.int .i64 pe.1) := by rw [Addr.add_lit, Nat.zero_add, World.cell?_alloc_new]; rfl
                  have hd1 : (wr.alloc (.cells #[.int .i64 pe.1, .string pe.2] 37)).cell? ((⟨wr.heap.size, 0, none⟩ : Addr).add 1) = some (.string pe.2) := by rw [Addr.add_lit, Nat.zero_add, World.cell?_alloc_new]; rfl
                  have hRl : R.length = t + nd := by rw [hI.hR, unhide Hnw]
                  have HG2 := hide hg2
                  have HD0 := hide hd0
                  have HD1 := hide hd1
                  have HRl := hide hRl
                  have HST := hide hst
                  have hi1 : (j : Int) < (nd : Int) := by omega
                  clear hg2 hd0 hd1 hRl hst hca hI
                  go_wp2_with (at_builtin; refine wpList_append_pb rfl (.tmp 127) (.tmp 132) rfl w14.heap.size (t + j) (t + nd) R pe ⟨wr.heap.size, 0, none⟩ rfl rfl (unhide HG2) (unhide HRl) (by omega) (unhide HD0) (unhide HD1) ?_)
                  go_roundw
                  case rel => exact ⟨j + 1, _, by omega, by go_num, rfl, unhide HST⟩
                  case measure => simp [intOf]; omega
                · obtain rfl : j = nd := by omega
                  have HI15 := hide hI
                  clear hI
                  go_wp2
                  have hL := unhide HI15
                  have rE : PRow wr (some ⟨w14.heap.size, 0, none⟩) (t + j) WW := row_block hL.hg (m := t + j) (by rw [hL.hR, unhide Hnw]; exact Nat.le_refl _) (by rw [hL.hT, ← unhide Hnw]; simp) (unhide Hnw)
                  have r5 := (unhide R514).kept hL.hB
                  have r11 := (unhide R1114).kept hL.hB
                  have r2 := (unhide R214).kept hL.hB
                  have p5 := (hL.hB.block _ (lt_of_block (unhide HP514))).trans (unhide HP514)
                  have p11 := (hL.hB.block _ (lt_of_block (unhide HP1114))).trans (unhide HP1114)
                  have l5 : w3.heap.size < wr.heap.size := lt_of_block p5
                  have k5 : wr.cell? ⟨w3.heap.size, 0, none⟩ = some (.slice a5 (t + j) c5) := by rw [cell_of_row wr _ 0 _ 27 (0, 0) p5]; rfl
                  have k11 : wr.cell? ⟨w8.heap.size + 1, 0, none⟩ = some (.slice a11 (t + j) c11) := by rw [cell_of_row wr _ 0 _ 27 (0, 0) p11]; rfl
                  have S1 := hide (fun (W : World) (h : Below wr.heap.size wr W) => same_yes a5 a11 (t + j) c5 c11 WW W (by omega) (r5.kept h) (r11.kept h))
                  have S2 := hide (fun (W : World) (h : Below wr.heap.size wr W) => same_yes a5 (some ⟨w14.heap.size, 0, none⟩) (t + j) c5 (t + j) WW W (by omega) (r5.kept h) (rE.kept h))
                  have S3 := hide (fun (W : World) (h : Below wr.heap.size wr W) => unhide F17 W (r2.kept h))
                  have hsz14 : w14.heap.size < wr.heap.size := lt_of_block hL.hg
                  have BBr := hide ((unhide BB14).trans (hL.hB.mono (unhide BB14).size))
                  clear hL rE r5 r11 r2 p5 p11 HI15 HI14 F17 R14 R1114 R514 R214 HP1114 HP514 BB14 hcw HST14 HWm HWd Hgood
                  have hwr : IntKind.i64.wrap ((t : Int) + (j : Int)) = (t : Int) + (j : Int) := by rw [IntKind.wrap_i64]; omega
                  go_region_with (first
                    | (go_at_call_of 14 c11; refine (unhide S1 _ (Below.drew (Below.refl _ _))).mono ?_; rintro e wa ⟨rfl, hba⟩; have kA : wa.cell? ⟨w3.heap.size, 0, none⟩ = some (.slice a5 (t + j) c5) := (hba.cell (p := ⟨w3.heap.size, 0, none⟩) l5).trans k5; have HA : Hid (Below wr.heap.size wr wa) := (Below.drew (Below.refl _ _)).trans hba; clear hba)
                    | (go_at_call_of 14 w14; refine (unhide S2 _ (unhide HA)).mono ?_; rintro e wb ⟨rfl, hbb⟩; have HBb : Hid (Below wr.heap.size wr wb) := (unhide HA).trans (hbb.mono (unhide HA).size); have kB : wb.cell? ⟨w3.heap.size, 0, none⟩ = some (.slice a5 (t + j) c5) := ((unhide HBb).cell (p := ⟨w3.heap.size, 0, none⟩) l5).trans k5; clear hbb)
                    | (go_at_call 17; refine (unhide S3 _ (unhide HBb)).mono ?_; rintro e wc ⟨rfl, hbc⟩; have HCc : Hid (Below wr.heap.size wr wc) := (unhide HBb).trans (hbc.mono (unhide HBb).size); have kC : wc.cell? ⟨w3.heap.size, 0, none⟩ = some (.slice a5 (t + j) c5) := ((unhide HCc).cell (p := ⟨w3.heap.size, 0, none⟩) l5).trans k5; clear hbc))
                  all_goals
                    go_wp2
                    go_ret
                    refine ⟨ret_bool ?_, (unhide BBr).trans ((unhide HCc).mono (unhide BBr).size)⟩
                    first | rfl | simp | (rw [hwr]; simp)

end Go.Proofs.Qxb6618109a
