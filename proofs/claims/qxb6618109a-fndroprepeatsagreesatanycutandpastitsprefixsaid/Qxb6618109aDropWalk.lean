/-
  MY OWN WORK (seat b6618109a). The walk of (*Problems).dropRepeats.
-/
import Derived.Test.Qxb6618109aDrop
namespace Go.Proofs.Qxb6618109a
open Go.RowKit

theorem length_dropT (ps : List Pb) (m n : Nat) (hps : ps.length = n) (hm : m ≤ n) : (drop ps m).length = m + (dd ((ps.drop m).take (n - m))).length := by
  have e : (ps.drop m).take (n - m) = ps.drop m := List.take_of_length_le (by simp; omega)
  rw [e]
  unfold drop
  simp; omega

set_option maxHeartbeats 1000000 in
theorem drop_row (B p g n c m : Nat) (R0 ps : List Pb) (w : World) (hp : w.heap[p]? = some (.cells #[.slice (some ⟨g, 0, none⟩) n c] 27 (0, 0))) (hg : w.heap[g]? = some (.cells (cells R0) 37 (0, 0)))
    (hR : R0.length = c) (hn : n ≤ c) (hc : c ≤ 8192) (hps : R0.take n = ps) (hm : m < n) (hgood : ∀ q ∈ ps, Good q) (hBp : B ≤ p) (hBg : B ≤ g) :
    Calls Try.prog 26 #[.pointer (some ⟨p, 0, none⟩), .int .i64 m] w fun e w' => e = .returned (.tuple #[]) ∧
      w'.heap[p]? = some (.cells #[.slice (some ⟨g, 0, none⟩) (drop ps m).length c] 27 (0, 0)) ∧ (∃ R, w'.heap[g]? = some (.cells (cells R) 37 (0, 0)) ∧ R.length = c ∧ R.take (drop ps m).length = drop ps m) ∧ Below B w w' := by
  have hmm := @run_makeMap Try.prog
  have hpl := lt_of_block hp
  have hgl := lt_of_block hg
  have hgp : g ≠ p := by rintro rfl; rw [hp] at hg; simp at hg
  have hpn : ps.length = n := by rw [← hps]; simp; omega
  have c0 : w.cell? ⟨p, 0, none⟩ = some (.slice (some ⟨g, 0, none⟩) n c) := by rw [cell_of_row w p 0 _ 27 (0, 0) hp]; rfl
  have I0 := hide (Inv.start B p g n c m R0 ps w hp hg hR hn hps (by omega) hBp)
  have Hpn := hide hpn
  have Hgood := hide hgood
  have hmc : ¬ c = m := by omega
  clear hp hg hR hps hgood hpn
  go_enter Try.func26, Try.ntmps26
  go_wp2
  clear hmm c0
  go_loopw [5, 20] (fun v i wr => ∃ k : Nat, ∃ R, k ≤ n - m ∧ i = .int .i64 k ∧ v = .slice (some ⟨g, 0, none⟩) (m + (dd ((ps.drop m).take k)).length) c ∧ Inv B p g n c m w.heap.size ps w k wr R) (fun _ i _ => n - m - (intOf i).toNat)
  case atStart => exact ⟨0, R0, Nat.zero_le _, rfl, by simp [dd_nil], unhide I0⟩
  case round =>
    obtain ⟨k, R, hk, rfl, rfl, hI⟩ := hrel
    by_cases hlt : k < n - m
    · have hK := hI.count
      have hpk := hI.hU k (Nat.le_refl _) hlt
      have hRl := hI.hR
      have gA := cell_of_row wr g ((m + k) * 2) _ 37 (0, 0) hI.hg
      have gB := cell_of_row wr g ((m + k) * 2 + 1) _ 37 (0, 0) hI.hg
      rw [cells_at0 R (m + k) (by omega), hpk] at gA
      rw [cells_at1 R (m + k) (by omega), hpk] at gB
      rw [show (m + k) * 2 = m * 2 + k * 2 from by omega] at gA gB
      have hgl' := lt_of_block hI.hg
      have hgk : Good ((ps.drop m).getD k pz) := by
        have h1 : k < (ps.drop m).length := by have := unhide Hpn; simp; omega
        rw [getD_at h1]
        exact unhide Hgood _ (List.mem_of_mem_drop (List.getElem_mem h1))
      have hgD : ∀ q ∈ dd ((ps.drop m).take k), Good q := fun q hq => unhide Hgood q (List.mem_of_mem_drop (List.mem_of_mem_take ((mem_dd _ _).1 hq)))
      generalize hpkk : (ps.drop m).getD k pz = pk at gA gB hgk
      have Hpk := hide hpkk
      generalize hDD : dd ((ps.drop m).take k) = D at hK hgD
      have HD := hide hDD
      have hSe : Seen (wr.alloc (.cells #[.int .i64 pk.1, .string pk.2] 37)) w.heap.size D := by
        rw [← hDD]; exact hI.hS.of_block (Below.heap_alloc wr _ _ hI.hS.lt)
      have hlk := hSe.look hgD pk hgk
      have hkI : (k : Int) < ((n - m : Nat) : Int) := by omega
      clear hpk hRl hpkk hDD
      by_cases hin : pk ∈ D
      · rw [(isIn_iff _ _).2 hin] at hlk
        have HI := hide hI
        have Hin := hide hin
        clear hI hin hSe hgD
        go_wp2
        go_roundw
        case rel =>
          have hin := unhide Hin
          rw [← unhide HD, ← unhide Hpk] at hin
          have hkl : k < (ps.drop m).length := by have := unhide Hpn; simp; omega
          refine ⟨k + 1, R, by omega, by go_num, ?_, (unhide HI).skip (unhide Hpn) hlt hin ((Below.refl _ _).alloc (Nat.le_refl _) _) (by omega)⟩
          rw [dd_take_succ _ k hkl, add_in (by rw [← getD_at hkl]; exact hin), unhide HD]
        case measure => simp [intOf]; omega
      · have hf : isIn D pk = false := by
          cases hh : isIn D pk
          · rfl
          · exact absurd ((isIn_iff _ _).1 hh) hin
        rw [hf] at hlk
        obtain ⟨w1, hrun, hS1, hgr, hsz⟩ := hSe.put hgD pk hgk hin
        have hml := hI.hS.lt
        have hb7 : w1.heap[wr.heap.size]? = some (.cells #[.int .i64 pk.1, .string pk.2] 37 (0, 0)) := by
          rw [hgr.block wr.heap.size (by simp) (by simp; omega)]
          exact heap_alloc_new wr _
        have c70 : w1.cell? ⟨wr.heap.size, 0, none⟩ = some (.int .i64 pk.1) := by rw [cell_of_row w1 _ 0 _ 37 (0, 0) hb7]; rfl
        have c71 : w1.cell? ⟨wr.heap.size, 1, none⟩ = some (.string pk.2) := by rw [cell_of_row w1 _ 1 _ 37 (0, 0) hb7]; rfl
        have hg1 : w1.heap[g]? = some (.cells (cells R) 37 (0, 0)) := by
          rw [hgr.block g (by simp; omega) (by simp; omega), Below.heap_alloc wr _ _ hgl']; exact hI.hg
        have hg2 : (w1.alloc (.cells #[.int .i64 pk.1, .string pk.2] 37)).heap[g]? = some (.cells (cells R) 37 (0, 0)) := by rw [Below.heap_alloc w1 _ _ (lt_of_block hg1)]; exact hg1
        have hd0 : (w1.alloc (.cells #[.int .i64 pk.1, .string pk.2] 37)).cell? ((⟨w1.heap.size, 0, none⟩ : Addr).add 0) = some (.int .i64 pk.1) := by rw [Addr.add_lit, Nat.zero_add, World.cell?_alloc_new]; rfl
        have hd1 : (w1.alloc (.cells #[.int .i64 pk.1, .string pk.2] 37)).cell? ((⟨w1.heap.size, 0, none⟩ : Addr).add 1) = some (.string pk.2) := by rw [Addr.add_lit, Nat.zero_add, World.cell?_alloc_new]; rfl
        have HG2 := hide hg2
        have HD0 := hide hd0
        have HD1 := hide hd1
        have HRl := hide hI.hR
        clear hg2 hd0 hd1
        have HI := hide hI
        have Hin := hide hin
        have HS1 := hide hS1
        have Hgr := hide hgr
        have hws : wr.heap.size < w1.heap.size := lt_of_block hb7
        have hBw : B ≤ w.heap.size := by omega
        clear hI hin hSe hgD hS1 hgr hsz hb7 hg1 hf
        go_wp2_with (at_builtin; refine wpList_append_pb rfl (.tmp 30) (.tmp 32) rfl g (m + D.length) c R pk ⟨w1.heap.size, 0, none⟩ rfl rfl (unhide HG2) (unhide HRl) (by omega) (unhide HD0) (unhide HD1) ?_)
        go_roundw
        case rel =>
          have hin := unhide Hin
          have hS1 := unhide HS1
          have hD := unhide HD
          have hq := unhide Hpk
          have hkl : k < (ps.drop m).length := by have := unhide Hpn; simp; omega
          have K := (unhide HI).keep (o2 := .cells #[.int .i64 pk.1, .string pk.2] 37) (unhide Hpn) hlt hn (by rw [hD, hq]; exact hin) hBp hBg hBw (by rw [hD, hq]; exact hS1) (unhide Hgr) (by omega) (by omega) hgp
          rw [hD, hq] at K
          refine ⟨k + 1, _, by omega, by go_num, ?_, K⟩
          rw [dd_take_succ _ k hkl, add_out (by rw [← getD_at hkl, hD, hq]; exact hin), hD]
          simp [Nat.add_assoc]
        case measure => simp [intOf]; omega
    · obtain rfl : k = n - m := by omega
      have hp2 := hI.hp
      have c2 : wr.cell? ⟨p, 0, none⟩ = some (.slice (some ⟨g, 0, none⟩) n c) := by rw [cell_of_row wr p 0 _ 27 (0, 0) hp2]; rfl
      have f2 : wr.frozen? ⟨p, 0, none⟩ = false := frozen_of_row wr p 0 _ 27 hp2
      have HI := hide hI
      clear hI hp2
      go_wp2
      go_end0
      have hI := unhide HI
      have el := length_dropT ps m n (unhide Hpn) (by omega)
      have ed : drop ps m = ps.take m ++ dd ((ps.drop m).take (n - m)) := by
        rw [List.take_of_length_le (i := n - m) (l := ps.drop m) (by have := unhide Hpn; simp; omega)]; rfl
      refine ⟨rfl, ?_, ⟨R, ?_, hI.hR, ?_⟩, hI.hB.setCell hBp _⟩
      · rw [heap_setCell_same wr p 0 _ 27 _ hI.hp, el]; simp
      · rw [Below.heap_setCell _ _ _ _ (by simpa using hgp)]; exact hI.hg
      · rw [el, ed]; exact hI.hT

theorem same_store {w : World} {p B : Nat} {v : Value} (hp : w.heap[p]? = some (.cells #[v] 27 (0, 0))) (hBp : B ≤ p) (o : Obj) :
    (∀ k, k < w.heap.size → ((w.setCell ⟨p, 0, none⟩ v).alloc o).heap[k]? = w.heap[k]?) ∧ Below B w ((w.setCell ⟨p, 0, none⟩ v).alloc o) := by
  have hpl := lt_of_block hp
  have hs : (w.setCell ⟨p, 0, none⟩ v).heap.size = w.heap.size := by simp [World.setCell]
  refine ⟨fun k hk => ?_, ((Below.refl _ _).setCell hBp _).alloc (by rw [hs]; omega) _⟩
  rw [Below.heap_alloc _ _ _ (by rw [hs]; exact hk)]
  by_cases e : k = p
  · subst e
    rw [heap_setCell_same w k 0 _ 27 _ hp, hp]; simp
  · exact Below.heap_setCell _ _ _ _ (by simpa using e)

/-- Nothing stands behind the prefix. -/
theorem drop_end (B p g n c : Nat) (w : World) (hp : w.heap[p]? = some (.cells #[.slice (some ⟨g, 0, none⟩) n c] 27 (0, 0))) (hn : n ≤ c) (_hc : c ≤ 8192) (hBp : B ≤ p) :
    Calls Try.prog 26 #[.pointer (some ⟨p, 0, none⟩), .int .i64 n] w fun e w' => e = .returned (.tuple #[]) ∧ (∀ k, k < w.heap.size → w'.heap[k]? = w.heap[k]?) ∧ Below B w w' := by
  have hmm := @run_makeMap Try.prog
  have hpl := lt_of_block hp
  have c0 : w.cell? ⟨p, 0, none⟩ = some (.slice (some ⟨g, 0, none⟩) n c) := by rw [cell_of_row w p 0 _ 27 (0, 0) hp]; rfl
  have f0 : w.frozen? ⟨p, 0, none⟩ = false := frozen_of_row w p 0 _ 27 hp
  have Hp := hide hp
  clear hp
  by_cases hmc : c = n
  · subst hmc
    go_enter Try.func26, Try.ntmps26
    go_wp2
    refine wp_loop_rounds 1 ?_
    rw [rounds_succ]
    go_wp2
    go_end0
    exact ⟨rfl, same_store (unhide Hp) hBp _⟩
  · go_enter Try.func26, Try.ntmps26
    go_wp2
    refine wp_loop_rounds 1 ?_
    rw [rounds_succ]
    go_wp2
    go_end0
    exact ⟨rfl, same_store (unhide Hp) hBp _⟩

theorem drop_nil (B p : Nat) (w : World) (hp : w.heap[p]? = some (.cells #[.slice none 0 0] 27 (0, 0))) (hBp : B ≤ p) :
    Calls Try.prog 26 #[.pointer (some ⟨p, 0, none⟩), .int .i64 0] w fun e w' => e = .returned (.tuple #[]) ∧ (∀ k, k < w.heap.size → w'.heap[k]? = w.heap[k]?) ∧ Below B w w' := by
  have hmm := @run_makeMap Try.prog
  have hpl := lt_of_block hp
  have c0 : w.cell? ⟨p, 0, none⟩ = some (.slice none 0 0) := by rw [cell_of_row w p 0 _ 27 (0, 0) hp]; rfl
  have f0 : w.frozen? ⟨p, 0, none⟩ = false := frozen_of_row w p 0 _ 27 hp
  have Hp := hide hp
  clear hp
  go_enter Try.func26, Try.ntmps26
  go_wp2
  refine wp_loop_rounds 1 ?_
  rw [rounds_succ]
  go_wp2
  go_end0
  exact ⟨rfl, same_store (unhide Hp) hBp _⟩

/-- The slice v holds the problems ps: it is nil, or it begins at the head of a row of the call's own (blocks from B on). -/
def PV (B : Nat) (w : World) (v : Value) (ps : List Pb) : Prop :=
  (v = .slice none 0 0 ∧ ps = []) ∨ ∃ g c R, v = .slice (some ⟨g, 0, none⟩) ps.length c ∧ w.heap[g]? = some (.cells (cells R) 37 (0, 0)) ∧ R.length = c ∧ c ≤ 8192 ∧ R.take ps.length = ps ∧ B ≤ g

theorem drop_all (ps : List Pb) : drop ps ps.length = ps := by
  unfold drop
  rw [List.take_length, List.drop_length, dd_nil, List.append_nil]

/-- dropRepeats, whatever the slice. -/
theorem drop_any (B p m : Nat) (v : Value) (ps : List Pb) (w : World) (hp : w.heap[p]? = some (.cells #[v] 27 (0, 0))) (hv : PV B w v ps) (hm : m ≤ ps.length) (hgood : ∀ q ∈ ps, Good q) (hBp : B ≤ p) :
    Calls Try.prog 26 #[.pointer (some ⟨p, 0, none⟩), .int .i64 m] w fun e w' => e = .returned (.tuple #[]) ∧ (∃ v', w'.heap[p]? = some (.cells #[v'] 27 (0, 0)) ∧ PV B w' v' (drop ps m)) ∧ Below B w w' := by
  rcases hv with ⟨rfl, rfl⟩ | ⟨g, c, R, rfl, hg, hR, hc, hps, hBg⟩
  · obtain rfl : m = 0 := by simpa using hm
    refine (drop_nil B p w hp hBp).mono ?_
    rintro e w' ⟨rfl, hk, hb⟩
    exact ⟨rfl, ⟨_, (hk p (lt_of_block hp)).trans hp, Or.inl ⟨rfl, rfl⟩⟩, hb⟩
  · have hn : ps.length ≤ c := by
      have := congrArg List.length hps
      simp at this; omega
    by_cases h : m < ps.length
    · refine (drop_row B p g ps.length c m R ps w hp hg hR hn hc hps h hgood hBp hBg).mono ?_
      rintro e w' ⟨rfl, hp', ⟨R', hg', hR', ht⟩, hb⟩
      exact ⟨rfl, ⟨_, hp', Or.inr ⟨g, c, R', rfl, hg', hR', hc, ht, hBg⟩⟩, hb⟩
    · obtain rfl : m = ps.length := by omega
      refine (drop_end B p g ps.length c w hp hn hc hBp).mono ?_
      rintro e w' ⟨rfl, hk, hb⟩
      rw [drop_all]
      exact ⟨rfl, ⟨_, (hk p (lt_of_block hp)).trans hp, Or.inr ⟨g, c, R, rfl, (hk g (lt_of_block hg)).trans hg, hR, hc, hps, hBg⟩⟩, hb⟩

/-- ZZdropRepeats hands on. -/
theorem zzdrop_any (B p m : Nat) (v : Value) (ps : List Pb) (w : World) (hp : w.heap[p]? = some (.cells #[v] 27 (0, 0))) (hv : PV B w v ps) (hm : m ≤ ps.length) (hgood : ∀ q ∈ ps, Good q) (hBp : B ≤ p) :
    Calls Try.prog 11 #[.pointer (some ⟨p, 0, none⟩), .int .i64 m] w fun e w' => e = .returned (.tuple #[]) ∧ (∃ v', w'.heap[p]? = some (.cells #[v'] 27 (0, 0)) ∧ PV B w' v' (drop ps m)) ∧ Below B w w' := by
  have H := hide (drop_any B p m v ps w hp hv hm hgood hBp)
  clear hp hv hm hgood hBp
  go_enter Try.func11, Try.ntmps11
  go_wp2_with fail
  refine (unhide H).mono ?_
  rintro e w' ⟨rfl, hf, hb⟩
  have F := hide hf
  have G := hide hb
  clear hf hb H
  go_wp2
  go_end0
  exact ⟨rfl, unhide F, unhide G⟩

theorem PV.row {B : Nat} {w : World} {v : Value} {ps : List Pb} (h : PV B w v ps) : ∃ a c, v = .slice a ps.length c ∧ PRow w a ps.length ps := by
  rcases h with ⟨rfl, rfl⟩ | ⟨g, c, R, rfl, hg, hR, hc, hps, _⟩
  · exact ⟨none, 0, rfl, PRow.nil _ _⟩
  · have hn : ps.length ≤ R.length := by
      have := congrArg List.length hps
      simp at this; omega
    exact ⟨_, c, rfl, row_block hg hn hps rfl⟩

/-- What is held stays held below B'. -/
theorem PV.kept {B B' : Nat} {w w' : World} {v : Value} {ps : List Pb} (h : PV B w v ps) (hb : Below w.heap.size w w') (hB : B' ≤ B) : PV B' w' v ps := by
  rcases h with h | ⟨g, c, R, rfl, hg, hR, hc, hps, hBg⟩
  · exact Or.inl h
  · exact Or.inr ⟨g, c, R, rfl, (hb.block g (lt_of_block hg)).trans hg, hR, hc, hps, Nat.le_trans hB hBg⟩

end Go.Proofs.Qxb6618109a
