/-
  MY OWN WORK (seat b6618109a). The argument opened: a slice of problems that came in.
-/
import Derived.Test.Qxb6618109aLawOne
import Derived.Deep.SlicePairs
namespace Go.Proofs.Qxb6618109a
open Go.RowKit Go.ChangeShapes Go.WideShapes

theorem Try.cells38 : Try.prog.cellsOf 38 = 2 := by kernel_rfl

theorem open_pbs {H : Type} {enc : TypeId × Value → H} {W : World} {a : Option Addr} {len cap fuel : Nat} {x : DataW H × List MemPlace} (hf : DataW.trod enc Try.prog W 0 (fun _ => true) true fuel 22 (Value.slice a len cap).cells.toList = some x) :
    ∃ ps, PRow W a len ps ∧ (a = none → len = 0 ∧ cap = 0) ∧ len ≤ maxLen ∧ ∀ q ∈ ps, Good q := by
  rcases Deep.open_slice_pairs Try.underlying22 Try.underlying38 Try.cells38 rfl rfl Try.cells3 Try.cells9 hf with ⟨hcs, _⟩ | ⟨ad, l, c, m, n, V0, V1, D0, D1, P0, P1, hcs, _, hl, hm, hmm, _, hc⟩
  · simp [Value.cells] at hcs
    obtain ⟨rfl, rfl, rfl⟩ := hcs
    exact ⟨[], PRow.nil _ _, fun _ => ⟨rfl, rfl⟩, Nat.zero_le _, by simp⟩
  · simp [Value.cells] at hcs
    obtain ⟨rfl, rfl, rfl⟩ := hcs
    have hlm : len ≤ m := by rw [hmm]; simpa using hl
    have each : ∀ i, i < len → ∃ p : Pb, W.cell? (ad.add (i * 2)) = some (.int .i64 p.1) ∧ W.cell? (ad.add (i * 2 + 1)) = some (.string p.2) ∧ Good p := by
      intro i hi
      obtain ⟨h0, h1, t0, t1⟩ := hc i (by omega)
      obtain ⟨z, e0, _, wz⟩ := DataW.trod_int Try.underlying3 t0
      obtain ⟨s, e1, _, ws⟩ := DataW.trod_string Try.underlying9 t1
      simp at e0 e1
      rw [e0] at h0
      rw [e1] at h1
      exact ⟨(z, s), h0, h1, wz, ws⟩
    obtain ⟨f, hf'⟩ := Deep.choose_lt each
    have hg : ∀ i, i < len → ((List.range len).map f).getD i pz = f i := fun i hi => by simp [hi]
    refine ⟨(List.range len).map f, ⟨by simp, fun hn => ?_⟩, (fun h => by cases h), Nat.le_trans hl hm, ?_⟩
    · obtain ⟨b, off, spot⟩ := ad
      have hspot : spot = none := by simpa [Addr.add] using World.cell?_spot (hf' 0 hn).1
      subst hspot
      refine ⟨b, off, rfl, fun i hi => ?_⟩
      obtain ⟨h0, h1, _⟩ := hf' i hi
      rw [Addr.add_lit] at h0 h1
      rw [hg i hi]
      exact ⟨h0, by rw [Nat.add_assoc]; exact h1⟩
    · intro q hq
      obtain ⟨i, hi, rfl⟩ := List.mem_map.1 hq
      exact (hf' i (List.mem_range.1 hi)).2.2

end Go.Proofs.Qxb6618109a
