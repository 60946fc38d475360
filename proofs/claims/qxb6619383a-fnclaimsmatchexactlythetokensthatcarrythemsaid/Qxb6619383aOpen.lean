/-
  MY OWN WORK (seat b6619383a). The arguments opened: a slice of claims that came in.
-/
import Derived.Test.Qxb6619383aLaw
import Derived.Deep.SlicePairs
namespace Go.Proofs.Qxb6619383a
open Go.RowKit Go.ChangeShapes Go.WideShapes

theorem Try.cells36 : Try.prog.cellsOf 36 = 2 := by kernel_rfl
theorem Try.cells9 : Try.prog.cellsOf 9 = 1 := by kernel_rfl

theorem open_cls {H : Type} {enc : TypeId × Value → H} {W : World} {a : Option Addr} {len cap fuel : Nat} {x : DataW H × List MemPlace} (hf : DataW.trod enc Try.prog W 0 (fun _ => true) true fuel 27 (Value.slice a len cap).cells.toList = some x) :
    ∃ cs, CRow W a len cs ∧ (a = none → len = 0 ∧ cap = 0) ∧ len ≤ maxLen ∧ ∀ q ∈ cs, Good q := by
  rcases Deep.open_slice_pairs Try.underlying27 Try.underlying36 Try.cells36 rfl rfl Try.cells9 Try.cells9 hf with ⟨hcs, _⟩ | ⟨ad, l, c, m, n, V0, V1, D0, D1, P0, P1, hcs, _, hl, hm, hmm, _, hc⟩
  · simp [Value.cells] at hcs
    obtain ⟨rfl, rfl, rfl⟩ := hcs
    exact ⟨[], CRow.nil _ _, fun _ => ⟨rfl, rfl⟩, Nat.zero_le _, by simp⟩
  · simp [Value.cells] at hcs
    obtain ⟨rfl, rfl, rfl⟩ := hcs
    have hlm : len ≤ m := by rw [hmm]; simpa using hl
    have each : ∀ i, i < len → ∃ p : Cl, W.cell? (ad.add (i * 2)) = some (.string p.1) ∧ W.cell? (ad.add (i * 2 + 1)) = some (.string p.2) ∧ Good p := by
      intro i hi
      obtain ⟨h0, h1, t0, t1⟩ := hc i (by omega)
      obtain ⟨z, e0, _, wz⟩ := DataW.trod_string Try.underlying9 t0
      obtain ⟨s, e1, _, ws⟩ := DataW.trod_string Try.underlying9 t1
      simp at e0 e1
      rw [e0] at h0
      rw [e1] at h1
      exact ⟨(z, s), h0, h1, wz, ws⟩
    obtain ⟨f, hf'⟩ := Deep.choose_lt each
    have hg : ∀ i, i < len → ((List.range len).map f).getD i cz = f i := fun i hi => by simp [hi]
    refine ⟨(List.range len).map f, ⟨by simp, fun hn => ?_⟩, (fun h => by cases h), Nat.le_trans hl hm, ?_⟩
    · obtain ⟨b, off, spot⟩ := ad
      have hspot : spot = none := by simpa [Addr.add] using World.cell?_spot (hf' 0 hn).1
      subst hspot
      refine ⟨b, off, rfl, fun i hi => ?_⟩
      obtain ⟨h0, h1, _⟩ := hf' i hi
      rw [Addr.add_lit] at h0 h1
      rw [hg i hi]
      exact ⟨h0, by rw [Nat.add_assoc]; exact h1⟩
    · intro q hq
      obtain ⟨i, hi, rfl⟩ := List.mem_map.1 hq
      exact (hf' i (List.mem_range.1 hi)).2.2

end Go.Proofs.Qxb6619383a
