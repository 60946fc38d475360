/-
  MY OWN WORK (seat b6618109a). (*Problems).dropRepeats: it appends, within the capacity, to the very row over which it ranges.
-/
import Derived.Test.Qxb6618109aMap
namespace Go.Proofs.Qxb6618109a
open Go.RowKit

theorem flat_splice (R : List Pb) (k : Nat) (p : Pb) (h : k < R.length) : (flat R).take (k * 2) ++ [.int .i64 p.1, .string p.2] ++ (flat R).drop (k * 2 + 2) = flat (R.set k p) := by
  have e : R = R.take k ++ R[k] :: R.drop (k + 1) := by
    conv => lhs; rw [← List.take_append_drop k R, List.drop_eq_getElem_cons h]
  have hl : (R.take k).length = k := by simp; omega
  have e2 : R.set k p = R.take k ++ p :: R.drop (k + 1) := by
    rw [List.set_eq_take_append_cons_drop, if_pos h]
  have e3 : flat R = flat (R.take k) ++ flat (R[k] :: R.drop (k + 1)) := by rw [← flat_append, ← e]
  have hl2 : (flat (R.take k)).length = k * 2 := by rw [length_flat, hl]
  rw [e2, flat_append, flat_cons, e3, List.take_append_of_le_length (by omega), List.take_of_length_le (by omega), List.drop_append, hl2, show k * 2 + 2 - k * 2 = 2 from by omega, List.drop_eq_nil_of_le (by omega), flat_cons]
  simp

/-- 'kept = append(kept, p)' within the capacity. -/
theorem run_append_pb (w : World) (g k c : Nat) (R : List Pb) (p : Pb) (ad : Addr) (ty : TypeId) (hg : w.heap[g]? = some (.cells (cells R) 37 (0, 0))) (hR : R.length = c) (hk : k < c)
    (h0 : w.cell? (ad.add 0) = some (.int .i64 p.1)) (h1 : w.cell? (ad.add 1) = some (.string p.2)) :
    (Builtin.append_ #[27, 27] ty #[.slice (some ⟨g, 0, none⟩) k c, .slice (some ad) 1 1]).run Try.prog w = .ok (.slice (some ⟨g, 0, none⟩) (k + 1) c) (w.setRow g (cells (R.set k p))) := by
  obtain ⟨i, hi, hz, hs, hb⟩ := info_parts Try.info37
  have hl : ([.int .i64 p.1, .string p.2] : List Value).length = 1 * i.size := by rw [hs]; rfl
  have := run_append_room (P := Try.prog) w 27 ty 37 i Try.underlying27 hi g k c (cells R) hg ad 1 1 [.int .i64 p.1, .string p.2] hl ?_ ?_ (by omega) (by rw [hs, size_cells]; simp; omega)
  · rw [this, hs]
    have e : (cells R).toList = flat R := by simp [cells]
    rw [e, show k * 2 + ([.int .i64 p.1, .string p.2] : List Value).length = k * 2 + 2 from rfl, flat_splice R k p (by omega)]
    rfl
  · intro j u hu
    match j, hu with
    | 0, hu => simp at hu; rw [← hu]; exact h0
    | 1, hu => simp at hu; rw [← hu]; exact h1
  · intro u hu
    simp at hu
    rcases hu with rfl | rfl <;> rfl

/-- .. as a law for the walk. -/
theorem wpList_append_pb {w : World} {ops : Array Oper} {rest : List Oper} {o : Oper} {a : Act} {Q : Exit → Act → World → Prop} (hgd : o.guard = none) (s x : Operand)
    (ho : o.op = .call { callee := .builtin .append, args := #[s, x], argTypes := #[27, 27] }) (g k c : Nat) (R : List Pb) (p : Pb) (ad : Addr) (hs : a.eval s = .slice (some ⟨g, 0, none⟩) k c) (hx : a.eval x = .slice (some ad) 1 1)
    (hg : w.heap[g]? = some (.cells (cells R) 37 (0, 0))) (hR : R.length = c) (hk : k < c) (h0 : w.cell? (ad.add 0) = some (.int .i64 p.1)) (h1 : w.cell? (ad.add 1) = some (.string p.2))
    (h : wpList Try.prog ops Q rest (a.put o.dst (.slice (some ⟨g, 0, none⟩) (k + 1) c)) (w.setRow g (cells (R.set k p)))) : wpList Try.prog ops Q (o :: rest) a w := by
  refine wpList_plain hgd fun K hK => ?_
  have hrun := run_append_pb w g k c R p ad o.type hg hR hk h0 h1
  unfold Oper.wp
  simp [execOp, ho, resolve, invoke, builtin, hs, hx, hrun, Result.andThen]
  exact hK _ _ h

theorem getD_at {l : List Pb} {k : Nat} (h : k < l.length) : l.getD k pz = l[k] := by simp [h]

/-- What holds after k rounds. -/
structure Inv (B p g n c m mb : Nat) (ps : List Pb) (w : World) (k : Nat) (wr : World) (R : List Pb) : Prop where
  hg : wr.heap[g]? = some (.cells (cells R) 37 (0, 0))
  hR : R.length = c
  hT : R.take (m + (dd ((ps.drop m).take k)).length) = ps.take m ++ dd ((ps.drop m).take k)
  hU : ∀ j, k ≤ j → j < n - m → R.getD (m + j) pz = (ps.drop m).getD j pz
  hp : wr.heap[p]? = some (.cells #[.slice (some ⟨g, 0, none⟩) n c] 27 (0, 0))
  hS : Seen wr mb (dd ((ps.drop m).take k))
  hB : Below B w wr

theorem Inv.start (B p g n c m : Nat) (R0 ps : List Pb) (w : World) (hp : w.heap[p]? = some (.cells #[.slice (some ⟨g, 0, none⟩) n c] 27 (0, 0))) (hg : w.heap[g]? = some (.cells (cells R0) 37 (0, 0)))
    (hR : R0.length = c) (hn : n ≤ c) (hps : R0.take n = ps) (hm : m ≤ n) (hBp : B ≤ p) : Inv B p g n c m w.heap.size ps w 0 (w.alloc (.map #[] 0)) R0 := by
  have hl : B ≤ w.heap.size := by have := lt_of_block hp; omega
  refine ⟨by rw [Below.heap_alloc w _ _ (lt_of_block hg)]; exact hg, hR, ?_, ?_, by rw [Below.heap_alloc w _ _ (lt_of_block hp)]; exact hp, Seen.made w, (Below.refl _ _).alloc hl _⟩
  · rw [← hps]
    simp [dd_nil, List.take_take]
    omega
  · intro j _ hj
    rw [← hps]
    simp [List.getElem?_drop, show m + j < n by omega]

theorem Inv.count {B p g n c m mb : Nat} {ps : List Pb} {w : World} {k : Nat} {wr : World} {R : List Pb} (_h : Inv B p g n c m mb ps w k wr R) : (dd ((ps.drop m).take k)).length ≤ k := by
  have := length_dd ((ps.drop m).take k)
  simp at this
  omega

/-- A round at which nothing is kept. -/
theorem Inv.skip {B p g n c m mb : Nat} {ps : List Pb} {w : World} {k : Nat} {wr wr' : World} {R : List Pb} (h : Inv B p g n c m mb ps w k wr R) (hps : ps.length = n) (hk : k < n - m)
    (hin : (ps.drop m).getD k pz ∈ dd ((ps.drop m).take k)) (hb : Below wr.heap.size wr wr') (hBw : B ≤ wr.heap.size) : Inv B p g n c m mb ps w (k + 1) wr' R := by
  have hkl : k < (ps.drop m).length := by simp; omega
  have e : dd ((ps.drop m).take (k + 1)) = dd ((ps.drop m).take k) := by
    rw [dd_take_succ _ k hkl]
    exact add_in (by rw [← getD_at hkl]; exact hin)
  refine ⟨?_, h.hR, by rw [e]; exact h.hT, fun j hj hj' => h.hU j (by omega) hj', ?_, ?_, h.hB.trans (hb.mono hBw)⟩
  · rw [hb.block g (lt_of_block h.hg)]; exact h.hg
  · rw [hb.block p (lt_of_block h.hp)]; exact h.hp
  · rw [e]; exact h.hS.of_block (hb.block mb h.hS.lt)

/-- A round at which the element is kept: w1 is the world behind 'seen[p] = true', w2 that with the row turned. -/
theorem Inv.keep {B p g n c m mb : Nat} {ps : List Pb} {w : World} {k : Nat} {wr w1 : World} {R : List Pb} {o1 o2 : Obj} (h : Inv B p g n c m mb ps w k wr R) (hps : ps.length = n) (hk : k < n - m) (hn : n ≤ c)
    (hout : (ps.drop m).getD k pz ∉ dd ((ps.drop m).take k)) (hBp : B ≤ p) (hBg : B ≤ g) (hBm : B ≤ mb) (hS1 : Seen w1 mb (dd ((ps.drop m).take k) ++ [(ps.drop m).getD k pz])) (hgr : (wr.alloc o1).grownBy w1 (some mb)) (hmg : mb ≠ g) (hmp : mb ≠ p) (hgp : g ≠ p) :
    Inv B p g n c m mb ps w (k + 1) ((w1.alloc o2).setRow g (cells (R.set (m + (dd ((ps.drop m).take k)).length) ((ps.drop m).getD k pz)))) (R.set (m + (dd ((ps.drop m).take k)).length) ((ps.drop m).getD k pz)) := by
  have hkl : k < (ps.drop m).length := by simp; omega
  have hK := h.count
  have e : dd ((ps.drop m).take (k + 1)) = dd ((ps.drop m).take k) ++ [(ps.drop m).getD k pz] := by
    rw [dd_take_succ _ k hkl, getD_at hkl, add_out]
    rw [← getD_at hkl]; exact hout
  have hgl := lt_of_block h.hg
  have hpl := lt_of_block h.hp
  have hml := h.hS.lt
  have s1 : wr.heap.size + 1 ≤ w1.heap.size := by have := hgr.size; simpa using this
  have g1 : w1.heap[g]? = some (.cells (cells R) 37 (0, 0)) := by
    rw [hgr.block g (by simp; omega) (by simp; omega), Below.heap_alloc wr _ _ hgl]; exact h.hg
  have p1 : w1.heap[p]? = some (.cells #[.slice (some ⟨g, 0, none⟩) n c] 27 (0, 0)) := by
    rw [hgr.block p (by simp; omega) (by simp; omega), Below.heap_alloc wr _ _ hpl]; exact h.hp
  have g2 : (w1.alloc o2).heap[g]? = some (.cells (cells R) 37 (0, 0)) := by rw [Below.heap_alloc w1 _ _ (lt_of_block g1)]; exact g1
  have hRc := h.hR
  refine ⟨setRow_heap _ g _ _ 37 _ g2, by rw [List.length_set]; exact h.hR, ?_, ?_, ?_, ?_, ?_⟩
  · have hlen : m + (dd ((ps.drop m).take k)).length < R.length := by omega
    rw [e, List.length_append, List.length_singleton, ← Nat.add_assoc, List.take_succ_eq_append_getElem (by rw [List.length_set]; exact hlen), List.take_set_of_le (Nat.le_refl _), h.hT, List.getElem_set_self, List.append_assoc]
  · intro j hj hj'
    rw [List.getD_eq_getElem?_getD, List.getElem?_set_ne (by omega), ← List.getD_eq_getElem?_getD]
    exact h.hU j (by omega) hj'
  · rw [setRow_other _ g p _ (by omega), Below.heap_alloc w1 _ _ (lt_of_block p1)]; exact p1
  · rw [e]
    exact hS1.of_block (by rw [setRow_other _ g mb _ (by omega), Below.heap_alloc w1 _ _ hS1.lt])
  · have hBs : B ≤ wr.heap.size := by omega
    have b1 : Below B w (wr.alloc o1) := h.hB.alloc hBs o1
    have b2 : Below B w w1 := b1.grown hgr (by simp; omega) (fun k hk => by cases hk; exact hBm)
    have b3 : Below B w (w1.alloc o2) := b2.alloc (by omega) o2
    exact b3.trans ⟨rfl, rfl, rfl, by simp [World.setRow], fun k hk => setRow_other _ g k _ (by omega)⟩

end Go.Proofs.Qxb6618109a
