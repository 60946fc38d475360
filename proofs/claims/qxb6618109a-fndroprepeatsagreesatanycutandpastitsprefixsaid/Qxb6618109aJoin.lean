/-
  MY OWN WORK (seat b6618109a). What the law of the cut does with rows of its own: 'make(.., 0, n)', then one append a round.
-/
import Derived.Test.Qxb6618109aLawOne
import Derived.Test.Qxb6618109aDistinct
import Derived.Deep.RegionLaw
namespace Go.Proofs.Qxb6618109a
open Go.RowKit

/-- 'make([]Problem, 0, n)' -/
theorem wpList_make_pbs (w : World) {ops : Array Oper} {rest : List Oper} {o : Oper} {a : Act} {Q : Exit → Act → World → Prop} (hg : o.guard = none) (l c : Operand) (hop : o.op = Op.makeSlice 27 l c)
    (C : Int) (n : Nat) (hl : a.eval l = .int .i64 0) (hc : a.eval c = .int .i64 C) (hC : C = (n : Int)) (hn : n ≤ 8192)
    (hK : wpList Try.prog ops Q rest (a.put o.dst (.slice (some ⟨w.heap.size, 0, none⟩) 0 n)) (w.alloc (.cells (cells (List.replicate n pz)) 37))) : wpList Try.prog ops Q (o :: rest) a w := by
  refine wpList_plain hg fun K hK' => ?_
  obtain ⟨i, hi, hz, hs, hb⟩ := info_parts Try.info37
  have hr := run_make (P := Try.prog) w 27 37 i _ Try.underlying27 hi hz .i64 .i64 0 n (Int.le_refl _) (by omega) (by rw [hb]; omega) (by omega)
  simp only [Int.toNat_natCast, hs, Int.toNat_zero] at hr
  have hr' : (Instr.makeSlice 27 (.int .i64 0) (.int .i64 (n : Int))).run Try.prog w = .ok (.slice (some ⟨w.heap.size, 0, none⟩) 0 n) (w.alloc (.cells (cells (List.replicate n pz)) 37)) := by
    rw [hr, ← cells_made]; rfl
  subst hC
  unfold Oper.wp
  simp [execOp, hop, hl, hc, hr', Result.andThen]
  exact hK' _ _ hK

/-- The append as one step of a region that draws its order. -/
theorem step_append_pb {w : World} {ops : Array Oper} {o : Oper} {a : Act} {K : Act → World → Prop} {Q : Exit → Act → World → Prop} {E : Prop} (hgd : o.guard = none) (s x : Operand)
    (ho : o.op = .call { callee := .builtin .append, args := #[s, x], argTypes := #[27, 27] }) (g k c : Nat) (R : List Pb) (p : Pb) (ad : Addr) (hs : a.eval s = .slice (some ⟨g, 0, none⟩) k c) (hx : a.eval x = .slice (some ad) 1 1)
    (hg : w.heap[g]? = some (.cells (cells R) 37 (0, 0))) (hR : R.length = c) (hk : k < c) (h0 : w.cell? (ad.add 0) = some (.int .i64 p.1)) (h1 : w.cell? (ad.add 1) = some (.string p.2))
    (h : K (a.put o.dst (.slice (some ⟨g, 0, none⟩) (k + 1) c)) (w.setRow g (cells (R.set k p)))) :
    if Region.wanted o (yielded ops a.tmps) = true then Oper.wp Try.prog o a w K Q else E := by
  have hw : Region.wanted o (yielded ops a.tmps) = true := by simp [Region.wanted, hgd]
  rw [if_pos hw]
  have hrun := run_append_pb w g k c R p ad o.type hg hR hk h0 h1
  unfold Oper.wp
  simp [execOp, ho, resolve, invoke, builtin, hs, hx, hrun, Result.andThen]
  exact h

/-- A row at block g, of room for all of js, of which the first k are laid; nothing below g has turned since w0. -/
structure Laid (g k : Nat) (js : List Pb) (w0 wr : World) (R : List Pb) : Prop where
  hg : wr.heap[g]? = some (.cells (cells R) 37 (0, 0))
  hR : R.length = js.length
  hT : R.take k = js.take k
  hB : Below g w0 wr

theorem Laid.start (w0 : World) (js : List Pb) : Laid w0.heap.size 0 js w0 (w0.alloc (.cells (cells (List.replicate js.length pz)) 37)) (List.replicate js.length pz) :=
  ⟨heap_alloc_new w0 _, by simp, rfl, (Below.refl _ _).alloc (Nat.le_refl _) _⟩

theorem Laid.kept {g k : Nat} {js R : List Pb} {w0 wr w' : World} (h : Laid g k js w0 wr R) (hb : Below wr.heap.size wr w') (hs : g ≤ wr.heap.size := by omega) : Laid g k js w0 w' R :=
  ⟨(hb.block g (lt_of_block h.hg)).trans h.hg, h.hR, h.hT, h.hB.trans (hb.mono hs)⟩

theorem Laid.step {g k : Nat} {js R : List Pb} {w0 wr : World} (h : Laid g k js w0 wr R) (hk : k < js.length) (o : Obj) :
    Laid g (k + 1) js w0 ((wr.alloc o).setRow g (cells (R.set k (js.getD k pz)))) (R.set k (js.getD k pz)) := by
  have hgl := lt_of_block h.hg
  have hRl := h.hR
  have g2 : (wr.alloc o).heap[g]? = some (.cells (cells R) 37 (0, 0)) := by rw [Below.heap_alloc wr _ _ hgl]; exact h.hg
  refine ⟨setRow_heap _ g _ _ 37 _ g2, by rw [List.length_set]; exact h.hR, ?_, ?_⟩
  · rw [List.take_succ_eq_append_getElem (by rw [List.length_set]; omega), List.take_set_of_le (Nat.le_refl _), h.hT, List.getElem_set_self, List.take_succ_eq_append_getElem hk]
    simp [hk]
  · have b3 : Below g w0 (wr.alloc o) := h.hB.alloc (by omega) o
    exact b3.trans ⟨rfl, rfl, rfl, by simp [World.setRow], fun j hj => setRow_other _ g j _ (by omega)⟩

theorem Laid.pv {g : Nat} {js R : List Pb} {w0 wr : World} (h : Laid g js.length js w0 wr R) (hl : js.length ≤ 8192) : PV g wr (.slice (some ⟨g, 0, none⟩) js.length js.length) js :=
  Or.inr ⟨g, js.length, R, rfl, h.hg, h.hR, hl, by rw [h.hT]; simp, Nat.le_refl _⟩

/-- The same with a variable in block p that holds the slice. -/
structure Held (g p k : Nat) (js : List Pb) (w0 wr : World) (R : List Pb) : Prop where
  hL : Laid g k js w0 wr R
  hp : wr.heap[p]? = some (.cells #[.slice (some ⟨g, 0, none⟩) k js.length] 27 (0, 0))
  hgp : g < p

theorem Held.step {g p k : Nat} {js R : List Pb} {w0 wr : World} (h : Held g p k js w0 wr R) (hk : k < js.length) (o : Obj) :
    Held g p (k + 1) js w0 (((wr.alloc o).setRow g (cells (R.set k (js.getD k pz)))).setCell ⟨p, 0, none⟩ (.slice (some ⟨g, 0, none⟩) (k + 1) js.length)) (R.set k (js.getD k pz)) := by
  have hpl := lt_of_block h.hp
  have hgp := h.hgp
  have p2 : ((wr.alloc o).setRow g (cells (R.set k (js.getD k pz)))).heap[p]? = some (.cells #[.slice (some ⟨g, 0, none⟩) k js.length] 27 (0, 0)) := by
    rw [setRow_other _ g p _ (by omega), Below.heap_alloc wr _ _ hpl]; exact h.hp
  have L := h.hL.step hk o
  refine ⟨⟨?_, L.hR, L.hT, L.hB.setCell (by simp; omega) _⟩, ?_, hgp⟩
  · rw [Below.heap_setCell _ _ _ _ (by simp; omega)]; exact L.hg
  · rw [heap_setCell_same _ p 0 _ 27 _ p2]; simp

/-- A draw in between turns nothing. -/
theorem Held.drawn {g p k : Nat} {js R : List Pb} {w0 W : World} {cs : Array Value} {v : Value} (h : Held g p k js w0 ((W.setRow g cs).setCell ⟨p, 0, none⟩ v) R) : Held g p k js w0 ((W.drew.setRow g cs).setCell ⟨p, 0, none⟩ v) R :=
  ⟨⟨h.hL.hg, h.hL.hR, h.hL.hT, ⟨h.hL.hB.os, h.hL.hB.tape, h.hL.hB.output, h.hL.hB.size, h.hL.hB.block⟩⟩, h.hp, h.hgp⟩

end Go.Proofs.Qxb6618109a
