/-
  MY OWN WORK (seat b6618109a). The map 'seen' of dropRepeats: its keys are structs.
-/
import Derived.Test.Qxb6618109aMakes
import Derived.Maps.OwnSet
namespace Go.Proofs.Qxb6618109a
open Go.RowKit Go.Maps
open Go.ChangeMaps (setBlock heap_setBlock_same heap_setBlock_other)

theorem Try.laidOut : laidOutB Try.prog = true := by kernel_rfl
theorem Try.row37 : (37 : TypeId) < Try.prog.types.size := of_decide_eq_true (by kernel_rfl)
theorem Try.cells37 : Try.prog.cellsOf 37 = 2 := by kernel_rfl
theorem Try.wide37 : (match Try.prog.underlying 37 with | some (.array _ _) | some (.struct _) => true | _ => false) = true := by kernel_rfl
theorem law37 : Keyed Try.prog 37 := Keyed.of_law (deep_law_laid Try.laidOut (m := 2) (by omega) Try.row37 (by kernel_rfl) Try.wide37)

/-- A problem as a key. -/
def kv (p : Pb) : Value := .agg #[.int .i64 p.1, .string p.2]
theorem kv_inj {p q : Pb} (h : kv p = kv q) : p = q := by
  unfold kv at h
  simp at h
  exact Prod.ext h.1 h.2

/-- What Go's types say of a problem. -/
def Good (p : Pb) : Prop := (Lit.int .i64 p.1).wf = true ∧ p.2.size ≤ maxLen

theorem keyType37 : Try.prog.keyType 37 = true := by kernel_rfl
theorem Try.cells3 : Try.prog.cellsOf 3 = 1 := by kernel_rfl
theorem Try.cells9 : Try.prog.cellsOf 9 = 1 := by kernel_rfl
theorem lits_kv (d : Nat) (l : Int) (s : ByteArray) (h1 : (Lit.int .i64 l).wf = true) (h2 : s.size ≤ maxLen) : Try.prog.keyLits (d + 2) 37 [.int .i64 l, .string s] = some [.int .i64 l, .string s.data.toList] := by
  simp [Program.keyLits, Try.underlying37, Try.underlying3, Try.underlying9, Try.cells37, Try.cells3, Try.cells9, h1, h2]

theorem keyed_kv (p : Pb) (h : Good p) : ∃ l, keyOf Try.prog 37 (kv p) = some l := by
  have ht : Try.prog.types.size + 1 = (Try.prog.types.size - 1) + 2 := by have h37 : (37 : Nat) < Try.prog.types.size := Try.row37; omega
  have hf : (kv p).formed Try.prog 37 = true := by simp [kv, Value.formed, Try.underlying37, Try.cells37]
  refine ⟨.string (keyBytes [.int .i64 p.1, .string p.2.data.toList]), ?_⟩
  unfold keyOf
  rw [Try.underlying37]
  simp only [keyType37, hf, Bool.and_self, if_true]
  rw [ht]
  show Option.map _ (Try.prog.keyLits _ 37 [.int .i64 p.1, .string p.2]) = _
  rw [lits_kv _ _ _ h.1 h.2]
  rfl

/-- Block mb is a map whose keys are just ks, each with the element true. -/
def Seen (w : World) (mb : Nat) (ks : List Pb) : Prop :=
  ∃ es clock, w.heap[mb]? = some (.map es clock) ∧ es.toList.map (fun e => (e.key, e.val)) = ks.map (fun p => (kv p, Value.bool true))

theorem Seen.made (w : World) : Seen (w.alloc (.map #[] 0)) w.heap.size [] := ⟨#[], 0, heap_alloc_new w _, rfl⟩
theorem Seen.of_block {w w' : World} {mb : Nat} {ks : List Pb} (h : Seen w mb ks) (e : w'.heap[mb]? = w.heap[mb]?) : Seen w' mb ks := by
  obtain ⟨es, clock, hb, hk⟩ := h
  exact ⟨es, clock, e.trans hb, hk⟩
theorem Seen.lt {w : World} {mb : Nat} {ks : List Pb} (h : Seen w mb ks) : mb < w.heap.size := by
  obtain ⟨es, clock, hb, _⟩ := h
  exact lt_of_block hb

theorem seen_keys {es : Array MapEntry} {ks : List Pb} (hk : es.toList.map (fun e => (e.key, e.val)) = ks.map (fun p => (kv p, Value.bool true))) : ∀ e ∈ es.toList, ∃ p ∈ ks, e.key = kv p ∧ e.val = .bool true := by
  intro e he
  have : (e.key, e.val) ∈ ks.map (fun p => (kv p, Value.bool true)) := by rw [← hk]; exact List.mem_map.2 ⟨e, he, rfl⟩
  obtain ⟨p, hp, h⟩ := List.mem_map.1 this
  simp only [Prod.mk.injEq] at h
  exact ⟨p, hp, h.1.symm, h.2.symm⟩
theorem seen_has {es : Array MapEntry} {ks : List Pb} (hk : es.toList.map (fun e => (e.key, e.val)) = ks.map (fun p => (kv p, Value.bool true))) {p : Pb} (hp : p ∈ ks) : ∃ e ∈ es.toList, e.key = kv p := by
  have : (kv p, Value.bool true) ∈ es.toList.map (fun e => (e.key, e.val)) := by rw [hk]; exact List.mem_map.2 ⟨p, hp, rfl⟩
  obtain ⟨e, he, h⟩ := List.mem_map.1 this
  simp only [Prod.mk.injEq] at h
  exact ⟨e, he, h.1⟩

/-- 'seen[p]' -/
theorem Seen.look {w : World} {mb : Nat} {ks : List Pb} (h : Seen w mb ks) (hg : ∀ q ∈ ks, Good q) (p : Pb) (hp : Good p) :
    (Instr.lookup 49 (.map (some mb)) (.agg #[.int .i64 p.1, .string p.2]) false).run Try.prog w = .ok (.bool (isIn ks p)) w := by
  obtain ⟨es, clock, hb, hk⟩ := h
  obtain ⟨l, hl⟩ := keyed_kv p hp
  have hkeys : ∀ e ∈ es.toList, ∃ l, keyOf Try.prog 37 e.key = some l := fun e he => by
    obtain ⟨q, hq, e1, _⟩ := seen_keys hk e he
    rw [e1]
    exact keyed_kv q (hg q hq)
  have hc := law37.check w es.isEmpty hl
  show (Instr.lookup 49 (.map (some mb)) (kv p) false).run Try.prog w = _
  rcases law37.find w hl es.toList hkeys with ⟨h1, h2⟩ | ⟨j, e0, h1, h2, h3⟩
  · have hn : isIn ks p = false := by
      cases hh : isIn ks p
      · rfl
      · obtain ⟨e, he, e1⟩ := seen_has hk ((isIn_iff _ _).1 hh)
        exact absurd e1 (h2 e he)
    rw [hn]
    simp [Instr.lookup, run_underlying Try.underlying49, MapKept.run_getObj_map hb, hc, h1, Result.andThen]
  · have hm : e0 ∈ es.toList := List.mem_of_getElem? h2
    obtain ⟨q, hq, e1, e2⟩ := seen_keys hk e0 hm
    have hqp : q = p := kv_inj (e1.symm.trans h3)
    have hn : isIn ks p = true := (isIn_iff _ _).2 (hqp ▸ hq)
    rw [hn]
    simp [Instr.lookup, run_underlying Try.underlying49, MapKept.run_getObj_map hb, hc, h1, e2, Result.andThen]

/-- 'seen[p] = true' of a new one. -/
theorem Seen.put {w : World} {mb : Nat} {ks : List Pb} (h : Seen w mb ks) (hg : ∀ q ∈ ks, Good q) (p : Pb) (hp : Good p) (hn : p ∉ ks) :
    ∃ w', (Instr.mapUpdate 49 (.map (some mb)) (.agg #[.int .i64 p.1, .string p.2]) (.bool true)).run Try.prog w = .ok () w' ∧ Seen w' mb (ks ++ [p]) ∧ w.grownBy w' (some mb) ∧ w'.heap.size = w.heap.size := by
  obtain ⟨es, clock, hb, hk⟩ := h
  obtain ⟨l, hl⟩ := keyed_kv p hp
  have hkeys : ∀ e ∈ es.toList, ∃ l, keyOf Try.prog 37 e.key = some l := fun e he => by
    obtain ⟨q, hq, e1, _⟩ := seen_keys hk e he
    rw [e1]
    exact keyed_kv q (hg q hq)
  have hc := law37.check w false hl
  refine ⟨setBlock w mb (.map (es.push ⟨kv p, .bool true, clock⟩) (clock + 1)), ?_, ⟨_, _, heap_setBlock_same hb _, ?_⟩, ⟨rfl, rfl, rfl, by simp [setBlock], fun i _ hi => heap_setBlock_other hb _ (fun e => hi (by rw [e]))⟩, by simp [setBlock]⟩
  · show (Instr.mapUpdate 49 (.map (some mb)) (kv p) (.bool true)).run Try.prog w = _
    rcases law37.find w hl es.toList hkeys with ⟨h1, h2⟩ | ⟨j, e0, h1, h2, h3⟩
    · simp [Instr.mapUpdate, run_underlying Try.underlying49, MapKept.run_getObj_map hb, hc, h1, MapKept.run_setObj_map _ hb, Result.andThen, setBlock]
    · have hm : e0 ∈ es.toList := List.mem_of_getElem? h2
      obtain ⟨q, hq, e1, e2⟩ := seen_keys hk e0 hm
      exact absurd (kv_inj (e1.symm.trans h3) ▸ hq) hn
  · rw [Array.toList_push, List.map_append, hk]
    simp

end Go.Proofs.Qxb6618109a
