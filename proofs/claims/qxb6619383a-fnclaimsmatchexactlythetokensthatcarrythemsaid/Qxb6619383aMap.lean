/-
  MY OWN WORK (seat b6619383a). A map of strings by strings that the call itself makes, told by what it holds.
-/
import Derived.Test.Qxb6619383aMem
import Derived.Maps.RangeWalk
import Derived.Maps.StringElems
namespace Go.Proofs.Qxb6619383a
open Go.RowKit Go.Maps

def ky (s : ByteArray) : Lit := .string s.data.toList
theorem bytes_inj {a b : ByteArray} (h : a.data.toList = b.data.toList) : a = b := ByteArray.ext (Array.ext' h)
theorem ky_inj {a b : ByteArray} (h : ky a = ky b) : a = b := by
  unfold ky at h
  simp only [Lit.string.injEq] at h
  exact bytes_inj h
theorem key_law : Keyed Try.prog 9 := string_keyed Try.underlying9
theorem key_of (s : ByteArray) (h : s.size ≤ maxLen) : keyOf Try.prog 9 (.string s) = some (ky s) := WideMaps.keyOf_string_mk Try.underlying9 h
theorem key_lit (s : ByteArray) : WideAt.IsKeyLit (ky s) := trivial

/-- What the map's datum says is f. -/
def Says (D : DataW Unit) (f : Fm) : Prop := ∀ s, Maps.has D (ky s) = (f s).isSome ∧ ∀ v, f s = some v → ∀ zd, D.atKey (ky s) zd = .lit (.string v.data.toList)
/-- Block b is a map of at most n entries that holds f. -/
def MapV (w : World) (b n : Nat) (f : Fm) : Prop := ∃ D : DataW Unit, w.ownsMap Try.prog 9 (plainElem Try.prog 9) b n D ∧ Says D f

theorem MapV.made (w : World) : MapV (w.alloc (.map #[] 0)) w.heap.size 0 fnil := ⟨_, World.ownsMap_made _ _ _ _, fun s => ⟨rfl, fun v h => by simp [fnil] at h⟩⟩
theorem MapV.kept {w w' : World} {b n : Nat} {f : Fm} {row : Option Nat} (h : MapV w b n f) (hg : w.grownBy w' row) (hne : some b ≠ row) : MapV w' b n f := by
  obtain ⟨D, h1, h2⟩ := h
  exact ⟨D, h1.kept hg hne, h2⟩
theorem MapV.lt {w : World} {b n : Nat} {f : Fm} (h : MapV w b n f) : b < w.heap.size := by
  obtain ⟨D, h1, _⟩ := h
  exact h1.lt
theorem MapV.below {w w' : World} {b n : Nat} {f : Fm} (h : MapV w b n f) (hb : Below w.heap.size w w') : MapV w' b n f := by
  obtain ⟨D, ⟨es, clock, h1, h3⟩, h2⟩ := h
  exact ⟨D, ⟨es, clock, (hb.block b (lt_of_block h1)).trans h1, h3⟩, h2⟩
theorem MapV.drew {w : World} {b n : Nat} {f : Fm} (h : MapV w b n f) : MapV w.drew b n f := h

theorem Says.put {D : DataW Unit} {f : Fm} (h : Says D f) (hD : IsMap D) (k v : ByteArray) : Says (D.put (ky k) (.lit (.string v.data.toList))) (upd f k v) := by
  intro s
  by_cases e : s = k
  · subst e
    rw [has_put_same hD (key_lit s), upd_same]
    refine ⟨rfl, fun v' h' zd => ?_⟩
    cases h'
    exact atKey_put_same hD (key_lit s) _ _
  · have hne : ky s ≠ ky k := fun h' => e (ky_inj h')
    rw [has_put_other hne, upd_other _ _ e]
    refine ⟨(h s).1, fun v' h' zd => ?_⟩
    rw [atKey_put_other hne]
    exact (h s).2 v' h' zd
theorem Says.del {D : DataW Unit} {f : Fm} (h : Says D f) (k : ByteArray) : Says (D.del (ky k)) (era f k) := by
  intro s
  by_cases e : s = k
  · subst e
    rw [has_del_same, era_same]
    exact ⟨rfl, fun v' h' => by cases h'⟩
  · have hne : ky s ≠ ky k := fun h' => e (ky_inj h')
    rw [has_del_other hne, era_other _ e]
    refine ⟨(h s).1, fun v' h' zd => ?_⟩
    rw [atKey_del_other hne]
    exact (h s).2 v' h' zd

/-- 'm[k] = v' -/
theorem MapV.put {w : World} {b n : Nat} {f : Fm} (h : MapV w b n f) (t : TypeId) (ht : Try.prog.underlying t = some (.map 9 9)) (hn : n < maxLen) (k v : ByteArray) (hk : k.size ≤ maxLen) (hv : v.size ≤ maxLen) :
    ∃ w', (Instr.mapUpdate t (.map (some b)) (.string k) (.string v)).run Try.prog w = .ok () w' ∧ MapV w' b (n + 1) (upd f k v) ∧ w.grownBy w' (some b) := by
  obtain ⟨D, h1, h2⟩ := h
  obtain ⟨w', hr, ho, hg⟩ := h1.update key_law ht hn (key_of k hk) (plainElem_string Try.underlying9 hv)
  exact ⟨w', hr, ⟨_, ho, h2.put h1.isMap k v⟩, hg⟩

/-- 'delete(m, k)' -/
theorem MapV.drop {w : World} {b n : Nat} {f : Fm} (h : MapV w b n f) (t : TypeId) (ht : Try.prog.underlying t = some (.map 9 9)) (k : ByteArray) (hk : k.size ≤ maxLen) (ty : TypeId) :
    ∃ w', (Builtin.delete_ #[t, 9] ty #[.map (some b), .string k]).run Try.prog w = .ok (.tuple #[]) w' ∧ MapV w' b n (era f k) ∧ w.grownBy w' (some b) := by
  obtain ⟨D, h1, h2⟩ := h
  obtain ⟨w', hr, ho, hg⟩ := h1.drop key_law ht (key_of k hk) ty
  exact ⟨w', hr, ⟨_, ho, h2.del k⟩, hg.grown⟩

theorem zero9 (w : World) : (zeroValue 9).run Try.prog w = .ok (.string ByteArray.empty) w := by kernel_rfl

/-- 'v, ok := m[k]' -/
theorem MapV.look {w : World} {b n : Nat} {f : Fm} (h : MapV w b n f) (t : TypeId) (ht : Try.prog.underlying t = some (.map 9 9)) (k : ByteArray) (hk : k.size ≤ maxLen) :
    (∃ v, f k = some v ∧ (Instr.lookup t (.map (some b)) (.string k) true).run Try.prog w = .ok (.tuple #[.string v, .bool true]) w) ∨ (∃ v, f k = none ∧ (Instr.lookup t (.map (some b)) (.string k) true).run Try.prog w = .ok (.tuple #[.string v, .bool false]) w) := by
  obtain ⟨D, h1, h2⟩ := h
  obtain ⟨v, ps, hr, hv⟩ := h1.look_ok key_law ht (zero9 w) (plainElem_string Try.underlying9 (s := ByteArray.empty) (by decide)) (key_of k hk)
  obtain ⟨s, rfl, hs, _⟩ := plainElem_string_inv Try.underlying9 hv
  cases hf : f k with
  | none =>
    refine Or.inr ⟨s, rfl, ?_⟩
    rw [hr, (h2 k).1, hf]; rfl
  | some x =>
    refine Or.inl ⟨x, rfl, ?_⟩
    have e := (h2 k).2 x hf (.lit (.string ByteArray.empty.data.toList))
    simp only [Prod.mk.injEq] at hs
    rw [e] at hs
    have : s = x := by
      have h3 := hs.1
      simp only [DataW.lit.injEq, Lit.string.injEq] at h3
      exact (bytes_inj h3).symm
    rw [hr, (h2 k).1, hf, this]; rfl

/-- 'make(map.., n)' -/
theorem run_makeMap_n (t : TypeId) (ht : Try.prog.underlying t = some (.map 9 9)) (n : Int) (w : World) : (Instr.makeMap t (some (.int .i64 n))).run Try.prog w = .ok (.map (some w.heap.size)) (w.alloc (.map #[] 0)) := by
  simp [Instr.makeMap, run_underlying ht, asInt, asIntOf, newObj]
  rfl

end Go.Proofs.Qxb6619383a
