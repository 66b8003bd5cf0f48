import Derived.Test.Qxb6617077aBase
import Derived.Maps.OwnSet
namespace Go.Proofs.Qxb6617077a
open Go.RowKit Go.Maps

/-! ### a map keyed by strings whose elements are answers (fifteen cells): what it holds, as a function -/
def zeroA : Value := .agg #[.string ⟨#[]⟩, .bool false, .bool false, .int .i64 0, .string ⟨#[]⟩, .string ⟨#[]⟩, .int .i64 0, .slice none 0 0, .int .i64 0, .int .i64 0, .int .i64 0, .string ⟨#[]⟩, .bool false, .bool false, .int .i64 0]
theorem zeroA_run (w : World) : (zeroValue 50).run Try.prog w = .ok zeroA w := by kernel_rfl
theorem law9 : Keyed Try.prog 9 := string_keyed Try.underlying9

/-- An element reads as itself. -/
def selfR (v : Value) : Option (DataW Value × List MemPlace) := some (.held v, [])
def lit (s : ByteArray) : Lit := .string s.data.toList

/-- Block b is a map of at most n entries that holds f. -/
def MapIs (w : World) (b n : Nat) (f : ByteArray → Option Value) : Prop :=
  ∃ D : DataW Value, w.ownsMap Try.prog 9 selfR b n D ∧ ∀ s : ByteArray, s.size ≤ maxLen → D.atKey (lit s) (.held zeroA) = .held ((f s).getD zeroA) ∧ Maps.has D (lit s) = (f s).isSome

theorem keyL {s : ByteArray} (hs : s.size ≤ maxLen) : keyOf Try.prog 9 (.string s) = some (lit s) := Go.WideMaps.keyOf_string_mk Try.underlying9 hs
theorem isKey (s : ByteArray) : WideAt.IsKeyLit (lit s) := trivial
theorem lit_ne {s s' : ByteArray} (h : s ≠ s') : lit s ≠ lit s' := by
  intro e
  simp only [lit, Lit.string.injEq] at e
  exact h (ext' e)
def upd (f : ByteArray → Option Value) (k : ByteArray) (v : Option Value) : ByteArray → Option Value := fun s => if s = k then v else f s
theorem upd_same (f : ByteArray → Option Value) (k : ByteArray) (v : Option Value) : upd f k v k = v := by simp [upd]
theorem upd_other (f : ByteArray → Option Value) {k s : ByteArray} (v : Option Value) (h : s ≠ k) : upd f k v s = f s := by simp [upd, h]

theorem map_made (w : World) : MapIs (w.alloc (.map #[] 0)) w.heap.size 0 (fun _ => none) :=
  ⟨.map [], World.ownsMap_made w Try.prog 9 selfR, fun _ _ => ⟨rfl, rfl⟩⟩
theorem MapIs.lt {w : World} {b n : Nat} {f : ByteArray → Option Value} (h : MapIs w b n f) : b < w.heap.size := by
  obtain ⟨D, ho, _⟩ := h
  exact ho.lt
theorem MapIs.grown {w w' : World} {b n : Nat} {f : ByteArray → Option Value} {row : Option Nat} (h : MapIs w b n f) (hg : w.grownBy w' row) (hne : some b ≠ row) : MapIs w' b n f := by
  obtain ⟨D, ho, hf⟩ := h
  exact ⟨D, ho.kept hg hne, hf⟩
theorem MapIs.below {w w' : World} {b n B : Nat} {f : ByteArray → Option Value} (h : MapIs w b n f) (hb : Below B w w') (hB : b < B) : MapIs w' b n f := by
  obtain ⟨D, ⟨es, clock, h1, r⟩, hf⟩ := h
  exact ⟨D, ⟨es, clock, by rw [hb.block b hB]; exact h1, r⟩, hf⟩
theorem MapIs.look {w : World} {b n : Nat} {f : ByteArray → Option Value} (h : MapIs w b n f) {s : ByteArray} (hs : s.size ≤ maxLen) :
    (Instr.lookup 48 (.map (some b)) (.string s) false).run Try.prog w = .ok ((f s).getD zeroA) w := by
  obtain ⟨D, ho, hf⟩ := h
  obtain ⟨v, ps, hrun, hv⟩ := ho.lookup law9 Try.underlying48 (zeroA_run w) (zd := .held zeroA) (zp := []) rfl (keyL hs)
  rw [hrun]
  have := (hf s hs).1
  rw [this] at hv
  simp only [selfR, Option.some.injEq, Prod.mk.injEq, DataW.held.injEq] at hv
  rw [hv.1]
theorem MapIs.look_ok {w : World} {b n : Nat} {f : ByteArray → Option Value} (h : MapIs w b n f) {s : ByteArray} (hs : s.size ≤ maxLen) :
    (Instr.lookup 48 (.map (some b)) (.string s) true).run Try.prog w = .ok (.tuple #[(f s).getD zeroA, .bool (f s).isSome]) w := by
  obtain ⟨D, ho, hf⟩ := h
  obtain ⟨v, ps, hrun, hv⟩ := ho.look_ok law9 Try.underlying48 (zeroA_run w) (zd := .held zeroA) (zp := []) rfl (keyL hs)
  rw [hrun]
  have := hf s hs
  rw [this.1] at hv
  simp only [selfR, Option.some.injEq, Prod.mk.injEq, DataW.held.injEq] at hv
  rw [this.2, hv.1]
theorem MapIs.store {w : World} {b n : Nat} {f : ByteArray → Option Value} (h : MapIs w b n f) (hn : n < maxLen) {s : ByteArray} (hs : s.size ≤ maxLen) (v : Value) :
    ∃ w', (Instr.mapUpdate 48 (.map (some b)) (.string s) v).run Try.prog w = .ok () w' ∧ MapIs w' b (n + 1) (upd f s (some v)) ∧ w.grownBy w' (some b) := by
  obtain ⟨D, ho, hf⟩ := h
  obtain ⟨w', hrun, ho', hg⟩ := ho.update law9 Try.underlying48 hn (keyL hs) (val := v) (d := .held v) (ps := []) rfl
  refine ⟨w', hrun, ⟨_, ho', fun s' hs' => ?_⟩, hg⟩
  by_cases e : s' = s
  · subst e
    rw [upd_same]
    exact ⟨Maps.atKey_put_same ho.isMap (isKey _) _ _, Maps.has_put_same ho.isMap (isKey _) _⟩
  · rw [upd_other _ _ e]
    have h1 : (D.put (lit s) (.held v)).atKey (lit s') (.held zeroA) = D.atKey (lit s') (.held zeroA) := Maps.atKey_put_other (lit_ne e) _ _
    have h2 : Maps.has (D.put (lit s) (.held v)) (lit s') = Maps.has D (lit s') := Maps.has_put_other (lit_ne e) _
    rw [h1, h2]
    exact hf s' hs'
theorem MapIs.drop {w : World} {b n : Nat} {f : ByteArray → Option Value} (h : MapIs w b n f) {s : ByteArray} (hs : s.size ≤ maxLen) :
    ∃ w', (∀ ty, (Builtin.delete_ #[48, 9] ty #[.map (some b), .string s]).run Try.prog w = .ok (.tuple #[]) w') ∧ MapIs w' b n (upd f s none) ∧ w.grownBy w' (some b) := by
  obtain ⟨D, ho, hf⟩ := h
  obtain ⟨w', hrun, ho', hg⟩ := ho.drop law9 Try.underlying48 (keyL hs) 0
  refine ⟨w', fun ty => hrun, ⟨_, ho', fun s' hs' => ?_⟩, hg.grown⟩
  by_cases e : s' = s
  · subst e
    rw [upd_same]
    exact ⟨Maps.atKey_del_same _, Maps.has_del_same⟩
  · rw [upd_other _ _ e]
    have h1 : (D.del (lit s)).atKey (lit s') (.held zeroA) = D.atKey (lit s') (.held zeroA) := Maps.atKey_del_other (lit_ne e) _
    have h2 : Maps.has (D.del (lit s)) (lit s') = Maps.has D (lit s') := Maps.has_del_other (lit_ne e)
    rw [h1, h2]
    exact hf s' hs'

end Go.Proofs.Qxb6617077a
