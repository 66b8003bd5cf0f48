import Derived.Test.Qxb6617077aSlices
import Derived.Deep.DeepCutAuto
import Derived.Laws.CopyOwn
namespace Go.Proofs.Qxb6617077a
open Go.RowKit
set_option linter.unusedVariables false
set_option linter.unusedSimpArgs false

theorem size9 : (Try.prog.info? 9).map (·.size) = some 1 := by kernel_rfl
theorem sl_of_heap {w : World} {g : Nat} {ls : List ByteArray} (h : w.heap[g]? = some (.cells (strs ls).toArray 9 (0, 0))) : SL w (.slice (some ⟨g, 0, none⟩) ls.length ls.length) ls := by
  refine ⟨_, _, rfl, (fun h => by cases h), .inr ⟨g, 0, rfl, lt_of_block h, fun j hj => ?_⟩⟩
  rw [cell_of_row w _ _ _ _ _ h]
  simpa using strs_get ls j hj
theorem heap_of_own {w : World} {base : Nat} {g n : Nat} {xs : List Value} (h : w.ownsRow base 9 1 (.slice (some ⟨g, 0, none⟩) n n) n xs) : w.heap[g]? = some (.cells xs.toArray 9 (0, 0)) := by
  rcases h.2 with ⟨hv, _⟩ | ⟨g', cap, cur, hv, _, hg, _, _, hcs, htake⟩
  · simp at hv
  · simp only [Value.slice.injEq, Option.some.injEq, Addr.mk.injEq, and_true, true_and] at hv
    obtain ⟨rfl, rfl⟩ := hv
    rw [hg, ← htake, List.take_of_length_le (by rw [Array.length_toList]; omega)]
theorem copy_run {w0 w1 : World} {g c B : Nat} {x : Addr} {made : List Value} {A : List ByteArray} (hh : w1.heap[g]? = some (.cells made.toArray 9 (0, 0))) (hml : A.length = made.length)
    (hsrc : ∀ j v, (strs A)[j]? = some v → w1.cell? (x.add j) = some v) (hb : Below B w0 w1) (hB : B ≤ g) :
    ∃ w2, (∀ ty, (Builtin.copy_ #[22, 22] ty #[.slice (some ⟨g, 0, none⟩) A.length A.length, .slice (some x) A.length c]).run Try.prog w1 = .ok (goInt A.length) w2) ∧
      w2.heap[g]? = some (.cells (strs A).toArray 9 (0, 0)) ∧ Below B w0 w2 := by
  refine ⟨_, fun ty => by
    have := run_copy_row (P := Try.prog) w1 22 22 ty 9 g 0 A.length A.length x A.length c made.toArray 9 (strs A) Try.underlying22 size9 hh (by rw [strs_len]; simp) hsrc (by rw [strs_len]; simp; omega) (strs_one A)
    rw [strs_len] at this
    exact this, ?_, below_setRow hb hB _⟩
  rw [setRow_heap w1 g _ _ _ _ hh]
  congr 2
  simp [List.drop_of_length_le (Nat.le_of_eq hml.symm)]

end Go.Proofs.Qxb6617077a
