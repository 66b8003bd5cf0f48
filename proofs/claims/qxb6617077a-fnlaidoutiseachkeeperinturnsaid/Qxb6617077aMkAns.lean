import Derived.Test.Qxb6617077aRecs
import Derived.Deep.RegionHeld3
namespace Go.Proofs.Qxb6617077a
open Go.RowKit
set_option linter.unusedVariables false
set_option linter.unusedSimpArgs false
theorem own_snd (w : World) (A B : Obj) : (((w.alloc A).alloc B).drew).heap[w.heap.size + 1]? = some B := by
  show ((w.alloc A).alloc B).heap[w.heap.size + 1]? = some B
  have := heap_alloc_new (w.alloc A) B
  simpa using this
theorem own_fst (w : World) (A B : Obj) : (((w.alloc A).alloc B).drew).heap[w.heap.size]? = some A := by
  show ((w.alloc A).alloc B).heap[w.heap.size]? = some A
  rw [Below.heap_alloc _ _ _ (by simp)]
  exact heap_alloc_new w A

theorem fifteen {w' : World} {g : Nat} {t : TypeId} (nad : ByteArray) (nre nhe : Bool) (nfr : Int) (nsz nrp nver nep nrm : Int) (nsha nmd nwr : ByteArray) (na : Option Addr) (nn nc : Nat) (ndm npt : Bool) (h : w'.heap[g]? = some (.cells #[.string nad, .bool nre, .bool nhe, .int .i64 nsz, .string nsha, .string nmd, .int .i64 nrp, .slice na nn nc, .int .i64 nver, .int .i64 nep, .int .i64 nrm, .string nwr, .bool ndm, .bool npt, .int .i64 nfr] t (0, 0))) :
    w'.cell? ⟨g, 0, none⟩ = some (.string nad) ∧ w'.cell? ⟨g, 1, none⟩ = some (.bool nre) ∧ w'.cell? ⟨g, 2, none⟩ = some (.bool nhe) ∧ w'.cell? ⟨g, 3, none⟩ = some (.int .i64 nsz) ∧ w'.cell? ⟨g, 4, none⟩ = some (.string nsha) ∧ w'.cell? ⟨g, 5, none⟩ = some (.string nmd) ∧ w'.cell? ⟨g, 6, none⟩ = some (.int .i64 nrp) ∧ w'.cell? ⟨g, 7, none⟩ = some (.slice na nn nc) ∧ w'.cell? ⟨g, 8, none⟩ = some (.int .i64 nver) ∧ w'.cell? ⟨g, 9, none⟩ = some (.int .i64 nep) ∧ w'.cell? ⟨g, 10, none⟩ = some (.int .i64 nrm) ∧ w'.cell? ⟨g, 11, none⟩ = some (.string nwr) ∧ w'.cell? ⟨g, 12, none⟩ = some (.bool ndm) ∧ w'.cell? ⟨g, 13, none⟩ = some (.bool npt) ∧ w'.cell? ⟨g, 14, none⟩ = some (.int .i64 nfr) := by
  refine ⟨?_, ?_, ?_, ?_, ?_, ?_, ?_, ?_, ?_, ?_, ?_, ?_, ?_, ?_, ?_⟩
  all_goals (rw [cell_of_row w' _ _ _ _ _ h]; rfl)
set_option maxRecDepth 100000 in
set_option maxHeartbeats 4000000 in
theorem mkAns28 (nad : ByteArray) (nre nhe : Bool) (nfr : Int) (nsz nrp nver nep nrm : Int) (nsha nmd nwr : ByteArray) (na : Option Addr) (nn nc : Nat) (ndm npt : Bool) (w : World) :
    Calls Try.prog 28 #[.agg #[.string nad, .bool nre, .bool nhe, .int .i64 nsz, .string nsha, .string nmd, .int .i64 nrp, .slice na nn nc, .int .i64 nver, .int .i64 nep, .int .i64 nrm, .string nwr, .bool ndm, .bool npt, .int .i64 nfr]] w fun e w' => e = .returned (.agg #[.string nad, .bool nre, .bool nhe, .int .i64 nsz, .string nsha, .string nmd, .int .i64 nrp, .slice na nn nc, .int .i64 nver, .int .i64 nep, .int .i64 nrm, .string nwr, .bool ndm, .bool npt, .int .i64 nfr]) ∧ Below w.heap.size w w' := by
  have l0 : Below w.heap.size w ((w.alloc (.cells #[.string nad, .bool nre, .bool nhe, .int .i64 nsz, .string nsha, .string nmd, .int .i64 nrp, .slice na nn nc, .int .i64 nver, .int .i64 nep, .int .i64 nrm, .string nwr, .bool ndm, .bool npt, .int .i64 nfr] 53)).alloc (.cells #[.string ⟨#[]⟩, .bool false, .bool false, .int .i64 0, .string ⟨#[]⟩, .string ⟨#[]⟩, .int .i64 0, .slice none 0 0, .int .i64 0, .int .i64 0, .int .i64 0, .string ⟨#[]⟩, .bool false, .bool false, .int .i64 0] 50)).drew := (((Below.refl _ _).alloc (Nat.le_refl _) _).alloc (by simp) _).drew
  have b0 : ((w.alloc (.cells #[.string nad, .bool nre, .bool nhe, .int .i64 nsz, .string nsha, .string nmd, .int .i64 nrp, .slice na nn nc, .int .i64 nver, .int .i64 nep, .int .i64 nrm, .string nwr, .bool ndm, .bool npt, .int .i64 nfr] 53)).alloc (.cells #[.string ⟨#[]⟩, .bool false, .bool false, .int .i64 0, .string ⟨#[]⟩, .string ⟨#[]⟩, .int .i64 0, .slice none 0 0, .int .i64 0, .int .i64 0, .int .i64 0, .string ⟨#[]⟩, .bool false, .bool false, .int .i64 0] 50)).drew.heap[w.heap.size]? = some (.cells #[.string nad, .bool nre, .bool nhe, .int .i64 nsz, .string nsha, .string nmd, .int .i64 nrp, .slice na nn nc, .int .i64 nver, .int .i64 nep, .int .i64 nrm, .string nwr, .bool ndm, .bool npt, .int .i64 nfr] 53 (0, 0)) := own_fst w _ _
  have b1 : ((w.alloc (.cells #[.string nad, .bool nre, .bool nhe, .int .i64 nsz, .string nsha, .string nmd, .int .i64 nrp, .slice na nn nc, .int .i64 nver, .int .i64 nep, .int .i64 nrm, .string nwr, .bool ndm, .bool npt, .int .i64 nfr] 53)).alloc (.cells #[.string ⟨#[]⟩, .bool false, .bool false, .int .i64 0, .string ⟨#[]⟩, .string ⟨#[]⟩, .int .i64 0, .slice none 0 0, .int .i64 0, .int .i64 0, .int .i64 0, .string ⟨#[]⟩, .bool false, .bool false, .int .i64 0] 50)).drew.heap[w.heap.size + 1]? = some (.cells #[.string ⟨#[]⟩, .bool false, .bool false, .int .i64 0, .string ⟨#[]⟩, .string ⟨#[]⟩, .int .i64 0, .slice none 0 0, .int .i64 0, .int .i64 0, .int .i64 0, .string ⟨#[]⟩, .bool false, .bool false, .int .i64 0] 50 (0, 0)) := own_snd w _ _
  go_enter Try.func28, Try.ntmps28
  go_wp2_with fail
  generalize ((w.alloc (.cells #[.string nad, .bool nre, .bool nhe, .int .i64 nsz, .string nsha, .string nmd, .int .i64 nrp, .slice na nn nc, .int .i64 nver, .int .i64 nep, .int .i64 nrm, .string nwr, .bool ndm, .bool npt, .int .i64 nfr] 53)).alloc (.cells #[.string ⟨#[]⟩, .bool false, .bool false, .int .i64 0, .string ⟨#[]⟩, .string ⟨#[]⟩, .int .i64 0, .slice none 0 0, .int .i64 0, .int .i64 0, .int .i64 0, .string ⟨#[]⟩, .bool false, .bool false, .int .i64 0] 50)) = W at *
  go_region_held3 (fun w' => w'.cell? ⟨w.heap.size, 0, none⟩ = some (.string nad) ∧ w'.cell? ⟨w.heap.size, 1, none⟩ = some (.bool nre) ∧ w'.cell? ⟨w.heap.size, 2, none⟩ = some (.bool nhe) ∧ w'.cell? ⟨w.heap.size, 3, none⟩ = some (.int .i64 nsz) ∧ w'.cell? ⟨w.heap.size, 4, none⟩ = some (.string nsha) ∧ w'.cell? ⟨w.heap.size, 5, none⟩ = some (.string nmd) ∧ w'.cell? ⟨w.heap.size, 6, none⟩ = some (.int .i64 nrp) ∧ w'.cell? ⟨w.heap.size, 7, none⟩ = some (.slice na nn nc) ∧ w'.cell? ⟨w.heap.size, 8, none⟩ = some (.int .i64 nver) ∧ w'.cell? ⟨w.heap.size, 9, none⟩ = some (.int .i64 nep) ∧ w'.cell? ⟨w.heap.size, 10, none⟩ = some (.int .i64 nrm) ∧ w'.cell? ⟨w.heap.size, 11, none⟩ = some (.string nwr) ∧ w'.cell? ⟨w.heap.size, 12, none⟩ = some (.bool ndm) ∧ w'.cell? ⟨w.heap.size, 13, none⟩ = some (.bool npt) ∧ w'.cell? ⟨w.heap.size, 14, none⟩ = some (.int .i64 nfr))
    (first | (with_reducible assumption) | (with_reducible exact fifteen _ _ _ _ _ _ _ _ _ _ _ _ _ _ _ _ _ b0) | go_keep)
    (first
      | (go_at_call 27
         refine (mkRec27 _ _ _ _ _ _ _ _ _ _ _ _ _ _).mono ?_
         rintro e w2 ⟨rfl, r2⟩
         have l2 : Below W.drew.heap.size W.drew w2 := r2
         have s2 := fifteen _ _ _ _ _ _ _ _ _ _ _ _ _ _ _ _ _ ((l2.block _ (lt_of_block b0)).trans b0))
      | (go_at_call 37
         refine (mkAns37 _ _ _ _ _ _ _ _ _ _ _ _ _ _ _ _ _ _).mono ?_
         rintro e w3 ⟨rfl, r3⟩
         have l3 : Below W.drew.heap.size W.drew w3 := l2.trans (r3.mono l2.size)
         have z3 : w3.heap[w.heap.size + 1]? = some (.cells #[.string ⟨#[]⟩, .bool false, .bool false, .int .i64 0, .string ⟨#[]⟩, .string ⟨#[]⟩, .int .i64 0, .slice none 0 0, .int .i64 0, .int .i64 0, .int .i64 0, .string ⟨#[]⟩, .bool false, .bool false, .int .i64 0] 50 (0, 0)) := (l3.block _ (lt_of_block b1)).trans b1
         have s3 : w3.cell? ⟨w.heap.size, 0, none⟩ = some (.string nad) ∧ w3.cell? ⟨w.heap.size, 1, none⟩ = some (.bool nre) ∧ w3.cell? ⟨w.heap.size, 2, none⟩ = some (.bool nhe) ∧ w3.cell? ⟨w.heap.size, 3, none⟩ = some (.int .i64 nsz) ∧ w3.cell? ⟨w.heap.size, 4, none⟩ = some (.string nsha) ∧ w3.cell? ⟨w.heap.size, 5, none⟩ = some (.string nmd) ∧ w3.cell? ⟨w.heap.size, 6, none⟩ = some (.int .i64 nrp) ∧ w3.cell? ⟨w.heap.size, 7, none⟩ = some (.slice na nn nc) ∧ w3.cell? ⟨w.heap.size, 8, none⟩ = some (.int .i64 nver) ∧ w3.cell? ⟨w.heap.size, 9, none⟩ = some (.int .i64 nep) ∧ w3.cell? ⟨w.heap.size, 10, none⟩ = some (.int .i64 nrm) ∧ w3.cell? ⟨w.heap.size, 11, none⟩ = some (.string nwr) ∧ w3.cell? ⟨w.heap.size, 12, none⟩ = some (.bool ndm) ∧ w3.cell? ⟨w.heap.size, 13, none⟩ = some (.bool npt) ∧ w3.cell? ⟨w.heap.size, 14, none⟩ = some (.int .i64 nfr) := fifteen _ _ _ _ _ _ _ _ _ _ _ _ _ _ _ _ _ ((l3.block _ (lt_of_block b0)).trans b0)
         have z100 : w3.cell? ⟨w.heap.size + 1, 0, none⟩ = some (.string ⟨#[]⟩) := by (rw [cell_of_row w3 _ 0 _ _ _ z3]; rfl)
         have y100 : w3.frozen? ⟨w.heap.size + 1, 0, none⟩ = false := frozen_of_row w3 _ 0 _ _ z3
         have z101 : w3.cell? ⟨w.heap.size + 1, 1, none⟩ = some (.bool false) := by (rw [cell_of_row w3 _ 1 _ _ _ z3]; rfl)
         have y101 : w3.frozen? ⟨w.heap.size + 1, 1, none⟩ = false := frozen_of_row w3 _ 1 _ _ z3
         have z102 : w3.cell? ⟨w.heap.size + 1, 2, none⟩ = some (.bool false) := by (rw [cell_of_row w3 _ 2 _ _ _ z3]; rfl)
         have y102 : w3.frozen? ⟨w.heap.size + 1, 2, none⟩ = false := frozen_of_row w3 _ 2 _ _ z3
         have z103 : w3.cell? ⟨w.heap.size + 1, 3, none⟩ = some (.int .i64 0) := by (rw [cell_of_row w3 _ 3 _ _ _ z3]; rfl)
         have y103 : w3.frozen? ⟨w.heap.size + 1, 3, none⟩ = false := frozen_of_row w3 _ 3 _ _ z3
         have z104 : w3.cell? ⟨w.heap.size + 1, 4, none⟩ = some (.string ⟨#[]⟩) := by (rw [cell_of_row w3 _ 4 _ _ _ z3]; rfl)
         have y104 : w3.frozen? ⟨w.heap.size + 1, 4, none⟩ = false := frozen_of_row w3 _ 4 _ _ z3
         have z105 : w3.cell? ⟨w.heap.size + 1, 5, none⟩ = some (.string ⟨#[]⟩) := by (rw [cell_of_row w3 _ 5 _ _ _ z3]; rfl)
         have y105 : w3.frozen? ⟨w.heap.size + 1, 5, none⟩ = false := frozen_of_row w3 _ 5 _ _ z3
         have z106 : w3.cell? ⟨w.heap.size + 1, 6, none⟩ = some (.int .i64 0) := by (rw [cell_of_row w3 _ 6 _ _ _ z3]; rfl)
         have y106 : w3.frozen? ⟨w.heap.size + 1, 6, none⟩ = false := frozen_of_row w3 _ 6 _ _ z3
         have z107 : w3.cell? ⟨w.heap.size + 1, 7, none⟩ = some (.slice none 0 0) := by (rw [cell_of_row w3 _ 7 _ _ _ z3]; rfl)
         have y107 : w3.frozen? ⟨w.heap.size + 1, 7, none⟩ = false := frozen_of_row w3 _ 7 _ _ z3
         have z108 : w3.cell? ⟨w.heap.size + 1, 8, none⟩ = some (.int .i64 0) := by (rw [cell_of_row w3 _ 8 _ _ _ z3]; rfl)
         have y108 : w3.frozen? ⟨w.heap.size + 1, 8, none⟩ = false := frozen_of_row w3 _ 8 _ _ z3
         have z109 : w3.cell? ⟨w.heap.size + 1, 9, none⟩ = some (.int .i64 0) := by (rw [cell_of_row w3 _ 9 _ _ _ z3]; rfl)
         have y109 : w3.frozen? ⟨w.heap.size + 1, 9, none⟩ = false := frozen_of_row w3 _ 9 _ _ z3
         have z110 : w3.cell? ⟨w.heap.size + 1, 10, none⟩ = some (.int .i64 0) := by (rw [cell_of_row w3 _ 10 _ _ _ z3]; rfl)
         have y110 : w3.frozen? ⟨w.heap.size + 1, 10, none⟩ = false := frozen_of_row w3 _ 10 _ _ z3
         have z111 : w3.cell? ⟨w.heap.size + 1, 11, none⟩ = some (.string ⟨#[]⟩) := by (rw [cell_of_row w3 _ 11 _ _ _ z3]; rfl)
         have y111 : w3.frozen? ⟨w.heap.size + 1, 11, none⟩ = false := frozen_of_row w3 _ 11 _ _ z3
         have z112 : w3.cell? ⟨w.heap.size + 1, 12, none⟩ = some (.bool false) := by (rw [cell_of_row w3 _ 12 _ _ _ z3]; rfl)
         have y112 : w3.frozen? ⟨w.heap.size + 1, 12, none⟩ = false := frozen_of_row w3 _ 12 _ _ z3
         have z113 : w3.cell? ⟨w.heap.size + 1, 13, none⟩ = some (.bool false) := by (rw [cell_of_row w3 _ 13 _ _ _ z3]; rfl)
         have y113 : w3.frozen? ⟨w.heap.size + 1, 13, none⟩ = false := frozen_of_row w3 _ 13 _ _ z3
         have z114 : w3.cell? ⟨w.heap.size + 1, 14, none⟩ = some (.int .i64 0) := by (rw [cell_of_row w3 _ 14 _ _ _ z3]; rfl)
         have y114 : w3.frozen? ⟨w.heap.size + 1, 14, none⟩ = false := frozen_of_row w3 _ 14 _ _ z3))
  clear s2 s3 b0 b1 z3 r2 r3
  have lw3 : Below w.heap.size w w3 := l0.trans (l3.mono l0.size)
  go_wp2
  refine bodyPost_ret (v := .agg #[.string nad, .bool nre, .bool nhe, .int .i64 nsz, .string nsha, .string nmd, .int .i64 nrp, .slice na nn nc, .int .i64 nver, .int .i64 nep, .int .i64 nrm, .string nwr, .bool ndm, .bool npt, .int .i64 nfr]) (by simp [results, Try.results28, go_sem, *]) rfl ⟨rfl, ?_⟩
  repeat (refine Below.setCell (p := ⟨_, _, none⟩) ?_ (Nat.le_succ _) _)
  exact lw3

end Go.Proofs.Qxb6617077a
