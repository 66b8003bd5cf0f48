/-
  THE PROOF OF Rows.FnLaidOutIsEachKeeperInTurnSaid: the guide's frame, turned to structs by value, slices of strings and of structs; the walk lies in Qxb6617077aTurns.
-/
import Derived.Test.Qxb6617077aRows
import Derived.Test.Qxb6617077aOpenB
import Derived.Test.Qxb6617077aTurns
namespace Go.Proofs.Qxb6617077a.turns
open Go.ChangeShapes Go.WideShapes Go.ChangeAt Go.RowKit
set_option linter.unusedVariables false

theorem own : ownKnob Try.prog.godebug = none := by kernel_rfl
theorem laidOut : laidOutB Try.prog = true := by kernel_rfl

set_option maxRecDepth 100000 in
theorem lifted (os : Os) (started : os.Started) (H : Type) (enc : TypeId × Value → H) :
    ReturnsInHanded {} Try.checked os 7 .any (Rows.fnLaidOutIsEachKeeperInTurnSpec.pre6 enc Try.prog Try.f7 Rows.fnLaidOutIsEachKeeperInTurnRow.domain false) (Rows.fnLaidOutIsEachKeeperInTurnSpec.post enc Try.prog Try.f7 false true false false) := by
  refine returnsInHanded_of_change (C := Try.checked) own started (by kernel_rfl) Try.func7
    (ChangeSpec.witness6 (enc := enc) (C := Try.checked) false ⟨#[], #[.agg #[.int .i64 0, .string ByteArray.empty, .string ByteArray.empty, .int .i64 0, .slice none 0 0, .int .i64 0, .int .i64 0, .int .i64 0, .string ByteArray.empty, .bool false, .bool false], .slice none 0 0, .slice none 0 0, .slice none 0 0, .slice none 0 0], []⟩ 8 (by kernel_rfl) (by kernel_rfl) (by kernel_rfl) (by kernel_rfl)) ?_
  intro W base args ds gs before hval0 hW hcnd _
  have hval : ∀ (j : Nat) t v, Try.f7.params[j]? = some t → args[j]? = some v → Value.okWide Try.prog W .any base t v := hval0
  have hW' := hW
  obtain ⟨p, q, hA0, hV, rfl, hfz, hnd⟩ := hW
  have hA : DataW.TrodAll enc Try.prog W 0 (fun _ => true) true Try.f7.params.toList args.toList ds p := hA0
  rw [Try.params7] at hA hval
  obtain ⟨v0, vs0, d0, ds0, p0, q0, hargs, rfl, rfl, h0, r0⟩ := trodAll_cons hA
  obtain ⟨v1, vs1, d1, ds1, p1, q1, rfl, rfl, rfl, h1, r1⟩ := trodAll_cons r0
  obtain ⟨v2, vs2, d2, ds2, p2, q2, rfl, rfl, rfl, h2, r2⟩ := trodAll_cons r1
  obtain ⟨v3, vs3, d3, ds3, p3, q3, rfl, rfl, rfl, h3, r3⟩ := trodAll_cons r2
  obtain ⟨v4, vs4, d4, ds4, p4, q4, rfl, rfl, rfl, h4, r4⟩ := trodAll_cons r3
  obtain ⟨rfl, rfl, rfl⟩ := trodAll_nil r4
  obtain rfl : args = #[v0, v1, v2, v3, v4] := by cases args; simp_all
  obtain ⟨rfl, rfl⟩ := trodVars_none hV
  obtain ⟨c0, rfl, _⟩ := okWide_struct Try.underlying34 (hval 0 34 v0 rfl rfl)
  obtain ⟨a1, len1, cap1, rfl⟩ := okWide_slice Try.underlying22 (hval 1 22 v1 rfl rfl)
  obtain ⟨a2, len2, cap2, rfl⟩ := okWide_slice Try.underlying22 (hval 2 22 v2 rfl rfl)
  obtain ⟨a3, len3, cap3, rfl⟩ := okWide_slice Try.underlying22 (hval 3 22 v3 rfl rfl)
  obtain ⟨a4, len4, cap4, rfl⟩ := okWide_slice Try.underlying35 (hval 4 35 v4 rfl rfl)
  have k0 := h0
  have k1 := h1
  have k2 := h2
  have k3 := h3
  have k4 := h4
  have lt0 : ∀ x ∈ p0, x.block < W.heap.size := by obtain ⟨m, hm⟩ := k0; exact DataW.trod_lt m _ _ _ hm
  have lt1 : ∀ x ∈ p1, x.block < W.heap.size := by obtain ⟨m, hm⟩ := k1; exact DataW.trod_lt m _ _ _ hm
  have lt2 : ∀ x ∈ p2, x.block < W.heap.size := by obtain ⟨m, hm⟩ := k2; exact DataW.trod_lt m _ _ _ hm
  have lt3 : ∀ x ∈ p3, x.block < W.heap.size := by obtain ⟨m, hm⟩ := k3; exact DataW.trod_lt m _ _ _ hm
  have lt4 : ∀ x ∈ p4, x.block < W.heap.size := by obtain ⟨m, hm⟩ := k4; exact DataW.trod_lt m _ _ _ hm
  obtain ⟨_, g0⟩ := h0
  obtain ⟨_, g1⟩ := h1
  obtain ⟨_, g2⟩ := h2
  obtain ⟨_, g3⟩ := h3
  obtain ⟨_, g4⟩ := h4
  simp only [Value.cells] at g0 g1 g2 g3 g4
  obtain ⟨rsz, rrp, rver, rep, rrm, rsha, rmd, rwr, ra, rc, rdm, rpt, LR, e0, sR⟩ := rec_open g0
  obtain ⟨ha, hc, Hs, e1, sH, zH⟩ := strs_open g1
  obtain ⟨pa, pc, Ps, e2, sP, zP⟩ := strs_open g2
  obtain ⟨aa, ac, As, e3, sA, zA⟩ := strs_open g3
  obtain ⟨qa, qc, rs, e4, sQ⟩ := reps_open g4
  obtain ⟨c0⟩ := c0
  simp only [List.cons.injEq, Value.slice.injEq, and_true] at e0 e1 e2 e3 e4
  subst e0
  obtain ⟨rfl, rfl, rfl⟩ := e1
  obtain ⟨rfl, rfl, rfl⟩ := e2
  obtain ⟨rfl, rfl, rfl⟩ := e3
  obtain ⟨rfl, rfl, rfl⟩ := e4
  have HS : Hid (∀ s ∈ Hs ++ Ps, s.size ≤ maxLen) := fun s hs => (List.mem_append.1 hs).elim (zH s) (zP s)
  clear hA0 hval0 g0 g1 g2 g3 g4
  refine (law7 rsz rrp rver rep rrm rsha rmd rwr ra rc rdm rpt a1 a2 a3 a4 cap1 cap2 cap3 cap4 LR Hs Ps As rs W sR sH sP sA sQ HS zA).mono fun e W' ⟨he, bel⟩ => ?_
  subst he
  exact ⟨_, rfl, _, _, _, [], _, [], hW', trodAll_mk1 (shut_bool Try.underlying4 _), (trodAll_cons_mk (Below.trod laidOut (by kernel_rfl) (of_decide_eq_true (by kernel_rfl)) k0 bel lt0) (trodAll_cons_mk (Below.trod laidOut (by kernel_rfl) (of_decide_eq_true (by kernel_rfl)) k1 bel lt1) (trodAll_cons_mk (Below.trod laidOut (by kernel_rfl) (of_decide_eq_true (by kernel_rfl)) k2 bel lt2) (trodAll_cons_mk (Below.trod laidOut (by kernel_rfl) (of_decide_eq_true (by kernel_rfl)) k3 bel lt3) (trodAll_cons_mk (Below.trod laidOut (by kernel_rfl) (of_decide_eq_true (by kernel_rfl)) k4 bel lt4) trodAll_mk0))))), rfl, bel.frame _, fun h => by cases h⟩

theorem over : Rows.fnLaidOutIsEachKeeperInTurnRow.holds Try.pinned (OpenSpec.ofChange Rows.fnLaidOutIsEachKeeperInTurnSpec) :=
  OpenClaim.holds_of_wide 7 Try.f7 rfl rfl rfl rfl rfl rfl rfl ⟨rfl, rfl, rfl, rfl, rfl⟩ rfl rfl rfl rfl rfl (by kernel_rfl) Try.func7 (by kernel_rfl)
    (of_decide_eq_true (by kernel_rfl)) (by unfold Func.isWrapper; first | (rw [if_pos (by decide +kernel)]; kernel_rfl) | (rw [if_neg (by decide +kernel)]; exact ⟨rfl, rfl⟩))
    (fun os started H enc _ => lifted os started H enc)

end Go.Proofs.Qxb6617077a.turns
namespace Go.Proofs.Qxb6617077a
/-- THE STATEMENT. -/
theorem laidOutIsEach_proved : Rows.FnLaidOutIsEachKeeperInTurnSaid := turns.over
#print axioms laidOutIsEach_proved
end Go.Proofs.Qxb6617077a
