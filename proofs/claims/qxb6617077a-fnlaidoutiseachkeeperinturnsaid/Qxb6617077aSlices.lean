import Derived.Test.Qxb6617077aBase
import Derived.Deep.RegionLaw
import Derived.Deep.RegionHeld3
namespace Go.Proofs.Qxb6617077a
open Go.RowKit

theorem info9 : (Try.prog.info? 9).map (fun i => (i.zero, i.size, i.bytes)) = some (some (.string ⟨#[]⟩), 1, 16) := by kernel_rfl
theorem strs_append (A B : List ByteArray) : strs (A ++ B) = strs A ++ strs B := by simp [strs]

theorem ownsRow_form {w : World} {base : Nat} {e : TypeId} {size : Nat} {v : Value} {n : Nat} {xs : List Value} (h : w.ownsRow base e size v n xs) : ∃ a c, v = .slice a n c := by
  rcases h.2 with ⟨hv, h0⟩ | ⟨g, cap, cur, hv, _⟩
  · exact ⟨_, _, by rw [hv, h0]⟩
  · exact ⟨_, _, hv⟩

/-- 'append(v, u...)', v of the call's own, u whatever slice of strings. -/
theorem run_app {w : World} {base : Nat} {v u : Value} {xs ls : List ByteArray} (hown : w.ownsRow base 9 1 v xs.length (strs xs)) (hs : SL w u ls) (hb : base ≤ w.heap.size) (hbd : xs.length + ls.length ≤ 1048576) (ty : TypeId) :
    ∃ v' w', (Builtin.append_ #[22, 22] ty #[v, u]).run Try.prog w = .ok v' w' ∧ w'.ownsRow base 9 1 v' (xs ++ ls).length (strs (xs ++ ls)) ∧ w.grownBy w' v.ownBlock := by
  obtain ⟨i0, hi, hz0, hz1, hz2⟩ := info_parts info9
  obtain ⟨a, c, rfl⟩ := hs.slice
  cases a with
  | none =>
    obtain ⟨rfl, _, rfl⟩ := hs.none_nil
    exact ⟨v, w, run_append_owned_none w base 22 ty 9 i0 1 Try.underlying22 hi v _ _ hown, by simpa using hown, ⟨rfl, rfl, rfl, Nat.le_refl _, fun _ _ _ => rfl⟩⟩
  | some x =>
    obtain ⟨v', w', hr, h1, h2, _⟩ := run_append_own (P := Try.prog) w base 22 ty 9 i0 (.string ⟨#[]⟩) 1 16 Try.underlying22 hi hz0 hz1 hz2 rfl (by decide) v xs.length (strs xs) hown x ls.length c (strs ls) (by rw [strs_len]; omega) hs.src (strs_one ls) (by unfold maxLen; omega) (by omega) hb
    exact ⟨v', w', hr, by rw [List.length_append, strs_append]; exact h1, h2⟩

theorem wpList_app {w : World} {ops : Array Oper} {rest : List Oper} {o : Oper} {a : Act} {Q : Exit → Act → World → Prop} (hgd : o.guard = none) (s x : Operand)
    (ho : o.op = .call { callee := .builtin .append, args := #[s, x], argTypes := #[22, 22] }) {base : Nat} {v u : Value} {xs ls : List ByteArray} (hs : a.eval s = v) (hx : a.eval x = u)
    (hown : w.ownsRow base 9 1 v xs.length (strs xs)) (hsl : SL w u ls) (hb : base ≤ w.heap.size) (hbd : xs.length + ls.length ≤ 1048576)
    (h : ∀ v' w', w'.ownsRow base 9 1 v' (xs ++ ls).length (strs (xs ++ ls)) → w.grownBy w' v.ownBlock → wpList Try.prog ops Q rest (a.put o.dst v') w') : wpList Try.prog ops Q (o :: rest) a w := by
  refine wpList_plain hgd fun K hK => ?_
  obtain ⟨v', w', hr, h1, h2⟩ := run_app hown hsl hb hbd o.type
  unfold Oper.wp execOp
  simp only [ho, resolve, invoke, builtin, Sem.run_bind, Sem.run_pure, Result.andThen_ok, List.map_toArray, List.map_cons, List.map_nil, hs, hx, hr]
  exact hK _ _ (h v' w' h1 h2)
theorem step_app {w : World} {ops : Array Oper} {o : Oper} {a : Act} {K : Act → World → Prop} {Q : Exit → Act → World → Prop} {E : Prop} (hgd : o.guard = none) (s x : Operand)
    (ho : o.op = .call { callee := .builtin .append, args := #[s, x], argTypes := #[22, 22] }) {base : Nat} {v u : Value} {xs ls : List ByteArray} (hs : a.eval s = v) (hx : a.eval x = u)
    (hown : w.ownsRow base 9 1 v xs.length (strs xs)) (hsl : SL w u ls) (hb : base ≤ w.heap.size) (hbd : xs.length + ls.length ≤ 1048576)
    (h : ∀ v' w', w'.ownsRow base 9 1 v' (xs ++ ls).length (strs (xs ++ ls)) → w.grownBy w' v.ownBlock → K (a.put o.dst v') w') :
    if Region.wanted o (yielded ops a.tmps) = true then Oper.wp Try.prog o a w K Q else E := by
  have hw : Region.wanted o (yielded ops a.tmps) = true := by simp [Region.wanted, hgd]
  rw [if_pos hw]
  obtain ⟨v', w', hr, h1, h2⟩ := run_app hown hsl hb hbd o.type
  unfold Oper.wp execOp
  simp only [ho, resolve, invoke, builtin, Sem.run_bind, Sem.run_pure, Result.andThen_ok, List.map_toArray, List.map_cons, List.map_nil, hs, hx, hr]
  exact h v' w' h1 h2

set_option maxHeartbeats 400000 in
theorem concat16 (v u : Value) (A B : List ByteArray) (w : World) (h1 : SL w v A) (h2 : SL w u B) (hl : A.length + B.length ≤ 1048576) :
    Calls Try.prog 16 #[v, u] w fun e w' => ∃ r, e = .returned r ∧ SL w' r (A ++ B) ∧ Below w.heap.size w w' := by
  obtain ⟨i0, hi, hz0, hz1, hz2⟩ := info_parts info9
  obtain ⟨a, c, rfl⟩ := h1.slice
  obtain ⟨b, d, rfl⟩ := h2.slice
  go_enter Try.func16, Try.ntmps16
  go_wp2_with (first
    | (at_make; refine wpList_make_own _ rfl (.const (.int .i64 0)) (.tmp 10) 22 rfl w.heap.size 9 i0 (.string ⟨#[]⟩) 1 Try.underlying22 hi hz0 hz1 .i64 .i64 _ (A.length + B.length) rfl rfl (by simp) (by rw [hz2]; omega) (by unfold maxLen; omega) (Nat.le_refl _) ?next)
    | go_in)
  case next =>
    intro w1 hown1 hg1
    have hb1 : Below w.heap.size w w1 := (Below.refl _ _).grown hg1 (Nat.le_refl _) (fun k h => by cases h)
    have k1 := h1.below hb1 (Nat.le_refl _)
    have k2 := h2.below hb1 (Nat.le_refl _)
    clear hg1
    go_wp2_with (first
      | (at_builtin; refine wpList_app rfl (.tmp 12) (.tmp 13) rfl (xs := []) rfl rfl hown1 k1 hb1.size (by simp; omega) ?next2)
      | go_in)
    case next2 =>
      intro v2 w2 hown2 hg2
      have hb2 : Below w.heap.size w w2 := hb1.grown hg2 hb1.size (fun q hq => (hown1.lt q hq).1)
      have k3 := h2.below hb2 (Nat.le_refl _)
      obtain ⟨a2, c2, rfl⟩ := ownsRow_form hown2
      clear hg2
      go_wp2_with (first
        | (at_builtin; refine wpList_app rfl (.tmp 15) (.tmp 16) rfl rfl rfl hown2 k3 hb2.size hl ?next3)
        | go_in)
      case next3 =>
        intro v3 w3 hown3 hg3
        have hb3 : Below w.heap.size w w3 := hb2.grown hg3 hb2.size (fun q hq => (hown2.lt q hq).1)
        obtain ⟨a3, c3, rfl⟩ := ownsRow_form hown3
        go_wp2
        go_ret
        rw [← List.length_append] at hown3
        refine ⟨_, rfl, ?_, hb3⟩
        show SL w3 (.slice a3 (A.length + B.length) c3) (A ++ B)
        rw [← List.length_append]
        exact SL.own hown3

set_option maxHeartbeats 1000000 in
theorem keepers41 (v u : Value) (A B : List ByteArray) (w : World) (h1 : SL w v A) (h2 : SL w u B) (hl : A.length + B.length ≤ 1048576) :
    Calls Try.prog 41 #[.agg #[v, u]] w fun e w' => ∃ r, e = .returned r ∧ SL w' r (A ++ B) ∧ Below w.heap.size w w' := by
  obtain ⟨a, c, rfl⟩ := h1.slice
  obtain ⟨b, d, rfl⟩ := h2.slice
  go_enter Try.func41, Try.ntmps41
  go_wp2
  have hd0 : Below w.heap.size w (w.alloc (.cells #[.slice a A.length c, .slice b B.length d] 41)).drew := ((Below.refl _ _).alloc (Nat.le_refl _) _).drew
  have hc0 : (w.alloc (.cells #[.slice a A.length c, .slice b B.length d] 41)).drew.cell? ⟨w.heap.size, 0, none⟩ = some (.slice a A.length c) := by simp
  have hc1 : (w.alloc (.cells #[.slice a A.length c, .slice b B.length d] 41)).drew.cell? ⟨w.heap.size, 1, none⟩ = some (.slice b B.length d) := by simp
  go_region_held3 (fun w' => w'.cell? ⟨w.heap.size, 0, none⟩ = some (.slice a A.length c) ∧ w'.cell? ⟨w.heap.size, 1, none⟩ = some (.slice b B.length d))
    (first | assumption | go_keep)
    (first
      | (refine step_app rfl (.const (.slice none 0 0)) (.tmp 4) rfl (base := w.heap.size + 1) (v := .slice none 0 0) (u := .slice a A.length c) (xs := []) (ls := A) rfl rfl (World.ownsRow_nil _ _ _ _) (by exact h1.below hd0 (Nat.le_refl _)) (by simp) (by simp; omega) ?_
         intro v1 w1 hown1 hg1
         have hS1 : w1.cell? ⟨w.heap.size, 0, none⟩ = some (.slice a A.length c) ∧ w1.cell? ⟨w.heap.size, 1, none⟩ = some (.slice b B.length d) := ⟨hg1.cell hc0 (by simp [Value.ownBlock]), hg1.cell hc1 (by simp [Value.ownBlock])⟩
         have hb1 : Below w.heap.size w w1 := hd0.grown hg1 hd0.size (fun q hq => by simp [Value.ownBlock] at hq)
         have hz1 : w.heap.size + 1 ≤ w1.heap.size := Nat.le_trans (by simp) hg1.size)
      | (refine step_app rfl (.tmp 5) (.tmp 7) rfl (base := w.heap.size + 1) (v := v1) (u := .slice b B.length d) (xs := A) (ls := B) rfl rfl (by simpa using hown1) (by exact h2.below hb1 (Nat.le_refl _)) hz1 hl ?_
         intro v2 w2 hown2 hg2
         have hS2 : w2.cell? ⟨w.heap.size, 0, none⟩ = some (.slice a A.length c) ∧ w2.cell? ⟨w.heap.size, 1, none⟩ = some (.slice b B.length d) := ⟨hg2.cell hS1.1 (fun e => Nat.not_succ_le_self _ (hown1.lt _ e.symm).1), hg2.cell hS1.2 (fun e => Nat.not_succ_le_self _ (hown1.lt _ e.symm).1)⟩
         have hb2 : Below w.heap.size w w2 := hb1.grown hg2 hb1.size (fun q hq => Nat.le_of_succ_le (hown1.lt q hq).1)))
  go_wp2
  go_ret
  exact ⟨_, rfl, SL.own hown2, hb2⟩

end Go.Proofs.Qxb6617077a
