import Derived.Test.Qxb6618596aJoin
namespace Go.Proofs.Qxb6618596a
open Go.RowKit

/-- What AnyOf answers for the literals ls. -/
def QAny (w : World) (base : Nat) (ls : List ByteArray) (q : Value) : Prop :=
  ((∃ s ∈ ls, s.size = 0) ∧ q = .agg #[.int .u8 0, .string ⟨#[]⟩, .slice none 0 0, .bool false]) ∨
  ((∀ s ∈ ls, s.size ≠ 0) ∧ IsOr w base ls q)

theorem set4 (xs ys : List Value) (n : Nat) (hn : xs.length = n) (hy : 4 ≤ ys.length) (v0 v1 v2 v3 : Value) :
    ((((xs ++ ys).set n v0).set (n + 1) v1).set (n + 2) v2).set (n + 3) v3 = xs ++ ([v0, v1, v2, v3] ++ ys.drop 4) := by
  match ys, hy with
  | y0 :: y1 :: y2 :: y3 :: r, _ =>
    subst hn
    rw [List.set_append_right _ _ (Nat.le_refl _), List.set_append_right _ _ (by omega), List.set_append_right _ _ (by omega), List.set_append_right _ _ (by omega)]
    simp
def rowAt (ls : List ByteArray) (made : List Value) (k : Nat) : List Value := qcells (ls.take k) ++ made.drop (k * 4)
theorem rowAt_zero (ls : List ByteArray) (made : List Value) : rowAt ls made 0 = made := by simp [rowAt, qcells]
theorem rowAt_end (ls : List ByteArray) (made : List Value) (h : made.length = ls.length * 4) : rowAt ls made ls.length = qcells ls := by
  simp [rowAt, List.drop_of_length_le (by omega : made.length ≤ ls.length * 4)]
theorem rowAt_step (ls : List ByteArray) (made : List Value) (h : made.length = ls.length * 4) (k : Nat) (hk : k < ls.length) :
    ((((rowAt ls made k).set (k * 4) (.int .u8 2)).set (k * 4 + 1) (.string ls[k])).set (k * 4 + 2) (.slice none 0 0)).set (k * 4 + 3) (.bool false) = rowAt ls made (k + 1) := by
  unfold rowAt
  rw [set4 _ _ (k * 4) (by rw [qcells_len, List.length_take]; omega) (by rw [List.length_drop]; omega), qcells_snoc ls k hk, List.append_assoc, List.drop_drop]
  congr 3
  omega
theorem rowAt_get (ls : List ByteArray) (made : List Value) (h : made.length = ls.length * 4) (k : Nat) (hk : k < ls.length) (j : Nat) (hj : j < 4) : ∃ u, (rowAt ls made k)[k * 4 + j]? = some u := by
  have : k * 4 + j < (rowAt ls made k).length := by
    unfold rowAt
    rw [List.length_append, qcells_len, List.length_take, List.length_drop]
    omega
  exact ⟨_, List.getElem?_eq_getElem this⟩

theorem empty_iff (s : ByteArray) : s.toList.isEmpty = decide (s.size = 0) := by
  rw [ByteArray.toList_eq, size_eq]
  cases s.data.toList <;> simp

set_option maxHeartbeats 1000000 in
theorem anyOf18 (v : Value) (ls : List ByteArray) (w : World) (h : SOwn w v ls) (hl : ls.length ≤ 262144) :
    Calls Try.prog 18 #[v] w fun e w' => ∃ q, e = .returned q ∧ QAny w' w.heap.size ls q ∧ Below w.heap.size w w' := by
  obtain ⟨i0, hi, hz0, hz1, hz2⟩ := info_parts info27
  obtain ⟨ao, c, rfl⟩ := h.slice
  go_enter Try.func18, Try.ntmps18
  go_wp2_with (at_make; refine wpList_make_full _ rfl (.tmp 7) (.tmp 7) 25 rfl (w.heap.size + 1) 27 i0 _ 4 Try.underlying25 hi hz0 hz1 .i64 .i64 _ _ ls.length rfl rfl (by rfl) (by rfl) (by rw [hz2]; omega) (by unfold maxLen; omega) (by simp) ?next)
  case next =>
    intro w1 hown hg
    generalize (madeCells _ (ls.length * 4)).toList = made at hown
    have hml : made.length = ls.length * 4 := hown.1
    have hr1 : w1.heap[w.heap.size]? = some (.cells #[.int .u8 0, .string ⟨#[]⟩, .slice none 0 0, .bool false] 27 (0, 0)) := by
      rw [hg.block w.heap.size (by simp) (by simp)]
      exact heap_alloc_new w _
    have hb1 : Below w.heap.size w w1 := ((Below.refl _ _).alloc (Nat.le_refl _) _).grown hg (by simp) (fun k h => by cases h)
    have hown1 : w1.ownsRow (w.heap.size + 1) 27 4 (.slice (some ⟨w.heap.size + 1, 0, none⟩) ls.length ls.length) ls.length (rowAt ls made 0) := by
      rw [rowAt_zero]; simpa using hown
    clear hown hg
    go_wp2
    go_loopw [11] (fun i wr => ∃ k : Nat, k ≤ ls.length ∧ i = .int .i64 k ∧ Hid (∀ m (hm : m < ls.length), m < k → ls[m].size ≠ 0) ∧
      wr.ownsRow (w.heap.size + 1) 27 4 (.slice (some ⟨w.heap.size + 1, 0, none⟩) ls.length ls.length) ls.length (rowAt ls made k) ∧
      wr.heap[w.heap.size]? = some (.cells #[.int .u8 0, .string ⟨#[]⟩, .slice none 0 0, .bool false] 27 (0, 0)) ∧ Below w.heap.size w wr) (fun i _ => ls.length - (intOf i).toNat)
    case atStart => exact ⟨0, Nat.zero_le _, rfl, fun m _ hm => by omega, hown1, hr1, hb1⟩
    case round =>
      obtain ⟨k, hk, rfl, HM, ho, hr, hbe⟩ := hrel
      have r0 : wr.cell? ⟨w.heap.size, 0, none⟩ = some (.int .u8 0) := by rw [cell_of_row wr _ 0 _ _ _ hr]; rfl
      have r1 : wr.cell? ⟨w.heap.size, 1, none⟩ = some (.string ⟨#[]⟩) := by rw [cell_of_row wr _ 1 _ _ _ hr]; rfl
      have r2 : wr.cell? ⟨w.heap.size, 2, none⟩ = some (.slice none 0 0) := by rw [cell_of_row wr _ 2 _ _ _ hr]; rfl
      have r3 : wr.cell? ⟨w.heap.size, 3, none⟩ = some (.bool false) := by rw [cell_of_row wr _ 3 _ _ _ hr]; rfl
      have f0 : wr.frozen? ⟨w.heap.size, 0, none⟩ = false := by simp [World.frozen?, hr]
      have f1 : wr.frozen? ⟨w.heap.size, 1, none⟩ = false := by simp [World.frozen?, hr]
      have f2 : wr.frozen? ⟨w.heap.size, 2, none⟩ = false := by simp [World.frozen?, hr]
      have f3 : wr.frozen? ⟨w.heap.size, 3, none⟩ = false := by simp [World.frozen?, hr]
      by_cases hlt : k < ls.length
      · obtain ⟨g, rfl, hg, hc⟩ := h.at hlt
        have hc' := (hbe.cell (p := ⟨g, k, none⟩) hg).trans hc
        clear hc
        by_cases he : ls[k].size = 0
        · have hem : ls[k].toList.isEmpty = true := by rw [empty_iff]; simp [he]
          have HE : Hid (ls[k].size = 0) := he
          clear he
          go_wp2
          refine bodyPost_ret (v := .agg #[.int .u8 0, .string ⟨#[]⟩, .slice none 0 0, .bool false]) (by simp [results, Try.results18, go_sem, r0, r1, r2, r3]) rfl ⟨_, rfl, .inl ⟨⟨ls[k], List.getElem_mem hlt, HE.out⟩, rfl⟩, ?_⟩
          exact below4 hbe (Nat.le_refl _) _ _ _ _ _ _ _ _
        · have hem : ls[k].toList.isEmpty = false := by rw [empty_iff]; simp [he]
          have HE : Hid (ls[k].size ≠ 0) := he
          clear he
          obtain ⟨u0, q0⟩ := rowAt_get ls made hml k hlt 0 (by omega)
          obtain ⟨u1, q1⟩ := rowAt_get ls made hml k hlt 1 (by omega)
          obtain ⟨u2, q2⟩ := rowAt_get ls made hml k hlt 2 (by omega)
          obtain ⟨u3, q3⟩ := rowAt_get ls made hml k hlt 3 (by omega)
          have d0 : wr.cell? ⟨w.heap.size + 1, k * 4, none⟩ = some u0 := (ho.cellAt (k * 4) (by omega)).trans q0
          have d1 : wr.cell? ⟨w.heap.size + 1, k * 4 + 1, none⟩ = some u1 := (ho.cellAt (k * 4 + 1) (by omega)).trans q1
          have d2 : wr.cell? ⟨w.heap.size + 1, k * 4 + 2, none⟩ = some u2 := (ho.cellAt (k * 4 + 2) (by omega)).trans q2
          have d3 : wr.cell? ⟨w.heap.size + 1, k * 4 + 3, none⟩ = some u3 := (ho.cellAt (k * 4 + 3) (by omega)).trans q3
          have z0 : wr.frozen? ⟨w.heap.size + 1, k * 4, none⟩ = false := ho.frozenAt _
          have z1 : wr.frozen? ⟨w.heap.size + 1, k * 4 + 1, none⟩ = false := ho.frozenAt _
          have z2 : wr.frozen? ⟨w.heap.size + 1, k * 4 + 2, none⟩ = false := ho.frozenAt _
          have z3 : wr.frozen? ⟨w.heap.size + 1, k * 4 + 3, none⟩ = false := ho.frozenAt _
          clear q0 q1 q2 q3
          go_wp2
          go_roundw
          case rel =>
            refine ⟨k + 1, by omega, by go_num, fun m hm hmk => ?_, ?_, ?_, below4 hbe (Nat.le_succ _) _ _ _ _ _ _ _ _⟩
            · by_cases e : m = k
              · subst e; exact HE.out
              · exact HM.out m hm (by omega)
            · rw [← rowAt_step ls made hml k hlt]
              exact (((((ho.stored (k * 4) _).1).stored (k * 4 + 1) _).1.stored (k * 4 + 2) _).1.stored (k * 4 + 3) _).1
            · rw [Below.heap_setCell _ _ _ _ (by simp), Below.heap_setCell _ _ _ _ (by simp), Below.heap_setCell _ _ _ _ (by simp), Below.heap_setCell _ _ _ _ (by simp)]
              exact hr
          case measure => simp [intOf]; omega
      · have hk' : k = ls.length := by omega
        subst hk'
        rw [rowAt_end ls made hml] at ho
        go_wp2_with fail
        refine (or25 _ ls wr (ownsRow_base ho (Nat.zero_le _)) hl).mono ?_
        rintro e w2 ⟨q, rfl, hq, hb2⟩
        have hN : w.heap.size < wr.heap.size := lt_of_block hr
        have hr2 : w2.heap[w.heap.size]? = some (.cells #[.int .u8 0, .string ⟨#[]⟩, .slice none 0 0, .bool false] 27 (0, 0)) := by
          rw [hb2.block w.heap.size hN]; exact hr
        obtain ⟨o, l, a2, n2, c2, rfl⟩ := hq.form
        clear r0 r1 r2 r3 f0 f1 f2 f3
        have r0 : w2.cell? ⟨w.heap.size, 0, none⟩ = some (.int .u8 0) := by rw [cell_of_row w2 _ 0 _ _ _ hr2]; rfl
        have r1 : w2.cell? ⟨w.heap.size, 1, none⟩ = some (.string ⟨#[]⟩) := by rw [cell_of_row w2 _ 1 _ _ _ hr2]; rfl
        have r2 : w2.cell? ⟨w.heap.size, 2, none⟩ = some (.slice none 0 0) := by rw [cell_of_row w2 _ 2 _ _ _ hr2]; rfl
        have r3 : w2.cell? ⟨w.heap.size, 3, none⟩ = some (.bool false) := by rw [cell_of_row w2 _ 3 _ _ _ hr2]; rfl
        have f0 : w2.frozen? ⟨w.heap.size, 0, none⟩ = false := by simp [World.frozen?, hr2]
        have f1 : w2.frozen? ⟨w.heap.size, 1, none⟩ = false := by simp [World.frozen?, hr2]
        have f2 : w2.frozen? ⟨w.heap.size, 2, none⟩ = false := by simp [World.frozen?, hr2]
        have f3 : w2.frozen? ⟨w.heap.size, 3, none⟩ = false := by simp [World.frozen?, hr2]
        have HALL : Hid (∀ s ∈ ls, s.size ≠ 0) := by
          intro s hs
          obtain ⟨m, hm, rfl⟩ := List.getElem_of_mem hs
          exact HM.out m hm hm
        go_wp2
        refine bodyPost_ret (v := .agg #[.int .u8 o, .string l, .slice a2 n2 c2, .bool false]) (by simp [results, Try.results18, go_sem, r0, r1, r2, r3]) rfl ⟨_, rfl, .inr ⟨HALL.out, ?_⟩, ?_⟩
        · exact hq.store4 hN hbe.size _ _ _ _ _ _ _ _
        · exact below4 (hbe.trans (hb2.mono hbe.size)) (Nat.le_refl _) _ _ _ _ _ _ _ _

end Go.Proofs.Qxb6618596a
