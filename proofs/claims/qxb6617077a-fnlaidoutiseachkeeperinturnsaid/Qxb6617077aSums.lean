import Derived.Test.Qxb6617077aSlices
namespace Go.Proofs.Qxb6617077a
open Go.RowKit

/-- A number came back. -/
def GaveInt (e : Ending) : Prop := ∃ x : Int, e = .returned (.int .i64 x)

set_option maxHeartbeats 400000 in
theorem addLen18 (x y : Int) (w : World) : Calls Try.prog 18 #[.int .i64 x, .int .i64 y] w fun e w' => GaveInt e ∧ w' = w := by
  by_cases h1 : 1048576 < x
  · go_enter Try.func18, Try.ntmps18
    go_wp2
    go_ret
    exact ⟨⟨_, rfl⟩, rfl⟩
  · by_cases h2 : 1048576 < y
    · go_enter Try.func18, Try.ntmps18
      go_wp2
      go_ret
      exact ⟨⟨_, rfl⟩, rfl⟩
    · go_enter Try.func18, Try.ntmps18
      go_wp2
      all_goals (go_ret; exact ⟨⟨_, rfl⟩, rfl⟩)

set_option maxHeartbeats 400000 in
theorem addWords33 (x y : Int) (w : World) : Calls Try.prog 33 #[.int .i64 x, .int .i64 y] w fun e w' => GaveInt e ∧ w' = w := by
  by_cases h2 : 1048576 < y
  · go_enter Try.func33, Try.ntmps33
    go_wp2
    go_ret
    exact ⟨⟨_, rfl⟩, rfl⟩
  · go_enter Try.func33, Try.ntmps33
    go_wp2_with fail
    refine (addLen18 _ _ _).mono ?_
    rintro e w' ⟨⟨z, rfl⟩, hw⟩
    subst w'
    go_wp2
    go_ret
    exact ⟨⟨_, rfl⟩, rfl⟩

set_option maxHeartbeats 400000 in
theorem addStrs10 (x : Int) (v : Value) (ls : List ByteArray) (w : World) (h : SL w v ls) (hl : ls.length ≤ 1048576) : Calls Try.prog 10 #[.int .i64 x, v] w fun e w' => GaveInt e ∧ w' = w := by
  obtain ⟨ao, c, rfl⟩ := h.slice
  go_enter Try.func10, Try.ntmps10
  go_wp2_with fail
  refine (addWords33 _ _ _).mono ?_
  rintro e w' ⟨⟨z, rfl⟩, hw⟩
  subst w'
  go_wp2
  go_loop [0, 13] (fun tv i => ∃ (k : Nat) (y : Int), k ≤ ls.length ∧ i = .int .i64 k ∧ tv = .int .i64 y) (fun _ i => ls.length - (intOf i).toNat)
  case atStart => exact ⟨0, _, Nat.zero_le _, rfl, rfl⟩
  case round =>
    obtain ⟨k, y, hk, rfl, rfl⟩ := hrel
    by_cases hlt : k < ls.length
    · obtain ⟨b, off, rfl, hg, hc⟩ := h.at hlt
      by_cases h2 : 1048576 < y
      · go_wp2
        go_ret
        exact ⟨⟨_, rfl⟩, rfl⟩
      · go_wp2_with fail
        refine (addLen18 _ _ _).mono ?_
        rintro e w' ⟨⟨z, rfl⟩, hw⟩
        subst w'
        go_wp2
        go_round
        case rel => exact ⟨k + 1, _, by omega, by go_num, rfl⟩
        case measure => simp [intOf]; omega
    · go_wp2
      go_ret
      exact ⟨⟨_, rfl⟩, rfl⟩

set_option maxHeartbeats 1000000 in
theorem addRec23 (x : Int) (rsz rrp rver rep rrm : Int) (rsha rmd rwr : ByteArray) (ra : Option Addr) (rn rc : Nat) (rdm rpt : Bool) (ls : List ByteArray) (w : World) (h : SL w (.slice ra rn rc) ls) (hl : ls.length ≤ 1048576) :
    Calls Try.prog 23 #[.int .i64 x, .agg #[.int .i64 rsz, .string rsha, .string rmd, .int .i64 rrp, .slice ra rn rc, .int .i64 rver, .int .i64 rep, .int .i64 rrm, .string rwr, .bool rdm, .bool rpt]] w fun e w' => GaveInt e ∧ Below w.heap.size w w' := by
  have hb : Below w.heap.size w (w.alloc (.cells #[.int .i64 rsz, .string rsha, .string rmd, .int .i64 rrp, .slice ra rn rc, .int .i64 rver, .int .i64 rep, .int .i64 rrm, .string rwr, .bool rdm, .bool rpt] 34)) := (Below.refl _ _).alloc (Nat.le_refl _) _
  go_enter Try.func23, Try.ntmps23
  go_wp2_with fail
  refine (addLen18 _ _ _).mono ?_
  rintro e w' ⟨⟨z1, rfl⟩, hw⟩
  subst w'
  go_wp2_with fail
  refine (addLen18 _ _ _).mono ?_
  rintro e w' ⟨⟨z2, rfl⟩, hw⟩
  subst w'
  go_wp2_with fail
  refine (addLen18 _ _ _).mono ?_
  rintro e w' ⟨⟨z3, rfl⟩, hw⟩
  subst w'
  go_wp2_with fail
  refine (addStrs10 _ _ ls _ (h.below hb (Nat.le_refl _)) hl).mono ?_
  rintro e w' ⟨⟨z4, rfl⟩, hw⟩
  subst w'
  go_wp2
  go_ret
  exact ⟨⟨_, rfl⟩, hb⟩

theorem eqnil (w : World) (a : Option Addr) (n c : Nat) : (binOp .eql 22 (.slice a n c) (.slice none 0 0)).run Try.prog w = .ok (.bool a.isNone) w := by
  simp only [binOp]
  simp [run_equal_slice_nil w 22 9 a n c Try.underlying22]

def part (ls : List ByteArray) (k : Nat) (made : List Value) : List Value := strs (ls.take k) ++ made.drop k
theorem part_zero (ls : List ByteArray) (made : List Value) : part ls 0 made = made := by simp [part, strs]
theorem part_end (ls : List ByteArray) (made : List Value) (h : made.length = ls.length) : part ls ls.length made = strs ls := by
  simp [part, List.drop_of_length_le (Nat.le_of_eq h)]
theorem part_set (ls : List ByteArray) (made : List Value) (h : made.length = ls.length) (k : Nat) (hk : k < ls.length) : (part ls k made).set k (.string ls[k]) = part ls (k + 1) made := by
  unfold part
  have e1 : (strs (ls.take k)).length = k := by rw [strs_len, List.length_take]; omega
  rw [List.set_append_right _ _ (by omega), e1, Nat.sub_self, List.take_succ_eq_append_getElem hk, strs_append, List.append_assoc]
  congr 1
  rw [List.drop_eq_getElem_cons (by omega)]
  rfl
theorem part_get (ls : List ByteArray) (made : List Value) (h : made.length = ls.length) (k : Nat) (hk : k < ls.length) : ∃ u, (part ls k made)[k]? = some u := by
  have : k < (part ls k made).length := by
    unfold part
    rw [List.length_append, strs_len, List.length_take, List.length_drop]
    omega
  exact ⟨_, List.getElem?_eq_getElem this⟩

set_option maxHeartbeats 1000000 in
theorem clone25 (v : Value) (ls : List ByteArray) (w : World) (h : SL w v ls) (hl : ls.length ≤ 1048576) :
    Calls Try.prog 25 #[v] w fun e w' => ∃ r, e = .returned r ∧ SL w' r ls ∧ Below w.heap.size w w' := by
  obtain ⟨i0, hi, hz0, hz1, hz2⟩ := info_parts info9
  obtain ⟨ao, c, rfl⟩ := h.slice
  have hnil := eqnil
  cases ao with
  | none =>
    obtain ⟨rfl, _, rfl⟩ := h.none_nil
    go_enter Try.func25, Try.ntmps25
    go_wp2
    go_ret
    exact ⟨_, rfl, SL.nil _, Below.refl _ _⟩
  | some x =>
    go_enter Try.func25, Try.ntmps25
    go_wp2_with (first
      | (at_make; refine wpList_make_full _ rfl (.tmp 9) (.tmp 9) 22 rfl w.heap.size 9 i0 (.string ⟨#[]⟩) 1 Try.underlying22 hi hz0 hz1 .i64 .i64 _ _ ls.length rfl rfl (by rfl) (by rfl) (by rw [hz2]; omega) (by unfold maxLen; omega) (Nat.le_refl _) ?next)
      | go_in)
    case next =>
      intro w1 hown hg
      generalize (madeCells _ _).toList = made at hown
      have hml : made.length = ls.length := by have := hown.1; omega
      have hb1 : Below w.heap.size w w1 := (Below.refl _ _).grown hg (Nat.le_refl _) (fun k h => by cases h)
      have hown' : w1.ownsRow w.heap.size 9 1 (.slice (some ⟨w.heap.size, 0, none⟩) ls.length ls.length) ls.length (part ls 0 made) := by rw [part_zero]; exact hown
      clear hown hg
      go_wp2
      go_loopw [13] (fun i wr => ∃ k : Nat, k ≤ ls.length ∧ i = .int .i64 k ∧ wr.ownsRow w.heap.size 9 1 (.slice (some ⟨w.heap.size, 0, none⟩) ls.length ls.length) ls.length (part ls k made) ∧ Below w.heap.size w wr) (fun i _ => ls.length - (intOf i).toNat)
      case atStart => exact ⟨0, Nat.zero_le _, rfl, hown', hb1⟩
      case round =>
        obtain ⟨k, hk, rfl, ho, hbe⟩ := hrel
        by_cases hlt : k < ls.length
        · obtain ⟨b, off, hx, hg, hc⟩ := h.at hlt
          cases hx
          have hc' := (hbe.cell (p := ⟨b, off + k, none⟩) hg).trans hc
          clear hc
          obtain ⟨u, hu⟩ := part_get ls made hml k hlt
          have hd : wr.cell? ⟨w.heap.size, k, none⟩ = some u := (ho.cellAt k (by omega)).trans hu
          have hf := ho.frozenAt k
          clear hu
          go_wp2
          go_roundw
          case rel =>
            refine ⟨k + 1, by omega, by go_num, ?_, hbe.setCell (p := ⟨_, _, none⟩) (Nat.le_refl _) _⟩
            rw [← part_set ls made hml k hlt]
            exact (ho.stored k _).1
          case measure => simp [intOf]; omega
        · obtain rfl : k = ls.length := by omega
          rw [part_end ls made hml] at ho
          go_wp2
          go_ret
          exact ⟨_, rfl, SL.own ho, hbe⟩

end Go.Proofs.Qxb6617077a
