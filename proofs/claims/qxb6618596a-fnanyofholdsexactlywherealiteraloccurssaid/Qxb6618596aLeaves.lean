import Derived.Test.Qxb6618596aJoined
namespace Go.Proofs.Qxb6618596a
open Go.RowKit

theorem strs_app (ls : List ByteArray) (s : ByteArray) : strs (ls ++ [s]) = strs ls ++ [.string s] := by
  simp only [strs, List.map_append, List.map_cons, List.map_nil]

set_option maxHeartbeats 400000 in
theorem leaves11_lit (s : ByteArray) (v : Value) (ls : List ByteArray) (base : Nat) (w : World) (hl : ls.length ≤ 262144) (ho : w.ownsRow base 9 1 v ls.length (strs ls)) (hb : base ≤ w.heap.size) :
    Calls Try.prog 11 #[.agg #[.int .u8 2, .string s, .slice none 0 0, .bool false], v] w fun e w' => ∃ v', e = .returned (.tuple #[v', .bool true]) ∧ w'.ownsRow base 9 1 v' (ls.length + 1) (strs (ls ++ [s])) ∧ Below base w w' := by
  obtain ⟨i0, hi, hz0, hz1, hz2⟩ := info_parts info9
  obtain ⟨ao, c, rfl⟩ := ownsRow_form ho
  go_enter Try.func11, Try.ntmps11
  go_wp2_with (first
    | (at_builtin; refine wpList_append_own _ rfl (.tmp 17) (.tmp 20) 22 rfl base 9 i0 (.string ⟨#[]⟩) 1 16 Try.underlying22 hi hz0 hz1 hz2 rfl (by decide) _ ls.length (strs ls) rfl ((((ho.alloc _).alloc _).alloc _).alloc _ |>.alloc _) ⟨w.heap.size + 4, 0, none⟩ 1 1 [.string s] rfl rfl ?cells (one_str _) (by unfold maxLen; omega) (by omega) (by simp; omega) ?nextj)
    | go_in)
  case cells =>
    intro j u hj
    have hx : ((((w.alloc (.cells #[.int .u8 2, .string s, .slice none 0 0, .bool false] 27)).alloc (.cells #[.int .u8 2, .string s, .slice none 0 0, .bool false] 27)).alloc (.cells #[.int .u8 2, .string s, .slice none 0 0, .bool false] 27)).alloc (.cells #[.int .u8 2, .string s, .slice none 0 0, .bool false] 27)).heap.size = w.heap.size + 4 := by simp
    have := cell_one_new ((((w.alloc (.cells #[.int .u8 2, .string s, .slice none 0 0, .bool false] 27)).alloc (.cells #[.int .u8 2, .string s, .slice none 0 0, .bool false] 27)).alloc (.cells #[.int .u8 2, .string s, .slice none 0 0, .bool false] 27)).alloc (.cells #[.int .u8 2, .string s, .slice none 0 0, .bool false] 27)) (.string s) 9 j u hj
    rw [hx] at this
    exact this
  case nextj =>
    intro v' w1 hown1 hg1 _
    obtain ⟨a1, c1, rfl⟩ := ownsRow_form hown1
    go_wp2
    go_ret2
    refine ⟨_, rfl, by rw [strs_app]; exact hown1, ?_⟩
    refine Below.grown ?_ hg1 (by simp; omega) (fun q hq => (ho.lt q hq).1)
    exact (((((Below.refl _ _).alloc hb _).alloc (by simp; omega) _).alloc (by simp; omega) _).alloc (by simp; omega) _).alloc (by simp; omega) _

set_option maxHeartbeats 400000 in
theorem leaves11_all (w : World) :
    Calls Try.prog 11 #[.agg #[.int .u8 0, .string ⟨#[]⟩, .slice none 0 0, .bool false], .slice none 0 0] w fun e w' => e = .returned (.tuple #[.slice none 0 0, .bool true]) ∧ Below w.heap.size w w' := by
  go_enter Try.func11, Try.ntmps11
  go_wp2
  go_loopw [1, 8] (fun ov i wr => ov = .slice none 0 0 ∧ i = .int .i64 0 ∧ Below w.heap.size w wr) (fun _ _ _ => 0)
  case atStart => exact ⟨rfl, rfl, ((((Below.refl _ _).alloc (Nat.le_refl _) _).alloc (by simp) _).alloc (by simp; omega) _).alloc (by simp; omega) _⟩
  case round =>
    obtain ⟨rfl, rfl, hbe⟩ := hrel
    go_wp2
    go_ret2
    exact ⟨rfl, hbe⟩

set_option maxHeartbeats 400000 in
theorem leaves11_none (w : World) :
    Calls Try.prog 11 #[.agg #[.int .u8 1, .string ⟨#[]⟩, .slice none 0 0, .bool false], .slice none 0 0] w fun e w' => e = .returned (.tuple #[.slice none 0 0, .bool true]) ∧ Below w.heap.size w w' := by
  go_enter Try.func11, Try.ntmps11
  go_wp2
  go_loopw [1, 8] (fun ov i wr => ov = .slice none 0 0 ∧ i = .int .i64 0 ∧ Below w.heap.size w wr) (fun _ _ _ => 0)
  case atStart => exact ⟨rfl, rfl, ((((Below.refl _ _).alloc (Nat.le_refl _) _).alloc (by simp) _).alloc (by simp; omega) _).alloc (by simp; omega) _⟩
  case round =>
    obtain ⟨rfl, rfl, hbe⟩ := hrel
    go_wp2
    go_ret2
    exact ⟨rfl, hbe⟩

set_option maxHeartbeats 1000000 in
theorem leaves11_or (ls : List ByteArray) (a : Option Addr) (c base : Nat) (w : World) (h2 : 2 ≤ ls.length) (hl : ls.length ≤ 262144) (ho : w.ownsRow base 27 4 (.slice a ls.length c) ls.length (qcells ls)) :
    Calls Try.prog 11 #[.agg #[.int .u8 4, .string ⟨#[]⟩, .slice a ls.length c, .bool false], .slice none 0 0] w fun e w' => ∃ v', e = .returned (.tuple #[v', .bool true]) ∧ w'.ownsRow w.heap.size 9 1 v' ls.length (strs ls) ∧ Below w.heap.size w w' := by
  obtain ⟨g, rfl, hg⟩ : ∃ g, a = some ⟨g, 0, none⟩ ∧ g < w.heap.size := by
    rcases ho.2 with ⟨hv, h0⟩ | ⟨g, cap', cur, hv, _, hg, _⟩
    · omega
    · simp only [Value.slice.injEq] at hv
      exact ⟨g, hv.1, lt_of_block hg⟩
  go_enter Try.func11, Try.ntmps11
  go_wp2
  go_loopw [1, 8] (fun ov i wr => ∃ k : Nat, k ≤ ls.length ∧ i = .int .i64 k ∧ (∃ a c, ov = .slice a k c) ∧ wr.ownsRow w.heap.size 9 1 ov k (strs (ls.take k)) ∧ Below w.heap.size w wr) (fun _ i _ => ls.length - (intOf i).toNat)
  case atStart => exact ⟨0, Nat.zero_le _, rfl, ⟨_, _, rfl⟩, World.ownsRow_nil _ _ _ _, ((((Below.refl _ _).alloc (Nat.le_refl _) _).alloc (by simp) _).alloc (by simp; omega) _).alloc (by simp; omega) _⟩
  case round =>
    obtain ⟨k, hk, rfl, ⟨a1, c1, rfl⟩, hov, hbe⟩ := hrel
    by_cases hlt : k < ls.length
    · have hcell : ∀ j, j < 4 → wr.cell? ⟨g, k * 4 + j, none⟩ = (qc ls[k])[j]? := by
        intro j hj
        rw [hbe.cell (p := ⟨g, k * 4 + j, none⟩) hg, ho.cellAt _ (by omega)]
        exact qcells_get ls k hlt j hj
      have d0 : wr.cell? ⟨g, k * 4, none⟩ = some (.int .u8 2) := hcell 0 (by omega)
      have d1 : wr.cell? ⟨g, k * 4 + 1, none⟩ = some (.string ls[k]) := hcell 1 (by omega)
      have d2 : wr.cell? ⟨g, k * 4 + 2, none⟩ = some (.slice none 0 0) := hcell 2 (by omega)
      have d3 : wr.cell? ⟨g, k * 4 + 3, none⟩ = some (.bool false) := hcell 3 (by omega)
      clear hcell
      have hlk : (ls.take k).length = k := by rw [List.length_take]; omega
      go_wp2_with fail
      refine (leaves11_lit ls[k] (.slice a1 k c1) (ls.take k) w.heap.size wr (by omega) (by rw [hlk]; exact hov) hbe.size).mono ?_
      rintro e w2 ⟨v', rfl, ho2, hb2⟩
      rw [← List.take_succ_eq_append_getElem hlt, hlk] at ho2
      obtain ⟨a2, c2, rfl⟩ := ownsRow_form ho2
      clear hlk
      go_wp2
      go_roundw
      case rel =>
        repeat apply Exists.intro
        exact ⟨⟨k + 1, by omega, by go_num, ⟨_, _, rfl⟩, ho2, hbe.trans hb2⟩, rfl⟩
      case measure => simp [intOf]; omega
    · obtain rfl : k = ls.length := by omega
      rw [List.take_of_length_le (Nat.le_refl _)] at hov
      go_wp2
      go_ret2
      exact ⟨_, rfl, hov, hbe⟩

end Go.Proofs.Qxb6618596a
