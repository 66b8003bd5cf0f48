import Derived.Test.Qxb6618596aAnyOf
namespace Go.Proofs.Qxb6618596a
open Go.RowKit

theorem QAny.form {w : World} {base : Nat} {ls : List ByteArray} {q : Value} (h : QAny w base ls q) : ∃ o l a n c, q = .agg #[.int .u8 o, .string l, .slice a n c, .bool false] := by
  rcases h with ⟨_, rfl⟩ | ⟨_, h⟩
  · exact ⟨_, _, _, _, _, rfl⟩
  · exact h.form
theorem QAny.store4 {w : World} {base : Nat} {ls : List ByteArray} {q : Value} (h : QAny w base ls q) {b base' : Nat} (hb : b < base) (hB : base' ≤ base) (o0 o1 o2 o3 : Nat) (v0 v1 v2 v3 : Value) :
    QAny ((((w.setCell ⟨b, o0, none⟩ v0).setCell ⟨b, o1, none⟩ v1).setCell ⟨b, o2, none⟩ v2).setCell ⟨b, o3, none⟩ v3) base' ls q := by
  rcases h with h | ⟨h1, h2⟩
  · exact .inl h
  · exact .inr ⟨h1, h2.store4 hb hB _ _ _ _ _ _ _ _⟩

set_option maxHeartbeats 400000 in
theorem anyOf8 (v : Value) (ls : List ByteArray) (w : World) (h : SOwn w v ls) (hl : ls.length ≤ 262144) :
    Calls Try.prog 8 #[v] w fun e w' => ∃ q, e = .returned q ∧ QAny w' w.heap.size ls q ∧ Below w.heap.size w w' := by
  obtain ⟨ao, c, rfl⟩ := h.slice
  go_enter Try.func8, Try.ntmps8
  go_wp2_with fail
  refine (anyOf18 _ ls _ (World.ownsRow.alloc h _) hl).mono ?_
  rintro e w1 ⟨q, rfl, hq, hb⟩
  have hb1 : Below w.heap.size w w1 := ((Below.refl _ _).alloc (Nat.le_refl _) _).trans (hb.mono (by simp))
  have hr : w1.heap[w.heap.size]? = some (.cells #[.int .u8 0, .string ⟨#[]⟩, .slice none 0 0, .bool false] 27 (0, 0)) := by
    rw [hb.block w.heap.size (by simp)]
    exact heap_alloc_new w _
  have hq' : QAny w1 (w.heap.size + 1) ls q := by simpa using hq
  obtain ⟨o, l, a2, n2, c2, rfl⟩ := hq.form
  have r0 : w1.cell? ⟨w.heap.size, 0, none⟩ = some (.int .u8 0) := by rw [cell_of_row w1 _ 0 _ _ _ hr]; rfl
  have r1 : w1.cell? ⟨w.heap.size, 1, none⟩ = some (.string ⟨#[]⟩) := by rw [cell_of_row w1 _ 1 _ _ _ hr]; rfl
  have r2 : w1.cell? ⟨w.heap.size, 2, none⟩ = some (.slice none 0 0) := by rw [cell_of_row w1 _ 2 _ _ _ hr]; rfl
  have r3 : w1.cell? ⟨w.heap.size, 3, none⟩ = some (.bool false) := by rw [cell_of_row w1 _ 3 _ _ _ hr]; rfl
  have f0 : w1.frozen? ⟨w.heap.size, 0, none⟩ = false := by simp [World.frozen?, hr]
  have f1 : w1.frozen? ⟨w.heap.size, 1, none⟩ = false := by simp [World.frozen?, hr]
  have f2 : w1.frozen? ⟨w.heap.size, 2, none⟩ = false := by simp [World.frozen?, hr]
  have f3 : w1.frozen? ⟨w.heap.size, 3, none⟩ = false := by simp [World.frozen?, hr]
  clear hq
  go_wp2
  refine bodyPost_ret (v := .agg #[.int .u8 o, .string l, .slice a2 n2 c2, .bool false]) (by simp [results, Try.results8, go_sem, r0, r1, r2, r3]) rfl ⟨_, rfl, ?_, ?_⟩
  · exact hq'.store4 (Nat.lt_succ_self _) (Nat.le_succ _) _ _ _ _ _ _ _ _
  · exact below4 hb1 (Nat.le_refl _) _ _ _ _ _ _ _ _

/-! ### mEvalQuery -/
set_option maxHeartbeats 400000 in
theorem eval9_all (t : ByteArray) (w : World) :
    Calls Try.prog 9 #[.agg #[.int .u8 0, .string ⟨#[]⟩, .slice none 0 0, .bool false], .string t] w fun e w' => e = .returned (.bool true) ∧ Below w.heap.size w w' := by
  go_enter Try.func9, Try.ntmps9
  go_wp2
  go_ret
  refine ⟨rfl, ?_⟩
  exact ((Below.refl _ _).alloc (Nat.le_refl _) _).alloc (by simp) _

set_option maxHeartbeats 400000 in
theorem eval9_none (t : ByteArray) (w : World) :
    Calls Try.prog 9 #[.agg #[.int .u8 1, .string ⟨#[]⟩, .slice none 0 0, .bool false], .string t] w fun e w' => e = .returned (.bool false) ∧ Below w.heap.size w w' := by
  go_enter Try.func9, Try.ntmps9
  go_wp2
  go_ret
  refine ⟨rfl, ?_⟩
  exact (((Below.refl _ _).alloc (Nat.le_refl _) _).alloc (by simp) _).alloc (by simp; omega) _

set_option maxHeartbeats 400000 in
theorem eval9_lit (s t : ByteArray) (w : World) (ht : t.size ≤ 4096) :
    Calls Try.prog 9 #[.agg #[.int .u8 2, .string s, .slice none 0 0, .bool false], .string t] w fun e w' => e = .returned (.bool (cf t s)) ∧ Below w.heap.size w w' := by
  go_enter Try.func9, Try.ntmps9
  go_wp2_with (first | (go_at_call 20; refine (cf20 t s _ ht).mono ?_; rintro e w1 ⟨rfl, hb⟩) | go_in)
  go_ret
  refine ⟨rfl, ?_⟩
  have h3 : Below w.heap.size w (((w.alloc (.cells #[.int .u8 2, .string s, .slice none 0 0, .bool false] 27)).alloc (.cells #[.int .u8 2, .string s, .slice none 0 0, .bool false] 27)).alloc (.cells #[.int .u8 2, .string s, .slice none 0 0, .bool false] 27)) :=
    (((Below.refl _ _).alloc (Nat.le_refl _) _).alloc (by simp) _).alloc (by simp; omega) _
  exact h3.trans (hb.mono (by simp; omega))

set_option maxHeartbeats 400000 in
theorem eval9_or (t : ByteArray) (ls : List ByteArray) (a : Option Addr) (c base : Nat) (w : World) (h2 : 2 ≤ ls.length) (hl : ls.length ≤ 262144) (ht : t.size ≤ 4096) (ho : w.ownsRow base 27 4 (.slice a ls.length c) ls.length (qcells ls)) :
    Calls Try.prog 9 #[.agg #[.int .u8 4, .string ⟨#[]⟩, .slice a ls.length c, .bool false], .string t] w fun e w' => e = .returned (.bool (ls.any (cf t))) ∧ Below w.heap.size w w' := by
  obtain ⟨g, rfl, hg⟩ : ∃ g, a = some ⟨g, 0, none⟩ ∧ g < w.heap.size := by
    rcases ho.2 with ⟨hv, h0⟩ | ⟨g, cap', cur, hv, _, hg, _⟩
    · omega
    · simp only [Value.slice.injEq] at hv
      exact ⟨g, hv.1, lt_of_block hg⟩
  go_enter Try.func9, Try.ntmps9
  go_wp2
  go_loopw [8] (fun i wr => ∃ k : Nat, k ≤ ls.length ∧ i = .int .i64 k ∧ Hid ((ls.take k).any (cf t) = false) ∧ Below w.heap.size w wr) (fun i _ => ls.length - (intOf i).toNat)
  case atStart => exact ⟨0, Nat.zero_le _, rfl, rfl, (((Below.refl _ _).alloc (Nat.le_refl _) _).alloc (by simp) _).alloc (by simp; omega) _⟩
  case round =>
    obtain ⟨k, hk, rfl, HM, hbe⟩ := hrel
    by_cases hlt : k < ls.length
    · have hcell : ∀ j, j < 4 → wr.cell? ⟨g, k * 4 + j, none⟩ = (qc ls[k])[j]? := by
        intro j hj
        rw [hbe.cell (p := ⟨g, k * 4 + j, none⟩) hg, ho.cellAt _ (by omega)]
        exact qcells_get ls k hlt j hj
      have d0 : wr.cell? ⟨g, k * 4, none⟩ = some (.int .u8 2) := hcell 0 (by omega)
      have d1 : wr.cell? ⟨g, k * 4 + 1, none⟩ = some (.string ls[k]) := hcell 1 (by omega)
      have d2 : wr.cell? ⟨g, k * 4 + 2, none⟩ = some (.slice none 0 0) := hcell 2 (by omega)
      have d3 : wr.cell? ⟨g, k * 4 + 3, none⟩ = some (.bool false) := hcell 3 (by omega)
      clear hcell
      go_wp2_with fail
      refine (eval9_lit ls[k] t wr ht).mono ?_
      rintro e w2 ⟨rfl, hb2⟩
      by_cases hx : cf t ls[k] = true
      · have HT : Hid (ls.any (cf t) = true) := any_hit hlt hx
        go_wp2
        go_ret
        exact ⟨by rw [HT.out]; rfl, hbe.trans (hb2.mono hbe.size)⟩
      · have hx' : cf t ls[k] = false := by simpa using hx
        have HT : Hid ((ls.take (k + 1)).any (cf t) = false) := any_take_succ hlt HM.out hx'
        clear hx
        go_wp2
        go_roundw
        case rel =>
          repeat apply Exists.intro
          exact ⟨⟨k + 1, by omega, by go_num, HT, hbe.trans (hb2.mono hbe.size)⟩, rfl⟩
        case measure => simp [intOf]; omega
    · have HT : Hid (ls.any (cf t) = false) := by
        have := HM.out
        rw [List.take_of_length_le (by omega)] at this
        exact this
      go_wp2
      go_ret
      exact ⟨by rw [HT.out]; rfl, hbe⟩

theorem eval9 (t : ByteArray) (ls : List ByteArray) (base : Nat) (q : Value) (w : World) (hl : ls.length ≤ 262144) (ht : t.size ≤ 4096) (h : QAny w base ls q) :
    Calls Try.prog 9 #[q, .string t] w fun e w' => e = .returned (.bool (ls.any (cf t))) ∧ Below w.heap.size w w' := by
  rcases h with ⟨⟨s, hs, h0⟩, rfl⟩ | ⟨_, ⟨rfl, rfl⟩ | ⟨s, rfl, rfl⟩ | ⟨a, c, h2, rfl, ho⟩⟩
  · have : ls.any (cf t) = true := by
      rw [List.any_eq_true]
      exact ⟨s, hs, cf_empty t s h0⟩
    rw [this]
    exact eval9_all t w
  · exact eval9_none t w
  · have : [s].any (cf t) = cf t s := by simp
    rw [this]
    exact eval9_lit s t w ht
  · exact eval9_or t ls a c base w h2 hl ht ho

end Go.Proofs.Qxb6618596a
