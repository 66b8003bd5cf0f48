import Derived.Test.Qxb6618519aMore
namespace Go.Proofs.Qxb6618519a
open Go.RowKit
open Go.Lib (strCells strCells_length)

theorem strCells_get (s : ByteArray) (j : Nat) (hj : j < s.data.toList.length) : (strCells s)[j]? = some (.int .u8 (s.data.toList[j].toNat : Int)) := by
  simp [strCells, List.getElem?_eq_getElem hj]

/-- 'string(b)' of a row of the call's own. -/
theorem conv_own {w : World} {base : Nat} {v : Value} {n : Nat} {s : ByteArray} (h : w.ownsRow base 5 1 v n (strCells s)) : (convert 22 9 v).run Try.prog w = .ok (.string s) w := by
  have hn : n = s.data.toList.length := by have := h.1; rw [strCells_length, size_eq] at this; omega
  rcases h.2 with ⟨rfl, h0⟩ | ⟨g, cap, cur, rfl, hb, hg, hnc, hcm, hcs, htake⟩
  · rw [run_convert_bytes_string w 22 9 5 none 0 0 Try.underlying22 Try.underlying5 Try.underlying9]
    have : s = ByteArray.empty := by
      apply ByteArray.ext
      apply Array.ext'
      rw [h0] at hn
      rw [List.eq_nil_of_length_eq_zero hn.symm]
      rfl
    rw [this]
    simp [Conv.bytesToString]
  · rw [hn]
    refine run_convert_bytes_back w 22 9 5 ⟨g, 0, none⟩ cap s.data.toList Try.underlying22 Try.underlying5 Try.underlying9 (fun j hj => ?_)
    exact h.cells (g := g) rfl j _ (strCells_get s j hj)

theorem ownsRow_drewN {w : World} {base : Nat} {e : TypeId} {size : Nat} {v : Value} {n : Nat} {xs : List Value} (h : w.ownsRow base e size v n xs) (k : Nat) : (w.drewN k).ownsRow base e size v n xs := h

theorem ownsRow_below {B : Nat} {w w' : World} {base : Nat} {e : TypeId} {size : Nat} {v : Value} {n : Nat} {xs : List Value} (h : w.ownsRow base e size v n xs) (hb : Below B w w') (hB : w.heap.size ≤ B) : w'.ownsRow base e size v n xs := by
  refine ⟨h.1, ?_⟩
  rcases h.2 with h2 | ⟨g, cap, cur, hv, hg, hh, r⟩
  · exact .inl h2
  · refine .inr ⟨g, cap, cur, hv, hg, ?_, r⟩
    rw [hb.block g (Nat.lt_of_lt_of_le (lt_of_block hh) hB)]
    exact hh
theorem ownsRow_slice {w : World} {base : Nat} {e : TypeId} {size : Nat} {v : Value} {n : Nat} {xs : List Value} (h : w.ownsRow base e size v n xs) : ∃ a l c, v = .slice a l c := by
  rcases h.2 with ⟨hv, _⟩ | ⟨g, cap', _, hv, _⟩
  · exact ⟨_, _, _, hv⟩
  · exact ⟨_, _, _, hv⟩

theorem wantB_again (s : ByteArray) : wantB (wantB s) = wantB s := by
  by_cases h : opens s.data.toList = true
  · rw [wantB_yes h]
    apply wantB_no
    simp [ByteArray.data_append, blank, opens]
  · have e := wantB_no (s := s) (by simpa using h)
    rw [e, e]
theorem opens_append {a : ByteArray} (b : ByteArray) (h : 0 < a.size) : opens (a ++ b).data.toList = opens a.data.toList := by
  rw [ByteArray.data_append, Array.toList_append]
  rw [size_eq] at h
  cases hl : a.data.toList with
  | nil => rw [hl] at h; simp at h
  | cons c t => rfl
theorem wantB_append {a : ByteArray} (b : ByteArray) (h : 0 < a.size) : wantB (a ++ b) = wantB a ++ b := by
  have e := opens_append b h
  by_cases ho : opens a.data.toList = true
  · rw [wantB_yes (by rw [e]; exact ho), wantB_yes ho, ByteArray.append_assoc]
  · rw [wantB_no (by rw [e]; simpa using ho), wantB_no (by simpa using ho)]
theorem wantB_size (s : ByteArray) : (wantB s).size ≤ s.size + 1 := by
  by_cases h : opens s.data.toList = true
  · rw [wantB_yes h, ByteArray.size_append, size_blank]; omega
  · rw [wantB_no (by simpa using h)]; omega
theorem Below.drewN' {B : Nat} {a w : World} (h : Below B a w) (n : Nat) : Below B a (w.drewN n) := ⟨h.os, h.tape, h.output, h.size, h.block⟩

set_option maxHeartbeats 1000000 in
theorem law4_yes (a b : ByteArray) (w : World) (h0 : 0 < a.size) (ha : a.size ≤ 524287) (hb : b.size ≤ 524288) :
    Calls Try.prog 4 #[.string a, .string b] w fun e w' => e = .returned (.bool true) ∧ Below w.heap.size w w' := by
  have hne : a.toList.isEmpty = false := by
    rw [ByteArray.toList_eq]
    rw [size_eq] at h0
    cases hl : a.data.toList with
    | nil => rw [hl] at h0; simp at h0
    | cons c t => rfl
  go_enter Try.func4, Try.ntmps4
  go_wp2_with (go_at_call 14; refine (zz14_yes _ _ _ (by omega)).mono ?_; rintro e w' ⟨rfl, hw⟩; subst w')
  refine (new9 w w.heap.size 0 none 0 0 [] 0 0 0 0 (Nat.le_refl _) (World.ownsRow_nil _ _ _ _)).mono ?_
  rintro e w1 ⟨rfl, p1, l1⟩
  go_wp2_with fail
  refine (spaced10 w1 w.heap.size w.heap.size 0 _ [] 0 0 0 0 (a ++ b) p1 (by omega) (by rw [ByteArray.size_append]; omega) (by rw [ByteArray.size_append]; simp; omega)).mono ?_
  rintro e w2 ⟨rfl, v2, p2, l2⟩
  rw [wantB_append b h0, List.nil_append, Int.zero_add] at p2
  obtain ⟨a2, n2, k2, rfl⟩ := ownsRow_slice p2.own
  go_wp2_with fail
  refine (fields11 w2 _ _ 0 _ _ 0 _ 0 0 p2).mono ?_
  rintro e w3 ⟨rfl, l3⟩
  have o3 := ownsRow_below p2.own l3 (Nat.le_refl _)
  have s03 : w.heap.size ≤ w3.heap.size := Nat.le_trans (l1.trans l2).size l3.size
  go_wp2_with fail
  refine (new9 w3 w3.heap.size 0 none 0 0 [] 0 0 0 0 (Nat.le_refl _) (World.ownsRow_nil _ _ _ _)).mono ?_
  rintro e w4 ⟨rfl, p4, l4⟩
  go_wp2_with fail
  refine (spaced10 w4 w3.heap.size w3.heap.size 0 _ [] 0 0 0 0 a p4 (by omega) (by omega) (by simp; omega)).mono ?_
  rintro e w5 ⟨rfl, v5, p5, l5⟩
  rw [List.nil_append, Int.zero_add] at p5
  obtain ⟨a5, n5, k5, rfl⟩ := ownsRow_slice p5.own
  go_wp2_with fail
  refine (fields11 w5 _ _ 0 _ _ 0 _ 0 0 p5).mono ?_
  rintro e w6 ⟨rfl, l6⟩
  have o6 := ownsRow_below p5.own l6 (Nat.le_refl _)
  have o36 := ownsRow_below o3 ((l4.trans l5).trans (l6.mono (l4.trans l5).size)) (Nat.le_refl _)
  have s06 : w.heap.size ≤ w6.heap.size := Nat.le_trans s03 (Nat.le_trans (l4.trans l5).size l6.size)
  go_wp2_with fail
  refine (new9 w6 w6.heap.size 0 none 0 0 [] 0 0 0 0 (Nat.le_refl _) (World.ownsRow_nil _ _ _ _)).mono ?_
  rintro e w7 ⟨rfl, p7, l7⟩
  have o7 := ownsRow_below o6 l7 (Nat.le_refl _)
  have hc7 := conv_own o7
  have ws := wantB_size a
  go_wp2_with fail
  refine (spaced10 w7 w6.heap.size w6.heap.size 0 _ [] 0 0 0 0 (wantB a) p7 (by omega) (by omega) (by simp; omega)).mono ?_
  rintro e w8 ⟨rfl, v8, p8, l8⟩
  rw [List.nil_append, Int.zero_add, wantB_again] at p8
  obtain ⟨a8, n8, k8, rfl⟩ := ownsRow_slice p8.own
  go_wp2_with fail
  refine (fields11 w8 _ _ 0 _ _ 0 _ 0 0 p8).mono ?_
  rintro e w9 ⟨rfl, l9⟩
  have o9 := ownsRow_below p8.own l9 (Nat.le_refl _)
  have o69 := ownsRow_below o6 ((l7.trans l8).trans (l9.mono (l7.trans l8).size)) (Nat.le_refl _)
  have o39 := ownsRow_below o36 ((l7.trans l8).trans (l9.mono (l7.trans l8).size)) (Nat.le_refl _)
  have c9 := conv_own o9
  have c69 := conv_own o69
  have c39 := conv_own o39
  go_wp2_with fail
  refine (want12 a w9 (by omega)).mono ?_
  rintro e w' ⟨rfl, hw⟩
  subst w'
  go_wp2
  go_ret
  refine ⟨rfl, ?_⟩
  exact ((l1.trans l2).trans (l3.mono (l1.trans l2).size)).trans ((((l4.trans l5).mono s03).trans (l6.mono (Nat.le_trans s03 (l4.trans l5).size))).trans (((l7.trans l8).mono s06).trans (l9.mono (Nat.le_trans s06 (l7.trans l8).size))))

set_option maxHeartbeats 400000 in
theorem law4_no1 (a b : ByteArray) (w : World) (h : ¬ a.size + b.size ≤ 1048576) (ha : a.size ≤ maxLen) (hb : b.size ≤ maxLen) :
    Calls Try.prog 4 #[.string a, .string b] w fun e w' => e = .returned (.bool true) ∧ Below w.heap.size w w' := by
  go_enter Try.func4, Try.ntmps4
  go_wp2_with (go_at_call 14; refine (zz14_no _ _ _ h ha hb).mono ?_; rintro e w' ⟨rfl, hw⟩; subst w')
  go_ret
  exact ⟨rfl, Below.refl _ _⟩

set_option maxHeartbeats 400000 in
theorem law4_no2 (a b : ByteArray) (w : World) (h : a.size + b.size ≤ 1048576) (h2 : 524287 < a.size) :
    Calls Try.prog 4 #[.string a, .string b] w fun e w' => e = .returned (.bool true) ∧ Below w.heap.size w w' := by
  go_enter Try.func4, Try.ntmps4
  go_wp2_with (go_at_call 14; refine (zz14_yes _ _ _ h).mono ?_; rintro e w' ⟨rfl, hw⟩; subst w')
  go_ret
  exact ⟨rfl, Below.refl _ _⟩

set_option maxHeartbeats 400000 in
theorem law4_no3 (a b : ByteArray) (w : World) (h : a.size + b.size ≤ 1048576) (h1 : a.size ≤ 524287) (h2 : 524288 < b.size) :
    Calls Try.prog 4 #[.string a, .string b] w fun e w' => e = .returned (.bool true) ∧ Below w.heap.size w w' := by
  go_enter Try.func4, Try.ntmps4
  go_wp2_with (go_at_call 14; refine (zz14_yes _ _ _ h).mono ?_; rintro e w' ⟨rfl, hw⟩; subst w')
  go_ret
  exact ⟨rfl, Below.refl _ _⟩

set_option maxHeartbeats 400000 in
theorem law4_no4 (a b : ByteArray) (w : World) (h0 : ¬ 0 < a.size) (h2 : b.size ≤ 524288) :
    Calls Try.prog 4 #[.string a, .string b] w fun e w' => e = .returned (.bool true) ∧ Below w.heap.size w w' := by
  have hne : a.toList.isEmpty = true := by
    rw [ByteArray.toList_eq]
    rw [size_eq] at h0
    cases hl : a.data.toList with
    | nil => rfl
    | cons c t => rw [hl] at h0; simp at h0
  go_enter Try.func4, Try.ntmps4
  go_wp2_with (go_at_call 14; refine (zz14_yes _ _ _ (by omega)).mono ?_; rintro e w' ⟨rfl, hw⟩; subst w')
  go_ret
  exact ⟨rfl, Below.refl _ _⟩

theorem law4 (a b : ByteArray) (ha : a.size ≤ maxLen) (hb : b.size ≤ maxLen) (w : World) :
    Calls Try.prog 4 #[.string a, .string b] w fun e w' => e = .returned (.bool true) ∧ Below w.heap.size w w' := by
  by_cases h : a.size + b.size ≤ 1048576
  · by_cases h1 : a.size ≤ 524287
    · by_cases h2 : b.size ≤ 524288
      · by_cases h0 : 0 < a.size
        · exact law4_yes a b w h0 h1 h2
        · exact law4_no4 a b w h0 h2
      · exact law4_no3 a b w h h1 (by omega)
    · exact law4_no2 a b w h (by omega)
  · exact law4_no1 a b w h ha hb

end Go.Proofs.Qxb6618519a
