import Derived.Test.Qxb6618519aAppends
namespace Go.Proofs.Qxb6618519a
open Go.RowKit
open Go.Lib (strCells strCells_length)

set_option maxHeartbeats 1000000 in
theorem law3_yes (f : Int) (a : Option Addr) (len cap : Nat) (z : List Int) (mk by_ st dp : Int) (s : ByteArray) (w : World) (hr : IsRow .u8 w a len cap z)
    (hl : len ≤ 524288) (hs : s.size ≤ 524288) (hb0 : 0 ≤ by_) (hb1 : by_ ≤ 1048575 - s.size) :
    Calls Try.prog 3 #[.int .u8 f, .slice a len cap, .int .i64 mk, .int .i64 by_, .int .i64 st, .int .i64 dp, .string s] w fun e w' => e = .returned (.bool true) ∧ Below w.heap.size w w' := by
  have hzl : (z.take len).length ≤ 524288 := by rw [List.length_take]; omega
  go_enter Try.func3, Try.ntmps3
  go_wp2_with (go_at_call 7; refine (zz7_yes _ _ _ _ _ _ _ _ _ _ (by omega)).mono ?_; rintro e w' ⟨rfl, hw⟩; subst w')
  refine (copy8 w a len cap z hr (by omega)).mono ?_
  rintro e w1 ⟨v1, rfl, o1, l1⟩
  clear hr
  generalize z.take len = zs at o1 hzl
  obtain ⟨a1, n1, k1, rfl⟩ := ownsRow_slice o1
  go_wp2_with fail
  refine (copy8_own o1 (by omega)).mono ?_
  rintro e w2 ⟨v2, rfl, o2, l2⟩
  obtain ⟨a2, n2, k2, rfl⟩ := ownsRow_slice o2
  have hu : (u8s zs).length = zs.length := by simp [u8s]
  have HU : Hid ((u8s zs).length = zs.length) := hu
  clear hu
  have o12 := ownsRow_below o1 l2 (Nat.le_refl _)
  go_wp2_with fail
  refine (new9 w2 w1.heap.size f a2 n2 k2 (u8s zs) mk by_ st dp l2.size (by rw [HU.out]; exact o2)).mono ?_
  rintro e w3 ⟨rfl, p3, l3⟩
  go_wp2_with fail
  refine (spaced10 w3 w1.heap.size w2.heap.size f _ (u8s zs) mk by_ st dp s p3 hb0 (by omega) (by rw [HU.out]; omega)).mono ?_
  rintro e w4 ⟨rfl, v4, p4, l4⟩
  obtain ⟨a4, n4, k4, rfl⟩ := ownsRow_slice p4.own
  go_wp2_with fail
  refine (fields11 w4 _ _ f _ _ mk _ st dp p4).mono ?_
  rintro e w5 ⟨rfl, l5⟩
  have o5 := ownsRow_below p4.own l5 (Nat.le_refl _)
  have l15 : Below w1.heap.size w1 w5 := ((l2.trans (l3.mono l2.size)).trans l4).trans (l5.mono ((l2.trans (l3.mono l2.size)).trans l4).size)
  have o15 := ownsRow_below o1 l15 (Nat.le_refl _)
  have l05 : Below w.heap.size w w5 := l1.trans (l15.mono l1.size)
  go_wp2_with fail
  refine (new9 w5 w5.heap.size f none 0 0 [] 0 0 0 0 (Nat.le_refl _) (World.ownsRow_nil _ _ _ _)).mono ?_
  rintro e w6 ⟨rfl, p6, l6⟩
  go_wp2_with fail
  refine (spaced10 w6 w5.heap.size w5.heap.size f _ [] 0 0 0 0 s p6 (by omega) (by omega) (by simp; omega)).mono ?_
  rintro e w7 ⟨rfl, v7, p7, l7⟩
  rw [List.nil_append, Int.zero_add] at p7
  obtain ⟨a7, n7, k7, rfl⟩ := ownsRow_slice p7.own
  go_wp2_with fail
  refine (fields11 w7 _ _ f _ _ 0 _ 0 0 p7).mono ?_
  rintro e w8 ⟨rfl, l8⟩
  have o78 := ownsRow_below p7.own l8 (Nat.le_refl _)
  have l58 : Below w5.heap.size w5 w8 := (l6.trans l7).trans (l8.mono (l6.trans l7).size)
  have o18 := ownsRow_below o15 l58 (Nat.le_refl _)
  have o58 := ownsRow_below o5 l58 (Nat.le_refl _)
  have c8 := conv_own o78
  have ws := wantB_size s
  go_wp2_with fail
  refine (want12 s w8 (by omega)).mono ?_
  rintro e w' ⟨rfl, hw⟩
  subst w'
  go_wp2_with fail
  refine (join13 o58 o18 (by omega) (by omega)).mono ?_
  rintro e w9 ⟨rfl, l9⟩
  go_wp2
  go_ret
  refine ⟨rfl, ?_⟩
  have l08 := l05.trans (l58.mono l05.size)
  exact l08.trans (l9.mono l08.size)

set_option maxHeartbeats 400000 in
theorem law3_no1 (f : Int) (a : Option Addr) (len cap : Nat) (mk by_ st dp : Int) (s : ByteArray) (w : World) (h : ¬ len + s.size ≤ 1048576) (ha : len ≤ maxLen) (hb : s.size ≤ maxLen) :
    Calls Try.prog 3 #[.int .u8 f, .slice a len cap, .int .i64 mk, .int .i64 by_, .int .i64 st, .int .i64 dp, .string s] w fun e w' => e = .returned (.bool true) ∧ Below w.heap.size w w' := by
  go_enter Try.func3, Try.ntmps3
  go_wp2_with (go_at_call 7; refine (zz7_no _ _ _ _ _ _ _ _ _ _ h ha hb).mono ?_; rintro e w' ⟨rfl, hw⟩; subst w')
  go_ret
  exact ⟨rfl, Below.refl _ _⟩

set_option maxHeartbeats 400000 in
theorem law3_no2 (f : Int) (a : Option Addr) (len cap : Nat) (mk by_ st dp : Int) (s : ByteArray) (w : World) (h : len + s.size ≤ 1048576) (h2 : 524288 < len) :
    Calls Try.prog 3 #[.int .u8 f, .slice a len cap, .int .i64 mk, .int .i64 by_, .int .i64 st, .int .i64 dp, .string s] w fun e w' => e = .returned (.bool true) ∧ Below w.heap.size w w' := by
  go_enter Try.func3, Try.ntmps3
  go_wp2_with (go_at_call 7; refine (zz7_yes _ _ _ _ _ _ _ _ _ _ h).mono ?_; rintro e w' ⟨rfl, hw⟩; subst w')
  go_ret
  exact ⟨rfl, Below.refl _ _⟩

set_option maxHeartbeats 400000 in
theorem law3_no3 (f : Int) (a : Option Addr) (len cap : Nat) (mk by_ st dp : Int) (s : ByteArray) (w : World) (h : len + s.size ≤ 1048576) (h1 : len ≤ 524288) (h2 : 524288 < s.size) :
    Calls Try.prog 3 #[.int .u8 f, .slice a len cap, .int .i64 mk, .int .i64 by_, .int .i64 st, .int .i64 dp, .string s] w fun e w' => e = .returned (.bool true) ∧ Below w.heap.size w w' := by
  go_enter Try.func3, Try.ntmps3
  go_wp2_with (go_at_call 7; refine (zz7_yes _ _ _ _ _ _ _ _ _ _ h).mono ?_; rintro e w' ⟨rfl, hw⟩; subst w')
  go_ret
  exact ⟨rfl, Below.refl _ _⟩

set_option maxHeartbeats 400000 in
theorem law3_no4 (f : Int) (a : Option Addr) (len cap : Nat) (mk by_ st dp : Int) (s : ByteArray) (w : World) (h1 : len ≤ 524288) (h2 : s.size ≤ 524288) (h3 : by_ < 0) :
    Calls Try.prog 3 #[.int .u8 f, .slice a len cap, .int .i64 mk, .int .i64 by_, .int .i64 st, .int .i64 dp, .string s] w fun e w' => e = .returned (.bool true) ∧ Below w.heap.size w w' := by
  go_enter Try.func3, Try.ntmps3
  go_wp2_with (go_at_call 7; refine (zz7_yes _ _ _ _ _ _ _ _ _ _ (by omega)).mono ?_; rintro e w' ⟨rfl, hw⟩; subst w')
  go_ret
  exact ⟨rfl, Below.refl _ _⟩

set_option maxHeartbeats 400000 in
theorem law3_no5 (f : Int) (a : Option Addr) (len cap : Nat) (mk by_ st dp : Int) (s : ByteArray) (w : World) (h1 : len ≤ 524288) (h2 : s.size ≤ 524288) (h3 : 0 ≤ by_) (h4 : 1048575 - (s.size : Int) < by_) :
    Calls Try.prog 3 #[.int .u8 f, .slice a len cap, .int .i64 mk, .int .i64 by_, .int .i64 st, .int .i64 dp, .string s] w fun e w' => e = .returned (.bool true) ∧ Below w.heap.size w w' := by
  go_enter Try.func3, Try.ntmps3
  go_wp2_with (go_at_call 7; refine (zz7_yes _ _ _ _ _ _ _ _ _ _ (by omega)).mono ?_; rintro e w' ⟨rfl, hw⟩; subst w')
  go_ret
  exact ⟨rfl, Below.refl _ _⟩

theorem law3 (f : Int) (a : Option Addr) (len cap : Nat) (z : List Int) (mk by_ st dp : Int) (s : ByteArray) (w : World) (hr : IsRow .u8 w a len cap z) (hb : s.size ≤ maxLen) :
    Calls Try.prog 3 #[.int .u8 f, .slice a len cap, .int .i64 mk, .int .i64 by_, .int .i64 st, .int .i64 dp, .string s] w fun e w' => e = .returned (.bool true) ∧ Below w.heap.size w w' := by
  have ha : len ≤ maxLen := by
    rcases hr with ⟨rfl, rfl, rfl, rfl⟩ | ⟨x, rfl, h1, h2, _⟩
    · exact Nat.zero_le _
    · omega
  by_cases h : len + s.size ≤ 1048576
  · by_cases h1 : len ≤ 524288
    · by_cases h2 : s.size ≤ 524288
      · by_cases h3 : 0 ≤ by_
        · by_cases h4 : by_ ≤ 1048575 - s.size
          · exact law3_yes f a len cap z mk by_ st dp s w hr h1 h2 h3 h4
          · exact law3_no5 f a len cap mk by_ st dp s w h1 h2 h3 (by omega)
        · exact law3_no4 f a len cap mk by_ st dp s w h1 h2 (by omega)
      · exact law3_no3 f a len cap mk by_ st dp s w h h1 (by omega)
    · exact law3_no2 f a len cap mk by_ st dp s w h (by omega)
  · exact law3_no1 f a len cap mk by_ st dp s w h ha hb

end Go.Proofs.Qxb6618519a
