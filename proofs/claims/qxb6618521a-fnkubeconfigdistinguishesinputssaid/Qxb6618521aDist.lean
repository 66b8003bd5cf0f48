import Derived.Test.Qxb6618521aParts
namespace Go.Proofs.Qxb6618521a
open Go.RowKit

set_option maxHeartbeats 400000 in
theorem law4_same (a b : ByteArray) (w : World) (h : a.size + b.size + a.size + b.size ≤ 1048576) (ha : a.size ≤ 262144) (hb : b.size ≤ 262144) :
    Calls Try.prog 4 #[.string a, .string b, .string a, .string b] w fun e w' => e = .returned (.bool true) ∧ w' = w := by
  go_enter Try.func4, Try.ntmps4
  go_wp2_with fail
  refine (zz8_yes _ _ _ _ _ h).mono ?_
  rintro e w' ⟨rfl, hw⟩; subst w'
  go_wp2_with fail
  refine (kube6 _ _ _ (by omega) (by omega)).mono ?_
  rintro e w' ⟨rfl, hw⟩; subst w'
  go_wp2_with fail
  refine (kube6 _ _ _ (by omega) (by omega)).mono ?_
  rintro e w' ⟨rfl, hw⟩; subst w'
  go_wp2
  go_ret
  exact ⟨rfl, rfl⟩

set_option maxHeartbeats 400000 in
theorem law4_c (a b c d : ByteArray) (w : World) (h : a.size + b.size + c.size + d.size ≤ 1048576) (ha : a.size ≤ 262144) (hb : b.size ≤ 262144) (hc : c.size ≤ 262144) (hd : d.size ≤ 262144) (hs : ((a.size : Int) == (c.size : Int)) = true)
    (hx : (a.toList == c.toList) = false) (hz : ((kube a b).toList == (kube c d).toList) = false) :
    Calls Try.prog 4 #[.string a, .string b, .string c, .string d] w fun e w' => e = .returned (.bool true) ∧ w' = w := by
  go_enter Try.func4, Try.ntmps4
  go_wp2_with fail
  refine (zz8_yes _ _ _ _ _ h).mono ?_
  rintro e w' ⟨rfl, hw⟩; subst w'
  go_wp2_with fail
  refine (kube6 _ _ _ (by omega) (by omega)).mono ?_
  rintro e w' ⟨rfl, hw⟩; subst w'
  go_wp2_with fail
  refine (kube6 _ _ _ (by omega) (by omega)).mono ?_
  rintro e w' ⟨rfl, hw⟩; subst w'
  go_wp2
  go_ret
  exact ⟨rfl, rfl⟩

set_option maxHeartbeats 400000 in
theorem law4_u (a b d : ByteArray) (w : World) (h : a.size + b.size + a.size + d.size ≤ 1048576) (ha : a.size ≤ 262144) (hb : b.size ≤ 262144) (hd : d.size ≤ 262144)
    (hx : (b.toList == d.toList) = false) (hz : ((kube a b).toList == (kube a d).toList) = false) :
    Calls Try.prog 4 #[.string a, .string b, .string a, .string d] w fun e w' => e = .returned (.bool true) ∧ w' = w := by
  go_enter Try.func4, Try.ntmps4
  go_wp2_with fail
  refine (zz8_yes _ _ _ _ _ h).mono ?_
  rintro e w' ⟨rfl, hw⟩; subst w'
  go_wp2_with fail
  refine (kube6 _ _ _ (by omega) (by omega)).mono ?_
  rintro e w' ⟨rfl, hw⟩; subst w'
  go_wp2_with fail
  refine (kube6 _ _ _ (by omega) (by omega)).mono ?_
  rintro e w' ⟨rfl, hw⟩; subst w'
  go_wp2
  go_ret
  exact ⟨rfl, rfl⟩

set_option maxHeartbeats 400000 in
theorem law4_n1 (a b c d : ByteArray) (w : World) (h : a.size + b.size + c.size + d.size ≤ 1048576) (ha : 262144 < a.size) :
    Calls Try.prog 4 #[.string a, .string b, .string c, .string d] w fun e w' => e = .returned (.bool true) ∧ w' = w := by
  go_enter Try.func4, Try.ntmps4
  go_wp2_with fail
  refine (zz8_yes _ _ _ _ _ h).mono ?_
  rintro e w' ⟨rfl, hw⟩; subst w'
  go_wp2_with fail
  go_ret
  exact ⟨rfl, rfl⟩

set_option maxHeartbeats 400000 in
theorem law4_n2 (a b c d : ByteArray) (w : World) (h : a.size + b.size + c.size + d.size ≤ 1048576) (ha : a.size ≤ 262144) (hb : 262144 < b.size) :
    Calls Try.prog 4 #[.string a, .string b, .string c, .string d] w fun e w' => e = .returned (.bool true) ∧ w' = w := by
  go_enter Try.func4, Try.ntmps4
  go_wp2_with fail
  refine (zz8_yes _ _ _ _ _ h).mono ?_
  rintro e w' ⟨rfl, hw⟩; subst w'
  go_wp2_with fail
  go_ret
  exact ⟨rfl, rfl⟩

set_option maxHeartbeats 400000 in
theorem law4_n3 (a b c d : ByteArray) (w : World) (h : a.size + b.size + c.size + d.size ≤ 1048576) (ha : a.size ≤ 262144) (hb : b.size ≤ 262144) (hc : 262144 < c.size) :
    Calls Try.prog 4 #[.string a, .string b, .string c, .string d] w fun e w' => e = .returned (.bool true) ∧ w' = w := by
  go_enter Try.func4, Try.ntmps4
  go_wp2_with fail
  refine (zz8_yes _ _ _ _ _ h).mono ?_
  rintro e w' ⟨rfl, hw⟩; subst w'
  go_wp2_with fail
  go_ret
  exact ⟨rfl, rfl⟩

set_option maxHeartbeats 400000 in
theorem law4_n4 (a b c d : ByteArray) (w : World) (h : a.size + b.size + c.size + d.size ≤ 1048576) (ha : a.size ≤ 262144) (hb : b.size ≤ 262144) (hc : c.size ≤ 262144) (hd : 262144 < d.size) :
    Calls Try.prog 4 #[.string a, .string b, .string c, .string d] w fun e w' => e = .returned (.bool true) ∧ w' = w := by
  go_enter Try.func4, Try.ntmps4
  go_wp2_with fail
  refine (zz8_yes _ _ _ _ _ h).mono ?_
  rintro e w' ⟨rfl, hw⟩; subst w'
  go_wp2_with fail
  go_ret
  exact ⟨rfl, rfl⟩

set_option maxHeartbeats 400000 in
theorem law4_n5 (a b c d : ByteArray) (w : World) (h : a.size + b.size + c.size + d.size ≤ 1048576) (ha : a.size ≤ 262144) (hb : b.size ≤ 262144) (hc : c.size ≤ 262144) (hd : d.size ≤ 262144) (hs : ((a.size : Int) == (c.size : Int)) = false) :
    Calls Try.prog 4 #[.string a, .string b, .string c, .string d] w fun e w' => e = .returned (.bool true) ∧ w' = w := by
  go_enter Try.func4, Try.ntmps4
  go_wp2_with fail
  refine (zz8_yes _ _ _ _ _ h).mono ?_
  rintro e w' ⟨rfl, hw⟩; subst w'
  go_wp2_with fail
  go_ret
  exact ⟨rfl, rfl⟩

set_option maxHeartbeats 400000 in
theorem law4_n0 (a b c d : ByteArray) (w : World) (h : ¬ a.size + b.size + c.size + d.size ≤ 1048576) (ha : a.size ≤ maxLen) (hb : b.size ≤ maxLen) (hc : c.size ≤ maxLen) (hd : d.size ≤ maxLen) :
    Calls Try.prog 4 #[.string a, .string b, .string c, .string d] w fun e w' => e = .returned (.bool true) ∧ w' = w := by
  go_enter Try.func4, Try.ntmps4
  go_wp2_with fail
  refine (zz8_no _ _ _ _ _ h ha hb hc hd).mono ?_
  rintro e w' ⟨rfl, hw⟩; subst w'
  go_wp2_with fail
  go_ret
  exact ⟨rfl, rfl⟩

theorem beq_f {a b : ByteArray} (h : a ≠ b) : (a.toList == b.toList) = false := by
  cases hb : (a.toList == b.toList) with
  | false => rfl
  | true =>
    exfalso
    apply h
    have := eq_of_beq hb
    rw [ByteArray.toList_eq, ByteArray.toList_eq] at this
    exact ext' this

theorem law4 (a b c d : ByteArray) (w : World) (ha : a.size ≤ maxLen) (hb : b.size ≤ maxLen) (hc : c.size ≤ maxLen) (hd : d.size ≤ maxLen) :
    Calls Try.prog 4 #[.string a, .string b, .string c, .string d] w fun e w' => e = .returned (.bool true) ∧ w' = w := by
  by_cases h : a.size + b.size + c.size + d.size ≤ 1048576
  · by_cases h1 : a.size ≤ 262144
    · by_cases h2 : b.size ≤ 262144
      · by_cases h3 : c.size ≤ 262144
        · by_cases h4 : d.size ≤ 262144
          · by_cases h5 : a.size = c.size
            · by_cases h6 : a = c
              · subst h6
                by_cases h7 : b = d
                · subst h7
                  exact law4_same a b w h h1 h2
                · exact law4_u a b d w h h1 h2 h4 (beq_f h7) (beq_f (fun e => h7 (kube_inj h5 (by rw [e])).2))
              · exact law4_c a b c d w h h1 h2 h3 h4 (by rw [h5]; simp) (beq_f h6) (beq_f (fun e => h6 (kube_inj h5 (by rw [e])).1))
            · exact law4_n5 a b c d w h h1 h2 h3 h4 (by simp; omega)
          · exact law4_n4 a b c d w h h1 h2 h3 (by omega)
        · exact law4_n3 a b c d w h h1 h2 (by omega)
      · exact law4_n2 a b c d w h h1 (by omega)
    · exact law4_n1 a b c d w h (by omega)
  · exact law4_n0 a b c d w h ha hb hc hd

end Go.Proofs.Qxb6618521a
