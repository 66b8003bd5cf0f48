import Derived.Test.Qxb6618521aParts
namespace Go.Proofs.Qxb6618521a
open Go.RowKit

set_option maxHeartbeats 400000 in
theorem prefix7 (s t : ByteArray) (w : World) (k0 : Nat) (h1 : k0 < s.size) (h2 : s.size ≤ t.size) (ht : t.size ≤ 1048576)
    (he : ∀ j (h : j < k0), s[j]'(by omega) = t[j]'(by omega)) (hn : s[k0] ≠ t[k0]'(by omega)) :
    Calls Try.prog 7 #[.string s, .string t] w fun e w' => e = .returned (.int .i64 k0) ∧ Grown w w' := by
  go_enter Try.func7, Try.ntmps7
  go_wp2
  go_loopw [6] (fun i wr => ∃ k q : Nat, k ≤ k0 ∧ i = .int .i64 k ∧ wr = w.drewN q) (fun i _ => k0 + 1 - (intOf i).toNat)
  case atStart => exact ⟨0, 0, Nat.zero_le _, rfl, rfl⟩
  case round =>
    obtain ⟨k, q, hk, rfl, rfl⟩ := hrel
    have b1 : (k : Int) < (s.size : Int) := by omega
    have b2 : (k : Int) < (t.size : Int) := by omega
    have b3 : k < s.size := by omega
    have b4 : k < t.size := by omega
    by_cases hlt : k < k0
    · have hq : ((s[k].toNat : Int) == (t[k].toNat : Int)) = true := by rw [he k hlt]; simp
      go_wp2
      go_quiet (fail)
      go_wp2
      go_roundw
      case rel => exact ⟨k + 1, _, by omega, by go_num, rfl⟩
      case measure => simp [intOf]; omega
    · obtain rfl : k = k0 := by omega
      have hq : ((s[k].toNat : Int) == (t[k].toNat : Int)) = false := by
        cases hb : ((s[k].toNat : Int) == (t[k].toNat : Int)) with
        | false => rfl
        | true =>
          exfalso
          apply hn
          have := eq_of_beq hb
          exact UInt8.toNat_inj.1 (by omega)
      go_wp2
      go_quiet (fail)
      go_wp2
      go_ret
      exact ⟨rfl, Grown.refl w⟩

def empty : ByteArray := ⟨#[]⟩
def nul : ByteArray := ⟨#[0]⟩

theorem pre_lit : ∀ j (h : j < 58), (kube empty empty)[j]'(by rw [kube_size]; omega) = (kube nul empty)[j]'(by rw [kube_size]; omega) := by
  decide +kernel
theorem pre_ne : (kube empty empty)[58]'(by rw [kube_size]; omega) ≠ (kube nul empty)[58]'(by rw [kube_size]; omega) := by
  decide +kernel

theorem ext_list (b : ByteArray) (s e : Nat) : (b.extract s e).data.toList = (b.data.toList.drop s).take (e - s) := by
  rw [ByteArray.data_extract, Array.toList_extract]
theorem ext_mid (a b c : ByteArray) (s e : Nat) (hs : s = a.size) (he : e = a.size + b.size) : ((a ++ b) ++ c).extract s e = b := by
  apply ext'
  rw [ext_list, ByteArray.data_append, ByteArray.data_append, Array.toList_append, Array.toList_append]
  have e1 : s = a.data.toList.length := by rw [hs, size_eq]
  have e2 : e - s = b.data.toList.length := by rw [he, hs, ← size_eq]; omega
  rw [e2, e1, List.append_assoc, List.drop_left, List.take_left]
theorem fst_take (c : ByteArray) : (kube c empty).extract 0 (58 + c.size) = fA ++ c := by
  have e : kube c empty = ((⟨#[]⟩ : ByteArray) ++ (fA ++ c)) ++ (fB ++ empty ++ fC ++ fD) := by
    rw [show (⟨#[]⟩ : ByteArray) = ByteArray.empty from rfl, ByteArray.empty_append]
    simp only [kube, ByteArray.append_assoc]
  rw [e]
  exact ext_mid _ _ _ 0 _ rfl (by rw [ByteArray.size_append, sA]; show _ = 0 + _; omega)
theorem snd_drop (u : ByteArray) : (kube empty u).extract 58 (161 + u.size) = fB ++ u ++ fC ++ fD := by
  have e : kube empty u = (fA ++ (fB ++ u ++ fC ++ fD)) ++ ByteArray.empty := by
    rw [ByteArray.append_empty]
    simp only [kube, ByteArray.append_assoc]
    rw [show empty = ByteArray.empty from rfl, ByteArray.empty_append]
  rw [e]
  exact ext_mid _ _ _ 58 _ rfl (by simp only [ByteArray.size_append, sA, sB, sC, sD]; omega)
theorem mid (c u : ByteArray) : (kube c u).extract 58 (58 + c.size) = c := by
  have e : kube c u = (fA ++ c) ++ (fB ++ u ++ fC ++ fD) := by simp only [kube, ByteArray.append_assoc]
  rw [e]
  exact ext_mid _ _ _ 58 _ rfl (by rw [sA])
theorem whole (c u : ByteArray) : kube c u = (fA ++ c) ++ (fB ++ u ++ fC ++ fD) := by
  simp only [kube, ByteArray.append_assoc]

/-- A text whose size is known, and what it is (hidden from the walk). -/
theorem kube6' (c u : ByteArray) (n : Nat) (w : World) (hc : c.size ≤ 524288) (hu : u.size ≤ 524288) (hn : n = 161 + c.size + u.size) :
    Calls Try.prog 6 #[.string c, .string u] w fun e w' => ∃ s : ByteArray, e = .returned (.string s) ∧ s.size = n ∧ Hid (s = kube c u) ∧ w' = w :=
  (kube6 c u w (by omega) (by omega)).mono fun e w' ⟨he, hw⟩ => ⟨kube c u, he, by rw [kube_size, hn], rfl, hw⟩
theorem k_ee (w : World) : Calls Try.prog 6 #[.string ⟨#[]⟩, .string ⟨#[]⟩] w fun e w' => ∃ s : ByteArray, e = .returned (.string s) ∧ s.size = 161 ∧ Hid (s = kube empty empty) ∧ w' = w := kube6' empty empty 161 w (by decide) (by decide) (by decide)
theorem k_ne (w : World) : Calls Try.prog 6 #[.string ⟨#[0]⟩, .string ⟨#[]⟩] w fun e w' => ∃ s : ByteArray, e = .returned (.string s) ∧ s.size = 162 ∧ Hid (s = kube nul empty) ∧ w' = w := kube6' nul empty 162 w (by decide) (by decide) (by decide)
theorem k_ce (c : ByteArray) (w : World) (hc : c.size ≤ 524288) : Calls Try.prog 6 #[.string c, .string ⟨#[]⟩] w fun e w' => ∃ s : ByteArray, e = .returned (.string s) ∧ s.size = 161 + c.size ∧ Hid (s = kube c empty) ∧ w' = w := kube6' c empty _ w hc (by decide) rfl
theorem k_eu (u : ByteArray) (w : World) (hc : u.size ≤ 524288) : Calls Try.prog 6 #[.string ⟨#[]⟩, .string u] w fun e w' => ∃ s : ByteArray, e = .returned (.string s) ∧ s.size = 161 + u.size ∧ Hid (s = kube empty u) ∧ w' = w := kube6' empty u _ w (by decide) hc (by show _ = 161 + 0 + _; omega)

theorem prefix7' {E N : ByteArray} (HE : Hid (E = kube empty empty)) (HN : Hid (N = kube nul empty)) (w : World) :
    Calls Try.prog 7 #[.string E, .string N] w fun e w' => e = .returned (.int .i64 58) ∧ Grown w w' := by
  have h1 := HE.out
  have h2 := HN.out
  subst h1 h2
  exact prefix7 (kube empty empty) (kube nul empty) w 58 (by rw [kube_size]; omega) (by rw [kube_size, kube_size]; decide) (by rw [kube_size]; decide) pre_lit pre_ne

set_option maxHeartbeats 1000000 in
theorem law3_yes (c u : ByteArray) (w : World) (hc : c.size ≤ 524288) (hu : u.size ≤ 524288) :
    Calls Try.prog 3 #[.string c, .string u] w fun e w' => e = .returned (.bool true) ∧ Grown w w' := by
  go_enter Try.func3, Try.ntmps3
  go_wp2_with fail
  refine (zz5_yes _ _ _ (by omega)).mono ?_
  rintro e w' ⟨rfl, hw⟩; subst w'
  go_wp2_with fail
  refine (k_ee _).mono ?_
  rintro e w' ⟨E, rfl, sE, HE, hw⟩; subst w'
  go_wp2_with fail
  refine (k_ne _).mono ?_
  rintro e w' ⟨N, rfl, sN, HN, hw⟩; subst w'
  go_wp2_with fail
  refine (prefix7' HE HN w).mono ?_
  rintro e w1 ⟨rfl, g1⟩
  go_wp2_with fail
  refine (k_ce c _ hc).mono ?_
  rintro e w' ⟨X, rfl, sX, HX, hw⟩; subst w'
  go_wp2_with fail
  refine (k_eu u _ hu).mono ?_
  rintro e w' ⟨Y, rfl, sY, HY, hw⟩; subst w'
  go_wp2_with fail
  refine (kube6' c u _ _ hc hu rfl).mono ?_
  rintro e w' ⟨A, rfl, sA, HA, hw⟩; subst w'
  have q1 : (A.toList == (X.extract 0 (58 + c.size) ++ Y.extract 58 (161 + u.size)).toList) = true := by
    rw [HA.out, HX.out, HY.out, fst_take, snd_drop, ← whole]
    exact beq_self_eq_true _
  have q2 : ((A.extract 58 (58 + c.size)).toList == c.toList) = true := by
    rw [HA.out, mid]
    exact beq_self_eq_true _
  go_wp2
  go_quiet (fail)
  go_wp2
  go_ret
  exact ⟨rfl, g1⟩

set_option maxHeartbeats 400000 in
theorem law3_n0 (c u : ByteArray) (w : World) (h : ¬ c.size + u.size ≤ 1048576) (hc : c.size ≤ maxLen) (hu : u.size ≤ maxLen) :
    Calls Try.prog 3 #[.string c, .string u] w fun e w' => e = .returned (.bool true) ∧ Grown w w' := by
  go_enter Try.func3, Try.ntmps3
  go_wp2_with fail
  refine (zz5_no _ _ _ h hc hu).mono ?_
  rintro e w' ⟨rfl, hw⟩; subst w'
  go_wp2_with fail
  go_ret
  exact ⟨rfl, Grown.refl w⟩

set_option maxHeartbeats 400000 in
theorem law3_n1 (c u : ByteArray) (w : World) (h : c.size + u.size ≤ 1048576) (hc : 524288 < c.size) :
    Calls Try.prog 3 #[.string c, .string u] w fun e w' => e = .returned (.bool true) ∧ Grown w w' := by
  go_enter Try.func3, Try.ntmps3
  go_wp2_with fail
  refine (zz5_yes _ _ _ h).mono ?_
  rintro e w' ⟨rfl, hw⟩; subst w'
  go_wp2_with fail
  go_ret
  exact ⟨rfl, Grown.refl w⟩

set_option maxHeartbeats 400000 in
theorem law3_n2 (c u : ByteArray) (w : World) (h : c.size + u.size ≤ 1048576) (hc : c.size ≤ 524288) (hu : 524288 < u.size) :
    Calls Try.prog 3 #[.string c, .string u] w fun e w' => e = .returned (.bool true) ∧ Grown w w' := by
  go_enter Try.func3, Try.ntmps3
  go_wp2_with fail
  refine (zz5_yes _ _ _ h).mono ?_
  rintro e w' ⟨rfl, hw⟩; subst w'
  go_wp2_with fail
  go_ret
  exact ⟨rfl, Grown.refl w⟩

theorem law3 (c u : ByteArray) (w : World) (hc : c.size ≤ maxLen) (hu : u.size ≤ maxLen) :
    Calls Try.prog 3 #[.string c, .string u] w fun e w' => e = .returned (.bool true) ∧ Grown w w' := by
  by_cases h : c.size + u.size ≤ 1048576
  · by_cases h1 : c.size ≤ 524288
    · by_cases h2 : u.size ≤ 524288
      · exact law3_yes c u w h1 h2
      · exact law3_n2 c u w h h1 (by omega)
    · exact law3_n1 c u w h (by omega)
  · exact law3_n0 c u w h hc hu

end Go.Proofs.Qxb6618521a
