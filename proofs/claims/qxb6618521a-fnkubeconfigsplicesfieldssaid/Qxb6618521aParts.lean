import Derived.Test.Qxb6618521aRows
import Derived.WalkKit
import Derived.WalkSpells
import Derived.WalkLawsBesides
import Derived.Deep.QuietTactic
import Derived.BigQuiet
namespace Go.Proofs.Qxb6618521a
open Go.RowKit

/-! ### plain: the frame round the two texts -/
def fA : ByteArray := ⟨#[97, 112, 105, 86, 101, 114, 115, 105, 111, 110, 58, 32, 118, 49, 10, 107, 105, 110, 100, 58, 32, 67, 111, 110, 102, 105, 103, 10, 99, 108, 117, 115, 116, 101, 114, 115, 58, 32, 91, 123, 110, 97, 109, 101, 58, 32, 99, 44, 32, 99, 108, 117, 115, 116, 101, 114, 58, 32]⟩
def fB : ByteArray := ⟨#[125, 93, 10, 117, 115, 101, 114, 115, 58, 32, 91, 123, 110, 97, 109, 101, 58, 32, 117, 44, 32, 117, 115, 101, 114, 58, 32]⟩
def fC : ByteArray := ⟨#[125, 93, 10]⟩
def fD : ByteArray := ⟨#[99, 111, 110, 116, 101, 120, 116, 115, 58, 32, 91, 123, 110, 97, 109, 101, 58, 32, 120, 44, 32, 99, 111, 110, 116, 101, 120, 116, 58, 32, 123, 99, 108, 117, 115, 116, 101, 114, 58, 32, 99, 44, 32, 117, 115, 101, 114, 58, 32, 117, 125, 125, 93, 10, 99, 117, 114, 114, 101, 110, 116, 45, 99, 111, 110, 116, 101, 120, 116, 58, 32, 120, 10]⟩
def kube (c u : ByteArray) : ByteArray := ((((fA ++ c) ++ fB) ++ u) ++ fC) ++ fD

theorem size_eq (s : ByteArray) : s.size = s.data.toList.length := by rw [Array.length_toList]; rfl
theorem sA : fA.size = 58 := rfl
theorem sB : fB.size = 27 := rfl
theorem sC : fC.size = 3 := rfl
theorem sD : fD.size = 73 := rfl
theorem kube_size (c u : ByteArray) : (kube c u).size = 161 + c.size + u.size := by
  simp only [kube, ByteArray.size_append, sA, sB, sC, sD]; omega
theorem kube_list (c u : ByteArray) : (kube c u).toList = fA.data.toList ++ (c.data.toList ++ (fB.data.toList ++ (u.data.toList ++ (fC.data.toList ++ fD.data.toList)))) := by
  rw [ByteArray.toList_eq]
  simp only [kube, ByteArray.data_append, Array.toList_append, List.append_assoc]
theorem ext' {a b : ByteArray} (h : a.data.toList = b.data.toList) : a = b := ByteArray.ext (Array.ext' h)
theorem kube_inj {c1 u1 c2 u2 : ByteArray} (hs : c1.size = c2.size) (h : (kube c1 u1).toList = (kube c2 u2).toList) : c1 = c2 ∧ u1 = u2 := by
  rw [kube_list, kube_list] at h
  have h := List.append_cancel_left h
  obtain ⟨h1, h2⟩ := List.append_inj h (by rw [← size_eq, ← size_eq]; exact hs)
  have h3 := List.append_cancel_left h2
  have h4 := List.append_cancel_right h3
  exact ⟨ext' h1, ext' h4⟩

set_option maxHeartbeats 1000000 in
theorem kube6 (c u : ByteArray) (w : World) (hc : c.size ≤ 1048576) (hu : u.size ≤ 1048576) :
    Calls Try.prog 6 #[.string c, .string u] w fun e w' => e = .returned (.string (kube c u)) ∧ w' = w := by
  go_enter Try.func6, Try.ntmps6
  go_wp2
  go_ret
  exact ⟨rfl, rfl⟩

set_option maxHeartbeats 400000 in
theorem zz8_yes (a b c d : ByteArray) (w : World) (h : a.size + b.size + c.size + d.size ≤ 1048576) :
    Calls Try.prog 8 #[.string a, .string b, .string c, .string d] w fun e w' => e = .returned (.bool true) ∧ w' = w := by
  go_enter Try.func8, Try.ntmps8
  go_wp2
  go_ret
  exact ⟨rfl, rfl⟩

set_option maxHeartbeats 400000 in
theorem zz8_no (a b c d : ByteArray) (w : World) (h : ¬ a.size + b.size + c.size + d.size ≤ 1048576) (ha : a.size ≤ maxLen) (hb : b.size ≤ maxLen) (hc : c.size ≤ maxLen) (hd : d.size ≤ maxLen) :
    Calls Try.prog 8 #[.string a, .string b, .string c, .string d] w fun e w' => e = .returned (.bool false) ∧ w' = w := by
  unfold maxLen at ha hb hc hd
  go_enter Try.func8, Try.ntmps8
  go_wp2
  all_goals go_ret
  all_goals first | exact ⟨rfl, rfl⟩ | (exfalso; omega)

set_option maxHeartbeats 400000 in
theorem zz5_yes (a b : ByteArray) (w : World) (h : a.size + b.size ≤ 1048576) :
    Calls Try.prog 5 #[.string a, .string b] w fun e w' => e = .returned (.bool true) ∧ w' = w := by
  go_enter Try.func5, Try.ntmps5
  go_wp2
  go_ret
  exact ⟨rfl, rfl⟩

set_option maxHeartbeats 400000 in
theorem zz5_no (a b : ByteArray) (w : World) (h : ¬ a.size + b.size ≤ 1048576) (ha : a.size ≤ maxLen) (hb : b.size ≤ maxLen) :
    Calls Try.prog 5 #[.string a, .string b] w fun e w' => e = .returned (.bool false) ∧ w' = w := by
  unfold maxLen at ha hb
  go_enter Try.func5, Try.ntmps5
  go_wp2
  all_goals go_ret
  all_goals first | exact ⟨rfl, rfl⟩ | (exfalso; omega)

end Go.Proofs.Qxb6618521a
