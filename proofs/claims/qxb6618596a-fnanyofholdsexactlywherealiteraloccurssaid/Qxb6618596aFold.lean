import Derived.Test.Qxb6618596aRows
import Derived.WalkKit
import Derived.WalkSpells
import Derived.WalkLawsBesides
import Derived.OneCell
import Derived.Deep.QuietTactic
import Derived.BigQuiet
namespace Go.Proofs.Qxb6618596a
open Go.RowKit

/-! ### plain -/
theorem size_eq (s : ByteArray) : s.size = s.data.toList.length := by rw [Array.length_toList]; rfl
theorem ext' {a b : ByteArray} (h : a.data.toList = b.data.toList) : a = b := ByteArray.ext (Array.ext' h)

def fold (x : Int) : Int := if 65 ≤ x ∧ x ≤ 90 then x + 32 else x
/-- The byte at place j of s (nought behind the end), as a number. -/
def byteAt (s : ByteArray) (j : Nat) : Int := if h : j < s.size then (s[j].toNat : Int) else 0
def sameAt (t l : ByteArray) (i j : Nat) : Bool := fold (byteAt t (i + j)) == fold (byteAt l j)
def hereB (t l : ByteArray) (i : Nat) : Bool := (List.range l.size).all (sameAt t l i)
/-- Does l occur in t, ASCII letters compared without case? -/
def cf (t l : ByteArray) : Bool := decide (l.size ≤ t.size) && (List.range (t.size + 1 - l.size)).any (hereB t l)

theorem here_true {t l : ByteArray} {i : Nat} (h : ∀ j, j < l.size → sameAt t l i j = true) : hereB t l i = true := by
  unfold hereB
  rw [List.all_eq_true]
  intro j hj
  exact h j (List.mem_range.1 hj)
theorem here_false {t l : ByteArray} {i j : Nat} (hj : j < l.size) (h : sameAt t l i j = false) : hereB t l i = false := by
  cases hb : hereB t l i with
  | false => rfl
  | true =>
    unfold hereB at hb
    rw [List.all_eq_true] at hb
    rw [hb j (List.mem_range.2 hj)] at h
    exact h
theorem cf_true {t l : ByteArray} {i : Nat} (hi : i + l.size ≤ t.size) (h : hereB t l i = true) : cf t l = true := by
  unfold cf
  rw [Bool.and_eq_true]
  refine ⟨by simp; omega, ?_⟩
  rw [List.any_eq_true]
  exact ⟨i, List.mem_range.2 (by omega), h⟩
theorem cf_long {t l : ByteArray} (h : t.size < l.size) : cf t l = false := by
  unfold cf
  have : decide (l.size ≤ t.size) = false := by simp; omega
  rw [this]; rfl
theorem cf_none {t l : ByteArray} (h : ∀ i, i + l.size ≤ t.size → hereB t l i = false) : cf t l = false := by
  cases hb : cf t l with
  | false => rfl
  | true =>
    unfold cf at hb
    rw [Bool.and_eq_true, List.any_eq_true] at hb
    obtain ⟨h1, i, hi, h2⟩ := hb
    have := List.mem_range.1 hi
    have h1' := of_decide_eq_true h1
    rw [h i (by omega)] at h2
    cases h2
theorem cf_empty (t l : ByteArray) (h : l.size = 0) : cf t l = true :=
  cf_true (i := 0) (by omega) (here_true (fun j hj => by omega))

set_option maxHeartbeats 400000 in
theorem fold26 (x : Int) (w : World) (h0 : 0 ≤ x) (h1 : x ≤ 255) :
    Calls Try.prog 26 #[.int .u8 x] w fun e w' => e = .returned (.int .u8 (fold x)) ∧ w' = w := by
  by_cases h2 : 65 ≤ x
  · by_cases h3 : x ≤ 90
    · have hf : x + 32 = fold x := by unfold fold; rw [if_pos ⟨h2, h3⟩]
      have HF : Hid (x + 32 = fold x) := hf
      clear hf
      go_enter Try.func26, Try.ntmps26
      go_wp2
      go_ret
      refine ⟨?_, rfl⟩
      rw [← HF.out]
      rfl
    · have hf : x = fold x := by unfold fold; rw [if_neg (by omega)]
      have HF : Hid (x = fold x) := hf
      clear hf
      go_enter Try.func26, Try.ntmps26
      go_wp2
      go_ret
      refine ⟨?_, rfl⟩
      rw [← HF.out]
      rfl
  · have hf : x = fold x := by unfold fold; rw [if_neg (by omega)]
    have HF : Hid (x = fold x) := hf
    clear hf
    go_enter Try.func26, Try.ntmps26
    go_wp2
    go_ret
    refine ⟨?_, rfl⟩
    rw [← HF.out]
    rfl

theorem byte_le (c : UInt8) : (c.toNat : Int) ≤ 255 := by have := c.toNat_lt; omega
theorem byteAt_eq (s : ByteArray) (j : Nat) (h : j < s.size) : byteAt s j = (s[j].toNat : Int) := by unfold byteAt; rw [dif_pos h]

theorem fold26' (c : UInt8) (w : World) : Calls Try.prog 26 #[.int .u8 (c.toNat : Int)] w fun e w' => e = .returned (.int .u8 (fold (c.toNat : Int))) ∧ w' = w :=
  fold26 _ w (by omega) (byte_le c)
theorem wrap_small (x : Int) (h0 : 0 ≤ x) (h1 : x < 9223372036854775808) : IntKind.i64.wrap x = x := by
  exact IntWalk.i64_in x (by omega)
theorem below_drewN {B : Nat} {a w : World} (h : Below B a w) (n : Nat) : Below B a (w.drewN n) := ⟨h.os, h.tape, h.output, h.size, h.block⟩

set_option maxHeartbeats 1000000 in
theorem cf20 (t l : ByteArray) (w : World) (ht : t.size ≤ 4096) :
    Calls Try.prog 20 #[.string t, .string l] w fun e w' => e = .returned (.bool (cf t l)) ∧ Below w.heap.size w w' := by
  by_cases hlong : t.size < l.size
  · have hf := cf_long hlong
    have HF : Hid (cf t l = false) := hf
    clear hf
    go_enter Try.func20, Try.ntmps20
    go_wp2
    go_ret
    exact ⟨by rw [HF.out]; rfl, Below.refl _ _⟩
  · have hl : l.size ≤ t.size := by omega
    go_enter Try.func20, Try.ntmps20
    go_wp2
    go_loopw [5] (fun i wr => ∃ k : Nat, k ≤ t.size + 1 - l.size ∧ i = .int .i64 k ∧ Hid (∀ m, m < k → hereB t l m = false) ∧ Below w.heap.size w wr) (fun i _ => t.size + 1 - l.size - (intOf i).toNat)
    case atStart => exact ⟨0, Nat.zero_le _, rfl, fun m hm => by omega, Below.refl _ _⟩
    case round =>
      obtain ⟨i, hi, rfl, HM, hbe⟩ := hrel
      by_cases hlt : i + l.size ≤ t.size
      · go_wp2
        go_loopw [6] (fun j wr2 => ∃ k : Nat, k ≤ l.size ∧ j = .int .i64 k ∧ Hid (∀ m, m < k → sameAt t l i m = true) ∧ Below w.heap.size w wr2) (fun j _ => l.size - (intOf j).toNat)
        case atStart => exact ⟨0, Nat.zero_le _, rfl, fun m hm => by omega, hbe⟩
        case round =>
          obtain ⟨k, hk, rfl, HK, hbe2⟩ := hrel
          by_cases hkl : k < l.size
          · have b1 : (k : Int) < (l.size : Int) := by omega
            have b2 : (i : Int) + (k : Int) < (t.size : Int) := by omega
            have b3 : i + k < t.size := by omega
            have b0 : (0 : Int) ≤ (i : Int) + (k : Int) := by omega
            have hn : ((i : Int) + (k : Int)).toNat = i + k := by omega
            have hw : IntKind.i64.wrap ((i : Int) + (k : Int)) = (i : Int) + (k : Int) := wrap_small _ (by omega) (by omega)
            by_cases hs : sameAt t l i k = true
            · have hq : (fold (t[i + k].toNat : Int) == fold (l[k].toNat : Int)) = true := by
                unfold sameAt at hs
                rw [byteAt_eq _ _ b3, byteAt_eq _ _ hkl] at hs
                exact hs
              have HS : Hid (sameAt t l i k = true) := hs
              clear hs
              go_wp2
              go_quiet ((go_at_call 26; refine Calls.quiet_of_same (fold26' _ _)))
              go_wp2
              go_roundw
              case rel =>
                refine ⟨k + 1, by omega, by go_num, fun m hm => ?_, below_drewN hbe2 _⟩
                by_cases e : m = k
                · rw [e]; exact HS.out
                · exact HK.out m (by omega)
              case measure => simp [intOf]; omega
            · have hq : (fold (t[i + k].toNat : Int) == fold (l[k].toNat : Int)) = false := by
                unfold sameAt at hs
                rw [byteAt_eq _ _ b3, byteAt_eq _ _ hkl] at hs
                simpa using hs
              have HS : Hid (sameAt t l i k = false) := by show sameAt t l i k = false; simpa using hs
              clear hs
              have hne : ((k : Int) == (l.size : Int)) = false := by simp; omega
              go_wp2
              go_quiet ((go_at_call 26; refine Calls.quiet_of_same (fold26' _ _)))
              go_wp2
              go_roundw
              case rel =>
                refine ⟨i + 1, by omega, by go_num, fun m hm => ?_, below_drewN hbe2 _⟩
                by_cases e : m = i
                · rw [e]; exact here_false hkl HS.out
                · exact HM.out m (by omega)
              case measure => simp [intOf]; omega
          · have hd : decide ((k : Int) < (l.size : Int)) = false := by simp; omega
            have he : ((k : Int) == (l.size : Int)) = true := by simp; omega
            have HT : Hid (cf t l = true) := cf_true hlt (here_true (fun j hj => HK.out j (by omega)))
            go_wp2
            go_quiet ((go_at_call 26; refine Calls.quiet_of_same (fold26' _ _)))
            go_wp2
            go_ret
            exact ⟨by rw [HT.out]; rfl, below_drewN hbe2 _⟩
      · have HT : Hid (cf t l = false) := cf_none (fun m hm => HM.out m (by omega))
        go_wp2
        go_ret
        exact ⟨by rw [HT.out]; rfl, hbe⟩

end Go.Proofs.Qxb6618596a
