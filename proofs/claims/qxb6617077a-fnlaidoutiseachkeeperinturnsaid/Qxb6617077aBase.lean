import Derived.Test.Qxb6617077aRows
import Derived.WalkKit
import Derived.WalkSpells
import Derived.WalkLawsBesides
import Derived.OneCell
import Derived.Deep.QuietTactic
import Derived.BigQuiet
namespace Go.Proofs.Qxb6617077a
open Go.RowKit

/-! ### slices of strings -/
def strs (ls : List ByteArray) : List Value := ls.map .string
theorem strs_get (ls : List ByteArray) (k : Nat) (h : k < ls.length) : (strs ls)[k]? = some (.string ls[k]) := by
  simp [strs, List.getElem?_eq_getElem h]
theorem strs_len (ls : List ByteArray) : (strs ls).length = ls.length := by simp [strs]
theorem strs_one (ls : List ByteArray) : ∀ u ∈ strs ls, u.oneCell' = true := by
  intro u hu
  obtain ⟨_, _, rfl⟩ := List.mem_map.1 hu
  rfl
theorem one_str (s : ByteArray) : ∀ u ∈ [Value.string s], u.oneCell' = true := by
  intro u hu
  obtain rfl := List.mem_singleton.1 hu
  rfl

/-- v is a slice that reads as the strings ls, wherever it lies. -/
def SL (w : World) (v : Value) (ls : List ByteArray) : Prop :=
  ∃ a c, v = .slice a ls.length c ∧ (a = none → c = 0) ∧ (ls = [] ∨ ∃ b off, a = some ⟨b, off, none⟩ ∧ b < w.heap.size ∧ ∀ j (h : j < ls.length), w.cell? ⟨b, off + j, none⟩ = some (.string ls[j]))

theorem SL.slice {w : World} {v : Value} {ls : List ByteArray} (h : SL w v ls) : ∃ a c, v = .slice a ls.length c := by
  obtain ⟨a, c, hv, _, _⟩ := h
  exact ⟨a, c, hv⟩
theorem SL.at {w : World} {a : Option Addr} {n c : Nat} {ls : List ByteArray} (h : SL w (.slice a n c) ls) {k : Nat} (hk : k < ls.length) :
    ∃ b off, a = some ⟨b, off, none⟩ ∧ b < w.heap.size ∧ w.cell? ⟨b, off + k, none⟩ = some (.string ls[k]) := by
  obtain ⟨a', c', hv, _, h⟩ := h
  simp only [Value.slice.injEq] at hv
  obtain ⟨rfl, rfl, rfl⟩ := hv
  rcases h with rfl | ⟨b, off, rfl, hb, hc⟩
  · simp at hk
  · exact ⟨b, off, rfl, hb, hc k hk⟩
theorem SL.below {B : Nat} {w w' : World} {v : Value} {ls : List ByteArray} (h : SL w v ls) (hb : Below B w w') (hB : w.heap.size ≤ B) : SL w' v ls := by
  obtain ⟨a, c, hv, h0, h⟩ := h
  refine ⟨a, c, hv, h0, ?_⟩
  rcases h with h | ⟨b, off, ha, hlt, hc⟩
  · exact .inl h
  · exact .inr ⟨b, off, ha, Nat.lt_of_lt_of_le hlt hb.size, fun j hj => by rw [hb.cell (p := ⟨b, off + j, none⟩) (Nat.lt_of_lt_of_le hlt hB)]; exact hc j hj⟩
theorem SL.nil (w : World) : SL w (.slice none 0 0) [] := ⟨none, 0, rfl, fun _ => rfl, .inl rfl⟩
theorem SL.own {w : World} {base : Nat} {v : Value} {ls : List ByteArray} (h : w.ownsRow base 9 1 v ls.length (strs ls)) : SL w v ls := by
  rcases h.2 with ⟨hv, h0⟩ | ⟨g, cap', cur, hv, _, hg, hnc, _, hcs, htake⟩
  · exact ⟨none, 0, by rw [hv, h0], fun _ => rfl, .inl (List.eq_nil_of_length_eq_zero h0)⟩
  · subst hv
    refine ⟨_, _, rfl, (fun h => by cases h), .inr ⟨g, 0, rfl, lt_of_block hg, fun j hj => ?_⟩⟩
    rw [Nat.zero_add, h.cellAt (g := g) j (by omega)]
    exact strs_get ls j hj
/-- As the append's laws ask it. -/
theorem SL.src {w : World} {x : Addr} {n c : Nat} {ls : List ByteArray} (h : SL w (.slice (some x) n c) ls) : ∀ j v, (strs ls)[j]? = some v → w.cell? (x.add j) = some v := by
  intro j v hj
  have hlt : j < ls.length := by rw [← strs_len]; exact (List.getElem?_eq_some_iff.1 hj).1
  obtain ⟨b, off, hx, _, hc⟩ := h.at hlt
  cases hx
  rw [strs_get _ _ hlt] at hj
  rw [Addr.add_lit, hc]
  exact hj
theorem SL.len {w : World} {a : Option Addr} {n c : Nat} {ls : List ByteArray} (h : SL w (.slice a n c) ls) : n = ls.length := by
  obtain ⟨a', c', hv, _⟩ := h
  simp only [Value.slice.injEq] at hv
  exact hv.2.1
theorem SL.none_nil {w : World} {n c : Nat} {ls : List ByteArray} (h : SL w (.slice none n c) ls) : ls = [] ∧ n = 0 ∧ c = 0 := by
  obtain ⟨a', c', hv, h0, h⟩ := h
  simp only [Value.slice.injEq] at hv
  obtain ⟨rfl, rfl, rfl⟩ := hv
  rcases h with h | ⟨b, off, ha, _⟩
  · exact ⟨h, by rw [h]; rfl, h0 rfl⟩
  · cases ha

/-! ### strings as keys of '==' -/
theorem size_eq (s : ByteArray) : s.size = s.data.toList.length := by rw [Array.length_toList]; rfl
theorem ext' {a b : ByteArray} (h : a.data.toList = b.data.toList) : a = b := ByteArray.ext (Array.ext' h)
def same (a b : ByteArray) : Bool := a.toList == b.toList
theorem same_iff {a b : ByteArray} : same a b = true ↔ a = b := by
  unfold same
  rw [beq_iff_eq, ByteArray.toList_eq, ByteArray.toList_eq]
  exact ⟨ext', fun h => by rw [h]⟩
theorem same_self (a : ByteArray) : same a a = true := same_iff.2 rfl
theorem same_ne {a b : ByteArray} (h : a ≠ b) : same a b = false := by
  cases hs : same a b with
  | false => rfl
  | true => exact absurd (same_iff.1 hs) h
/-- Is x among ls? -/
def mem (ls : List ByteArray) (x : ByteArray) : Bool := ls.any (fun y => same y x)
theorem mem_iff {ls : List ByteArray} {x : ByteArray} : mem ls x = true ↔ x ∈ ls := by
  unfold mem
  rw [List.any_eq_true]
  constructor
  · rintro ⟨y, hy, hs⟩
    rw [← same_iff.1 hs]; exact hy
  · intro h
    exact ⟨x, h, same_self x⟩
theorem mem_take_succ {x : ByteArray} {ls : List ByteArray} {k : Nat} (hk : k < ls.length) (h1 : mem (ls.take k) x = false) (h2 : same ls[k] x = false) : mem (ls.take (k + 1)) x = false := by
  unfold mem at *
  rw [List.take_succ_eq_append_getElem hk, List.any_append, h1]
  simp [h2]
theorem mem_hit {x : ByteArray} {ls : List ByteArray} {k : Nat} (hk : k < ls.length) (h2 : same ls[k] x = true) : mem ls x = true := by
  unfold mem
  rw [List.any_eq_true]
  exact ⟨ls[k], List.getElem_mem hk, h2⟩
def sameL (A B : List ByteArray) : Bool := decide (A = B)

set_option maxHeartbeats 400000 in
theorem member12 (v : Value) (ls : List ByteArray) (x : ByteArray) (w : World) (h : SL w v ls) (hl : ls.length ≤ 1048576) :
    Calls Try.prog 12 #[v, .string x] w fun e w' => e = .returned (.bool (mem ls x)) ∧ w' = w := by
  obtain ⟨ao, c, rfl⟩ := h.slice
  go_enter Try.func12, Try.ntmps12
  go_wp2
  go_loop [9] (fun i => ∃ k : Nat, k ≤ ls.length ∧ i = .int .i64 k ∧ Hid (mem (ls.take k) x = false)) (fun i => ls.length - (intOf i).toNat)
  case atStart => exact ⟨0, Nat.zero_le _, rfl, rfl⟩
  case round =>
    obtain ⟨k, hk, rfl, HM⟩ := hrel
    by_cases hlt : k < ls.length
    · obtain ⟨b, off, rfl, hg, hc⟩ := h.at hlt
      by_cases hx : same ls[k] x = true
      · have HT : Hid (mem ls x = true) := mem_hit hlt hx
        have hx' : (ls[k].toList == x.toList) = true := hx
        clear hx
        go_wp2
        go_ret
        exact ⟨by rw [HT.out]; rfl, rfl⟩
      · have hx' : (ls[k].toList == x.toList) = false := by
          have : same ls[k] x = false := by simpa using hx
          exact this
        have HT : Hid (mem (ls.take (k + 1)) x = false) := mem_take_succ hlt HM.out hx'
        clear hx
        go_wp2
        go_round
        case rel => exact ⟨k + 1, by omega, by go_num, HT⟩
        case measure => simp [intOf]; omega
    · have HT : Hid (mem ls x = false) := by
        have := HM.out
        rw [List.take_of_length_le (by omega)] at this
        exact this
      go_wp2
      go_ret
      exact ⟨by rw [HT.out]; rfl, rfl⟩

set_option maxHeartbeats 400000 in
theorem contains39 (v : Value) (ls : List ByteArray) (x : ByteArray) (w : World) (h : SL w v ls) (hl : ls.length ≤ 1048576) :
    Calls Try.prog 39 #[v, .string x] w fun e w' => e = .returned (.bool (mem ls x)) ∧ w' = w := by
  obtain ⟨ao, c, rfl⟩ := h.slice
  go_enter Try.func39, Try.ntmps39
  go_wp2
  go_loop [9] (fun i => ∃ k : Nat, k ≤ ls.length ∧ i = .int .i64 k ∧ Hid (mem (ls.take k) x = false)) (fun i => ls.length - (intOf i).toNat)
  case atStart => exact ⟨0, Nat.zero_le _, rfl, rfl⟩
  case round =>
    obtain ⟨k, hk, rfl, HM⟩ := hrel
    by_cases hlt : k < ls.length
    · obtain ⟨b, off, rfl, hg, hc⟩ := h.at hlt
      by_cases hx : same ls[k] x = true
      · have HT : Hid (mem ls x = true) := mem_hit hlt hx
        have hx' : (ls[k].toList == x.toList) = true := hx
        clear hx
        go_wp2
        go_ret
        exact ⟨by rw [HT.out]; rfl, rfl⟩
      · have hx' : (ls[k].toList == x.toList) = false := by
          have : same ls[k] x = false := by simpa using hx
          exact this
        have HT : Hid (mem (ls.take (k + 1)) x = false) := mem_take_succ hlt HM.out hx'
        clear hx
        go_wp2
        go_round
        case rel => exact ⟨k + 1, by omega, by go_num, HT⟩
        case measure => simp [intOf]; omega
    · have HT : Hid (mem ls x = false) := by
        have := HM.out
        rw [List.take_of_length_le (by omega)] at this
        exact this
      go_wp2
      go_ret
      exact ⟨by rw [HT.out]; rfl, rfl⟩

theorem sameL_len {A B : List ByteArray} (h : A.length ≠ B.length) : sameL A B = false := by
  unfold sameL
  rw [decide_eq_false_iff_not]
  intro e
  exact h (by rw [e])
theorem sameL_at {A B : List ByteArray} {k : Nat} (h1 : k < A.length) (h2 : k < B.length) (h : same A[k] B[k] = false) : sameL A B = false := by
  unfold sameL
  rw [decide_eq_false_iff_not]
  intro e
  subst e
  rw [same_self] at h
  cases h
theorem sameL_all {A B : List ByteArray} (hl : A.length = B.length) (h : ∀ k (h1 : k < A.length) (h2 : k < B.length), same A[k] B[k] = true) : sameL A B = true := by
  unfold sameL
  rw [decide_eq_true_iff]
  exact List.ext_getElem hl (fun k h1 h2 => same_iff.1 (h k h1 h2))

set_option maxHeartbeats 400000 in
theorem equal44 (v1 v2 : Value) (A B : List ByteArray) (w : World) (h1 : SL w v1 A) (h2 : SL w v2 B) (hl2 : B.length ≤ 1048576) :
    Calls Try.prog 44 #[v1, v2] w fun e w' => e = .returned (.bool (sameL A B)) ∧ Below w.heap.size w w' := by
  obtain ⟨a1, c1, rfl⟩ := h1.slice
  obtain ⟨a2, c2, rfl⟩ := h2.slice
  by_cases hne : A.length = B.length
  · have e0 : ((A.length : Int) == (B.length : Int)) = true := by rw [hne]; simp
    have HN : Hid (A.length = B.length) := hne
    have hle : A.length ≤ B.length := by omega
    clear hne
    go_enter Try.func44, Try.ntmps44
    go_wp2
    go_loopw [13] (fun i wr => ∃ k : Nat, k ≤ A.length ∧ i = .int .i64 k ∧ Hid (∀ m (x1 : m < A.length) (x2 : m < B.length), m < k → same A[m] B[m] = true) ∧ Below w.heap.size w wr) (fun i _ => A.length - (intOf i).toNat)
    case atStart => exact ⟨0, Nat.zero_le _, rfl, fun m _ _ hm => by omega, Below.refl _ _⟩
    case round =>
      obtain ⟨k, hk, rfl, HM, hbe⟩ := hrel
      by_cases hlt : k < A.length
      · have hlt2 : k < B.length := by omega
        obtain ⟨b1, o1, rfl, hg1, hc1⟩ := h1.at hlt
        obtain ⟨b2, o2, rfl, hg2, hc2⟩ := h2.at hlt2
        have d1 := (hbe.cell (p := ⟨b1, o1 + k, none⟩) hg1).trans hc1
        have d2 := (hbe.cell (p := ⟨b2, o2 + k, none⟩) hg2).trans hc2
        clear hc1 hc2
        by_cases hx : same A[k] B[k] = true
        · have hx' : (A[k].toList == B[k].toList) = true := hx
          have HX : Hid (same A[k] B[k] = true) := hx
          clear hx
          go_wp2
          go_quiet (fail)
          go_wp2
          go_roundw
          case rel =>
            refine ⟨k + 1, by omega, by go_num, fun m x1 x2 hm => ?_, ⟨hbe.os, hbe.tape, hbe.output, hbe.size, hbe.block⟩⟩
            by_cases e : m = k
            · subst e; exact HX.out
            · exact HM.out m x1 x2 (by omega)
          case measure => simp [intOf]; omega
        · have hx0 : same A[k] B[k] = false := by simpa using hx
          have hx' : (A[k].toList == B[k].toList) = false := hx0
          have HX : Hid (sameL A B = false) := sameL_at hlt hlt2 hx0
          clear hx hx0
          go_wp2
          go_quiet (fail)
          go_wp2
          go_ret
          exact ⟨by rw [HX.out]; rfl, ⟨hbe.os, hbe.tape, hbe.output, hbe.size, hbe.block⟩⟩
      · have HX : Hid (sameL A B = true) := sameL_all HN.out (fun m x1 x2 => HM.out m x1 x2 (by omega))
        go_wp2
        go_ret
        exact ⟨by rw [HX.out]; rfl, hbe⟩
  · have e0 : ((A.length : Int) == (B.length : Int)) = false := beq_eq_false_iff_ne.2 (by omega)
    have HX : Hid (sameL A B = false) := sameL_len hne
    clear hne
    go_enter Try.func44, Try.ntmps44
    go_wp2
    go_ret
    exact ⟨by rw [HX.out]; rfl, Below.refl _ _⟩

end Go.Proofs.Qxb6617077a
