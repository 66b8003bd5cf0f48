import Derived.Test.Qxb6618519aMore
namespace Go.Proofs.Qxb6618519a
open Go.RowKit
open Go.Lib (strCells strCells_length)

def u8s (zs : List Int) : List Value := zs.map (Value.int .u8)
def part (zs : List Int) (k : Nat) : List Value := u8s (zs.take k) ++ List.replicate (zs.length - k) (.int .u8 0)

theorem eqnil (w : World) (a : Option Addr) (n c : Nat) : (binOp .eql 22 (.slice a n c) (.slice none 0 0)).run Try.prog w = .ok (.bool a.isNone) w := by
  simp only [binOp]
  simp [run_equal_slice_nil w 22 5 a n c Try.underlying22]
theorem part_zero (zs : List Int) : part zs 0 = List.replicate zs.length (.int .u8 0) := by simp [part, u8s]
theorem part_end (zs : List Int) : part zs zs.length = u8s zs := by simp [part]
theorem part_get (zs : List Int) (k : Nat) (h : k < zs.length) : (part zs k)[k]? = some (.int .u8 0) := by
  unfold part u8s
  rw [List.getElem?_append_right (by simp; omega)]
  have e2 : k - (List.map (Value.int IntKind.u8) (List.take k zs)).length = 0 := by simp; omega
  have e1 : zs.length - k = (zs.length - (k + 1)) + 1 := by omega
  rw [e2, e1, List.replicate_succ]
  rfl
theorem part_set (zs : List Int) (k : Nat) (h : k < zs.length) : (part zs k).set k (.int .u8 zs[k]) = part zs (k + 1) := by
  unfold part u8s
  rw [List.set_append_right _ _ (by simp; omega)]
  rw [List.take_succ_eq_append_getElem h, List.map_append, List.append_assoc]
  congr 1
  have e1 : zs.length - k = (zs.length - (k + 1)) + 1 := by omega
  have e2 : k - (List.map (Value.int IntKind.u8) (List.take k zs)).length = 0 := by simp; omega
  rw [e1, e2, List.replicate_succ]
  simp

set_option maxHeartbeats 400000 in
theorem copy8_nil (w : World) :
    Calls Try.prog 8 #[.slice none 0 0] w fun e w' => e = .returned (.slice none 0 0) ∧ w' = w := by
  have hnil := eqnil
  go_enter Try.func8, Try.ntmps8
  go_wp2
  go_ret
  exact ⟨rfl, rfl⟩

set_option maxHeartbeats 400000 in
theorem copy8_zero (w : World) (x : Addr) (cap : Nat) :
    Calls Try.prog 8 #[.slice (some x) 0 cap] w fun e w' => ∃ v, e = .returned v ∧ w'.ownsRow w.heap.size 5 1 v 0 [] ∧ v ≠ .slice none 0 0 ∧ Below w.heap.size w w' := by
  obtain ⟨i0, hi, hz0, hz1, hz2⟩ := info_parts info5
  have hnil := eqnil
  go_enter Try.func8, Try.ntmps8
  go_wp2_with (at_make; refine wpList_make_full _ rfl (.tmp 8) (.tmp 8) 22 rfl w.heap.size 5 i0 (.int .u8 0) 1 Try.underlying22 hi hz0 hz1 .i64 .i64 _ _ 0 rfl rfl (by rfl) (by rfl) (by simp) (by decide) (Nat.le_refl _) ?next)
  case next =>
    intro w1 hown hg
    go_wp2
    go_loopw [4] (fun i wr => i = .int .i64 0 ∧ wr = w1) (fun _ _ => 0)
    case atStart => exact ⟨rfl, rfl⟩
    case round =>
      obtain ⟨rfl, rfl⟩ := hrel
      go_wp2
      go_ret
      rw [toList_madeCells_one] at hown
      exact ⟨_, rfl, hown, by simp, (Below.refl _ _).grown hg (Nat.le_refl _) (fun k h => by cases h)⟩

set_option maxHeartbeats 400000 in
theorem copy8_some (w : World) (b off cap : Nat) (zs : List Int) (hlen : zs.length ≤ 1048576) (hb : b < w.heap.size)
    (hc : ∀ j, j < zs.length → w.cell? ⟨b, off + j, none⟩ = some (.int .u8 (zs.getD j 0))) :
    Calls Try.prog 8 #[.slice (some ⟨b, off, none⟩) zs.length cap] w fun e w' => ∃ v, e = .returned v ∧ w'.ownsRow w.heap.size 5 1 v zs.length (u8s zs) ∧ v ≠ .slice none 0 0 ∧ Below w.heap.size w w' := by
  obtain ⟨i0, hi, hz0, hz1, hz2⟩ := info_parts info5
  have hnil := eqnil
  go_enter Try.func8, Try.ntmps8
  go_wp2_with (at_make; refine wpList_make_full _ rfl (.tmp 8) (.tmp 8) 22 rfl w.heap.size 5 i0 (.int .u8 0) 1 Try.underlying22 hi hz0 hz1 .i64 .i64 _ _ zs.length rfl rfl (by rfl) (by rfl) (by rw [hz2]; omega) (by unfold maxLen; omega) (Nat.le_refl _) ?next)
  case next =>
    intro w1 hown hg
    have hown' : w1.ownsRow w.heap.size 5 1 (.slice (some ⟨w.heap.size, 0, none⟩) zs.length zs.length) zs.length (part zs 0) := by
      rw [part_zero]
      rw [toList_madeCells_one] at hown
      exact hown
    have hbel : Below w.heap.size w w1 := (Below.refl _ _).grown hg (Nat.le_refl _) (fun k h => by cases h)
    clear hown hg
    go_wp2
    go_loopw [4] (fun i wr => ∃ k : Nat, k ≤ zs.length ∧ i = .int .i64 k ∧ wr.ownsRow w.heap.size 5 1 (.slice (some ⟨w.heap.size, 0, none⟩) zs.length zs.length) zs.length (part zs k) ∧ Below w.heap.size w wr) (fun i _ => zs.length - (intOf i).toNat)
    case atStart => exact ⟨0, Nat.zero_le _, rfl, hown', hbel⟩
    case round =>
      obtain ⟨k, hk, rfl, ho, hl⟩ := hrel
      by_cases hlt : k < zs.length
      · have hs := (hl.cell (p := ⟨b, off + k, none⟩) hb).trans (hc k hlt)
        have hd := (ho.cellAt k (by omega)).trans (part_get zs k hlt)
        have hf := ho.frozenAt k
        go_wp2
        go_roundw
        case rel =>
          refine ⟨k + 1, by omega, by go_num, ?_, hl.setCell (p := ⟨_, _, none⟩) (Nat.le_refl _) _⟩
          rw [← part_set zs k hlt]
          exact (ho.stored k _).1
        case measure => simp [intOf]; omega
      · go_wp2
        go_ret
        have : k = zs.length := by omega
        subst this
        exact ⟨_, rfl, by rw [← part_end]; exact ho, by simp, hl⟩

set_option maxHeartbeats 400000 in
theorem join13_a (w : World) (ao ah : Option Addr) (co ch : Nat) (s : ByteArray) (hs : s.size = 0) :
    Calls Try.prog 13 #[.slice ao 0 co, .slice ah 0 ch, .string s] w fun e w' => e = .returned (.bool true) ∧ Below w.heap.size w w' := by
  go_enter Try.func13, Try.ntmps13
  go_wp2
  go_loopw [7] (fun i wr => i = .int .i64 0 ∧ wr = w) (fun _ _ => 0)
  case atStart => exact ⟨rfl, rfl⟩
  case round =>
    obtain ⟨rfl, rfl⟩ := hrel
    go_wp2
    go_loopw [8] (fun i wr' => i = .int .i64 0 ∧ wr' = wr) (fun _ _ => 0)
    case atStart => exact ⟨rfl, rfl⟩
    case round =>
      obtain ⟨rfl, rfl⟩ := hrel
      go_wp2
      go_ret
      exact ⟨rfl, Below.refl _ _⟩

set_option maxHeartbeats 400000 in
theorem join13_b (w : World) (ah : Option Addr) (g co ch : Nat) (s : ByteArray) (hs : s.size ≤ 1048576)
    (hc : ∀ j (h : j < s.size), w.cell? ⟨g, j, none⟩ = some (.int .u8 (s[j].toNat : Int))) :
    Calls Try.prog 13 #[.slice (some ⟨g, 0, none⟩) s.size co, .slice ah 0 ch, .string s] w fun e w' => e = .returned (.bool true) ∧ Below w.heap.size w w' := by
  go_enter Try.func13, Try.ntmps13
  go_wp2
  go_loopw [7] (fun i wr => i = .int .i64 0 ∧ wr = w) (fun _ _ => 0)
  case atStart => exact ⟨rfl, rfl⟩
  case round =>
    obtain ⟨rfl, rfl⟩ := hrel
    go_wp2
    go_loopw [8] (fun i wr' => ∃ k q : Nat, k ≤ s.size ∧ i = .int .i64 k ∧ wr' = wr.drewN q) (fun i _ => s.size - (intOf i).toNat)
    case atStart => exact ⟨0, 0, Nat.zero_le _, rfl, rfl⟩
    case round =>
      obtain ⟨k, q, hk, rfl, rfl⟩ := hrel
      by_cases hlt : k < s.size
      · have hk' := hc k hlt
        go_wp2
        go_quiet (fail)
        go_wp2
        go_roundw
        case rel => exact ⟨k + 1, _, by omega, by go_num, rfl⟩
        case measure => simp [intOf]; omega
      · go_wp2
        go_ret
        exact ⟨rfl, ⟨rfl, rfl, rfl, Nat.le_refl _, fun _ _ => rfl⟩⟩

set_option maxHeartbeats 800000 in
theorem join13_c (w : World) (g g2 co ch : Nat) (zs : List Int) (s : ByteArray) (hs : s.size ≤ 1048576) (hz : zs.length ≤ 1048576)
    (ho : ∀ j, j < zs.length → w.cell? ⟨g, j, none⟩ = some (.int .u8 (zs.getD j 0))) (hh : ∀ j, j < zs.length → w.cell? ⟨g2, j, none⟩ = some (.int .u8 (zs.getD j 0)))
    (hc : ∀ j (h : j < s.size), w.cell? ⟨g, zs.length + j, none⟩ = some (.int .u8 (s[j].toNat : Int))) :
    Calls Try.prog 13 #[.slice (some ⟨g, 0, none⟩) (zs.length + s.size) co, .slice (some ⟨g2, 0, none⟩) zs.length ch, .string s] w fun e w' => e = .returned (.bool true) ∧ Below w.heap.size w w' := by
  go_enter Try.func13, Try.ntmps13
  go_wp2
  go_loopw [7] (fun i wr => ∃ k q : Nat, k ≤ zs.length ∧ i = .int .i64 k ∧ wr = w.drewN q) (fun i _ => zs.length - (intOf i).toNat)
  case atStart => exact ⟨0, 0, Nat.zero_le _, rfl, rfl⟩
  case round =>
    obtain ⟨k, q, hk, rfl, rfl⟩ := hrel
    by_cases hlt : k < zs.length
    · have h1 := ho k hlt
      have h2 := hh k hlt
      go_wp2
      go_quiet (fail)
      go_wp2
      go_roundw
      case rel => exact ⟨k + 1, _, by omega, by go_num, rfl⟩
      case measure => simp [intOf]; omega
    · go_wp2
      go_loopw [8] (fun i wr' => ∃ k q : Nat, k ≤ s.size ∧ i = .int .i64 k ∧ wr' = w.drewN q) (fun i _ => s.size - (intOf i).toNat)
      case atStart => exact ⟨0, q, Nat.zero_le _, rfl, rfl⟩
      case round =>
        obtain ⟨k, q, hk, rfl, rfl⟩ := hrel
        by_cases hlt : k < s.size
        · have hk' := hc k hlt
          go_wp2
          go_quiet (fail)
          go_wp2
          go_roundw
          case rel => exact ⟨k + 1, _, by omega, by go_num, rfl⟩
          case measure => simp [intOf]; omega
        · go_wp2
          go_ret
          exact ⟨rfl, ⟨rfl, rfl, rfl, Nat.le_refl _, fun _ _ => rfl⟩⟩

end Go.Proofs.Qxb6618519a
