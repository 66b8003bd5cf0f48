import Derived.Test.Qxb6618519aRows
import Derived.WalkKit
import Derived.WalkSpells
import Derived.WalkLawsBesides
import Derived.OneCell
import Derived.Lib.AppendStr
import Derived.Deep.QuietTactic
import Derived.BigQuiet
namespace Go.Proofs.Qxb6618519a
open Go.RowKit
open Go.Lib (strCells strCells_length)

/-! ### plain -/
/-- Is a space laid ahead of a declarator that opens so? -/
def opens : List UInt8 → Bool
  | [] => false
  | c :: _ => c != 42 && c != 38 && c != 32
def wantL (l : List UInt8) : List UInt8 := if opens l then 32 :: l else l
def blank : ByteArray := ⟨#[32]⟩

theorem size_eq (s : ByteArray) : s.size = s.data.toList.length := by rw [Array.length_toList]; rfl
theorem toNat_ne {c : UInt8} {n : Nat} (hn : n < 256) : (((c.toNat : Int) == (n : Int)) = (c == UInt8.ofNat n)) := by
  rw [Bool.eq_iff_iff]
  simp only [beq_iff_eq]
  constructor
  · intro h
    apply UInt8.toNat_inj.1
    rw [UInt8.toNat_ofNat']
    omega
  · intro h
    subst h
    rw [UInt8.toNat_ofNat']
    omega
theorem opens_of (s : ByteArray) (h : 0 < s.size) : opens s.data.toList = (!((s[0].toNat : Int) == 42) && !((s[0].toNat : Int) == 38) && !((s[0].toNat : Int) == 32)) := by
  have h' : 0 < s.data.toList.length := by rw [← size_eq]; exact h
  have e : s.data.toList = s[0] :: s.data.toList.tail := by
    cases hl : s.data.toList with
    | nil => rw [hl] at h'; simp at h'
    | cons c t =>
      have : s[0] = s.data.toList[0] := rfl
      simp [this, hl]
  rw [e]
  have := @toNat_ne s[0] 42 (by omega)
  have := @toNat_ne s[0] 38 (by omega)
  have := @toNat_ne s[0] 32 (by omega)
  simp_all [opens, bne]
theorem opens_none (s : ByteArray) (h : s.toList = []) : opens s.data.toList = false := by
  rw [ByteArray.toList_eq] at h
  rw [h]; rfl

/-! ### the guards on sizes -/
set_option maxHeartbeats 400000 in
theorem zz14_yes (a b : ByteArray) (w : World) (h : a.size + b.size ≤ 1048576) :
    Calls Try.prog 14 #[.string a, .string b] w fun e w' => e = .returned (.bool true) ∧ w' = w := by
  go_enter Try.func14, Try.ntmps14
  go_wp2
  go_ret
  exact ⟨rfl, rfl⟩

set_option maxHeartbeats 400000 in
theorem zz14_no (a b : ByteArray) (w : World) (h : ¬ a.size + b.size ≤ 1048576) (ha : a.size ≤ maxLen) (hb : b.size ≤ maxLen) :
    Calls Try.prog 14 #[.string a, .string b] w fun e w' => e = .returned (.bool false) ∧ w' = w := by
  unfold maxLen at ha hb
  by_cases h1 : a.size ≤ 1048576
  · by_cases h2 : b.size ≤ 1048576
    · go_enter Try.func14, Try.ntmps14
      go_wp2
      go_ret
      exact ⟨rfl, rfl⟩
    · go_enter Try.func14, Try.ntmps14
      go_wp2
      go_ret
      exact ⟨rfl, rfl⟩
  · go_enter Try.func14, Try.ntmps14
    go_wp2
    go_ret
    exact ⟨rfl, rfl⟩

/-! ### spacedApart -/
theorem ret_bool {a b : Bool} (h : a = b) : Ending.returned (.bool a) = .returned (.bool b) := by rw [h]
set_option maxHeartbeats 400000 in
theorem sp28 (s : ByteArray) (w : World) :
    Calls Try.prog 28 #[.string s] w fun e w' => e = .returned (.bool (opens s.data.toList)) ∧ w' = w := by
  by_cases h0 : 0 < s.size
  · have ho := opens_of s h0
    have HO : Hid (opens s.data.toList = (!((s[0].toNat : Int) == 42) && !((s[0].toNat : Int) == 38) && !((s[0].toNat : Int) == 32))) := ho
    clear ho
    go_enter Try.func28, Try.ntmps28
    go_wp2
    all_goals go_ret
    all_goals refine ⟨ret_bool ?_, rfl⟩
    · rw [opens_none s ‹_›]
    · rw [HO.out]; rename_i h; rw [h]; rfl
    · rw [HO.out]; rename_i h; rw [h]; rfl
    · rw [HO.out]
      rename_i g h1 h2
      have hE : s.toList.isEmpty = false := by cases hq : s.toList.isEmpty <;> simp_all
      rw [hE]
      simp [bne]
  · have h1 : s.toList = [] := by
      rw [ByteArray.toList_eq]
      apply List.eq_nil_of_length_eq_zero
      rw [← size_eq]; omega
    go_enter Try.func28, Try.ntmps28
    go_wp2
    go_ret
    exact ⟨ret_bool (opens_none s h1).symm, rfl⟩

/-! ### the printer -/
theorem info5 : (Try.prog.info? 5).map (fun i => (i.zero, i.size, i.bytes)) = some (some (.int .u8 0), 1, 1) := by kernel_rfl

/-- Block B is a printer; its buffer is a row of the call's own (from 'base' on), the cells zs. -/
structure Pr (w : World) (base B : Nat) (fm : Int) (v : Value) (zs : List Value) (mk by_ st dp : Int) : Prop where
  blk : w.heap[B]? = some (.cells #[.int .u8 fm, v, .int .i64 mk, .int .i64 by_, .int .i64 st, .int .i64 dp, .pointer none, .int .i64 0, .pointer none, .slice none 0 0, .int .i64 0, .int .i64 0] 58 (0, 0))
  low : base ≤ B
  own : w.ownsRow base 5 1 v zs.length zs
  ne : v.ownBlock ≠ some B

theorem Pr.lt {w : World} {base B : Nat} {fm : Int} {v : Value} {zs : List Value} {mk by_ st dp : Int} (h : Pr w base B fm v zs mk by_ st dp) : B < w.heap.size := lt_of_block h.blk

set_option maxHeartbeats 400000 in
theorem str29 (w : World) (base B : Nat) (fm : Int) (v : Value) (zs : List Value) (mk by_ st dp : Int) (s : ByteArray) (h : Pr w base B fm v zs mk by_ st dp)
    (hb0 : 0 ≤ by_) (hb1 : by_ + s.size ≤ 1048576) (hz : zs.length + s.size ≤ 4194304) :
    Calls Try.prog 29 #[.pointer (some ⟨B, 0, none⟩), .string s] w fun e w' => e = .returned (.tuple #[]) ∧ ∃ v', Pr w' base B fm v' (zs ++ strCells s) mk (by_ + s.size) st dp ∧ Below base w w' := by
  obtain ⟨i0, hi, hz0, hz1, hz2⟩ := info_parts info5
  have c1 : w.cell? ⟨B, 1, none⟩ = some v := by rw [cell_of_row w B 1 _ _ _ h.blk]; rfl
  have c3 : w.cell? ⟨B, 3, none⟩ = some (.int .i64 by_) := by rw [cell_of_row w B 3 _ _ _ h.blk]; rfl
  have f1 : w.frozen? ⟨B, 1, none⟩ = false := by simp [World.frozen?, h.blk]
  have f3 : w.frozen? ⟨B, 3, none⟩ = false := by simp [World.frozen?, h.blk]
  have hlt := h.lt
  have hlow := h.low
  have hsz : s.size ≤ 1048576 := by omega
  go_enter Try.func29, Try.ntmps29
  have ho1 : (w.setCell ⟨B, 3, none⟩ (.int .i64 (by_ + s.size))).ownsRow base 5 1 v zs.length zs := ownsRow_setCell_other h.own h.ne _
  go_wp2_with (at_builtin; refine Go.Lib.wpList_append_own_string _ rfl (.tmp 24) (.tmp 25) 22 9 rfl base 5 i0 Try.underlying22 Try.underlying9 hi hz0 hz1 hz2 v zs.length zs rfl ho1 s rfl (by unfold maxLen; omega) (by omega) (by simp; omega) ?next)
  case next =>
    intro v' w1 hown1 hgrow1 _
    obtain ⟨a', n', k', rfl⟩ : ∃ a' n' k', v' = .slice a' n' k' := by
      rcases hown1.2 with ⟨hv, _⟩ | ⟨g, cap', _, hv, _⟩
      · exact ⟨_, _, _, hv⟩
      · exact ⟨_, _, _, hv⟩
    have b1 : w1.heap[B]? = some (.cells #[.int .u8 fm, v, .int .i64 mk, .int .i64 (by_ + s.size), .int .i64 st, .int .i64 dp, .pointer none, .int .i64 0, .pointer none, .slice none 0 0, .int .i64 0, .int .i64 0] 58 (0, 0)) := by
      rw [hgrow1.block B (by simpa using hlt) (fun e => h.ne e.symm), heap_setCell_same w B 3 _ _ _ h.blk]
      rfl
    have k1 : w1.cell? ⟨B, 1, none⟩ = some v := by rw [cell_of_row w1 B 1 _ _ _ b1]; rfl
    have e1 : w1.frozen? ⟨B, 1, none⟩ = false := by simp [World.frozen?, b1]
    have hne : (Value.slice a' n' k').ownBlock ≠ some B := by
      intro hh
      rcases hown1.2 with ⟨hv, _⟩ | ⟨g, cap', cur, hv, _, hg, _⟩
      · rw [hv] at hh; simp [Value.ownBlock] at hh
      · rw [hv] at hh
        simp [Value.ownBlock] at hh
        subst hh
        rw [b1] at hg
        simp at hg
    go_wp2
    go_end0
    refine ⟨rfl, .slice a' n' k', ⟨?_, hlow, ?_, ?_⟩, ?_⟩
    · rw [heap_setCell_same w1 B 1 _ _ _ b1]; rfl
    · have := ownsRow_setCell_other hown1 (a := ⟨B, 1, none⟩) hne (.slice a' n' k')
      rw [List.length_append, strCells_length]
      exact this
    · exact hne
    · exact ((((Below.refl base w).setCell (p := ⟨B, 3, none⟩) hlow _).grown hgrow1 (by simp; omega) (fun k hk => (h.own.lt k hk).1)).setCell (p := ⟨B, 1, none⟩) hlow _)

end Go.Proofs.Qxb6618519a
