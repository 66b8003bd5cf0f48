import Derived.Test.Qxb6618519aParts
namespace Go.Proofs.Qxb6618519a
open Go.RowKit
open Go.Lib (strCells strCells_length)

def wantB (s : ByteArray) : ByteArray := ⟨(wantL s.data.toList).toArray⟩

theorem wantB_yes {s : ByteArray} (h : opens s.data.toList = true) : wantB s = blank ++ s := by
  obtain ⟨d⟩ := s
  have : d = d.toList.toArray := by simp
  rw [this]
  show _ = (ByteArray.mk [32].toArray ++ ByteArray.mk d.toList.toArray)
  rw [ByteArray.mk_append_mk]
  unfold wantB wantL
  rw [if_pos (by simpa using h)]
  simp
theorem wantB_no {s : ByteArray} (h : opens s.data.toList = false) : wantB s = s := by
  obtain ⟨d⟩ := s
  simp only [wantB, wantL]
  rw [if_neg (by rw [h]; decide)]
theorem strCells_append (a b : ByteArray) : strCells (a ++ b) = strCells a ++ strCells b := by
  simp [strCells, ByteArray.data_append]
theorem size_blank : blank.size = 1 := rfl

set_option maxHeartbeats 400000 in
theorem spaced24 (w : World) (base B : Nat) (fm : Int) (v : Value) (zs : List Value) (mk by_ st dp : Int) (s : ByteArray) (h : Pr w base B fm v zs mk by_ st dp)
    (hb0 : 0 ≤ by_) (hb1 : by_ + s.size < 1048576) (hz : zs.length + s.size ≤ 2097152) :
    Calls Try.prog 24 #[.pointer (some ⟨B, 0, none⟩), .string s] w fun e w' => e = .returned (.tuple #[]) ∧ ∃ v', Pr w' base B fm v' (zs ++ strCells (wantB s)) mk (by_ + (wantB s).size) st dp ∧ Below base w w' := by
  by_cases ho : opens s.data.toList = true
  · go_enter Try.func24, Try.ntmps24
    go_wp2_with (go_at_call 28; refine (sp28 _ _).mono ?_; rintro e w' ⟨rfl, rfl⟩)
    refine (str29 _ base B fm v zs mk by_ st dp _ h hb0 (by show by_ + ((1 : Nat) : Int) ≤ _; omega) (by show _ + 1 ≤ _; omega)).mono ?_
    rintro e w1 ⟨rfl, v1, h1, hl1⟩
    go_wp2_with fail
    refine (str29 _ base B fm v1 _ mk _ st dp _ h1 (by omega) (by show by_ + ((1 : Nat) : Int) + _ ≤ _; omega) (by rw [List.length_append]; show _ + 1 + _ ≤ _; omega)).mono ?_
    rintro e w2 ⟨rfl, v2, h2, hl2⟩
    go_wp2
    go_end0
    refine ⟨rfl, v2, ?_, hl1.trans hl2⟩
    rw [wantB_yes ho, strCells_append, ← List.append_assoc, ByteArray.size_append, Int.natCast_add, ← Int.add_assoc]
    exact h2
  · have ho' : opens s.data.toList = false := by simpa using ho
    go_enter Try.func24, Try.ntmps24
    go_wp2_with (go_at_call 28; refine (sp28 _ _).mono ?_; rintro e w' ⟨rfl, rfl⟩)
    refine (str29 _ base B fm v zs mk by_ st dp _ h hb0 (by omega) (by omega)).mono ?_
    rintro e w1 ⟨rfl, v1, h1, hl1⟩
    go_wp2
    go_end0
    refine ⟨rfl, v1, ?_, hl1⟩
    rw [wantB_no ho']
    exact h1

set_option maxHeartbeats 400000 in
theorem spaced10 (w : World) (base B : Nat) (fm : Int) (v : Value) (zs : List Value) (mk by_ st dp : Int) (s : ByteArray) (h : Pr w base B fm v zs mk by_ st dp)
    (hb0 : 0 ≤ by_) (hb1 : by_ + s.size < 1048576) (hz : zs.length + s.size ≤ 2097152) :
    Calls Try.prog 10 #[.pointer (some ⟨B, 0, none⟩), .string s] w fun e w' => e = .returned (.tuple #[]) ∧ ∃ v', Pr w' base B fm v' (zs ++ strCells (wantB s)) mk (by_ + (wantB s).size) st dp ∧ Below base w w' := by
  go_enter Try.func10, Try.ntmps10
  go_wp2_with fail
  refine (spaced24 _ base B fm v zs mk by_ st dp _ h hb0 hb1 hz).mono ?_
  rintro e w1 ⟨rfl, v1, h1, hl1⟩
  go_wp2
  go_end0
  exact ⟨rfl, v1, h1, hl1⟩

set_option maxHeartbeats 400000 in
theorem new9 (w : World) (base : Nat) (fm : Int) (a : Option Addr) (l c : Nat) (zs : List Value) (mk by_ st dp : Int) (hlow : base ≤ w.heap.size) (ho : w.ownsRow base 5 1 (.slice a l c) zs.length zs) :
    Calls Try.prog 9 #[.int .u8 fm, .slice a l c, .int .i64 mk, .int .i64 by_, .int .i64 st, .int .i64 dp] w fun e w' => e = .returned (.pointer (some ⟨w.heap.size, 0, none⟩)) ∧
      Pr w' base w.heap.size fm (.slice a l c) zs mk by_ st dp ∧ Below w.heap.size w w' := by
  go_enter Try.func9, Try.ntmps9
  go_wp2
  go_ret
  refine ⟨rfl, ⟨?_, hlow, ho.alloc _, ?_⟩, (Below.refl _ _).alloc (Nat.le_refl _) _⟩
  · exact heap_alloc_new w _
  · intro hh
    have := (ho.lt _ hh).2
    omega

set_option maxHeartbeats 400000 in
theorem fields11 (w : World) (base B : Nat) (fm : Int) (v : Value) (zs : List Value) (mk by_ st dp : Int) (h : Pr w base B fm v zs mk by_ st dp) :
    Calls Try.prog 11 #[.pointer (some ⟨B, 0, none⟩)] w fun e w' => e = .returned (.tuple #[.int .u8 fm, v, .int .i64 mk, .int .i64 by_, .int .i64 st, .int .i64 dp]) ∧ Below w.heap.size w w' := by
  have c0 : w.cell? ⟨B, 0, none⟩ = some (.int .u8 fm) := by rw [cell_of_row w B 0 _ _ _ h.blk]; rfl
  have c1 : w.cell? ⟨B, 1, none⟩ = some v := by rw [cell_of_row w B 1 _ _ _ h.blk]; rfl
  have c2 : w.cell? ⟨B, 2, none⟩ = some (.int .i64 mk) := by rw [cell_of_row w B 2 _ _ _ h.blk]; rfl
  have c3 : w.cell? ⟨B, 3, none⟩ = some (.int .i64 by_) := by rw [cell_of_row w B 3 _ _ _ h.blk]; rfl
  have c4 : w.cell? ⟨B, 4, none⟩ = some (.int .i64 st) := by rw [cell_of_row w B 4 _ _ _ h.blk]; rfl
  have c5 : w.cell? ⟨B, 5, none⟩ = some (.int .i64 dp) := by rw [cell_of_row w B 5 _ _ _ h.blk]; rfl
  go_enter Try.func11, Try.ntmps11
  go_wp2
  go_quiet (fail)
  go_wp2
  refine bodyPost_ret (v := .tuple #[.int .u8 fm, v, .int .i64 mk, .int .i64 by_, .int .i64 st, .int .i64 dp]) (by simp [results, Try.results11, go_sem]) rfl ⟨rfl, ⟨rfl, rfl, rfl, Nat.le_refl _, fun _ _ => rfl⟩⟩

theorem ret_str {a b : ByteArray} (h : a = b) : Ending.returned (.string a) = .returned (.string b) := by rw [h]
set_option maxHeartbeats 400000 in
theorem want12 (s : ByteArray) (w : World) (hs : s.size ≤ 1048576) :
    Calls Try.prog 12 #[.string s] w fun e w' => e = .returned (.string (wantB s)) ∧ w' = w := by
  by_cases h0 : 0 < s.size
  · have ho := opens_of s h0
    have HO : Hid (opens s.data.toList = (!((s[0].toNat : Int) == 42) && !((s[0].toNat : Int) == 38) && !((s[0].toNat : Int) == 32))) := ho
    clear ho
    go_enter Try.func12, Try.ntmps12
    go_wp2
    all_goals go_ret
    · rename_i h
      exact ⟨ret_str (wantB_no (by rw [HO.out, h]; rfl)).symm, rfl⟩
    · rename_i h
      exact ⟨ret_str (wantB_no (by rw [HO.out, h]; rfl)).symm, rfl⟩
    · rename_i h
      exact ⟨ret_str (wantB_no (by rw [HO.out]; rcases h with (h | h) | h <;> simp [h])).symm, rfl⟩
    · rename_i h1 h2 h3
      exact ⟨ret_str (wantB_yes (by rw [HO.out]; simp [*])).symm, rfl⟩
  · have hz : (s.size : Int) = 0 := by omega
    have h1 : s.toList = [] := by
      rw [ByteArray.toList_eq]
      apply List.eq_nil_of_length_eq_zero
      rw [← size_eq]; omega
    go_enter Try.func12, Try.ntmps12
    go_wp2
    go_ret
    refine ⟨ret_str ?_, rfl⟩
    rw [wantB_no (opens_none s h1)]
    apply ByteArray.ext
    rw [ByteArray.toList_eq] at h1
    apply Array.ext'
    rw [h1]

end Go.Proofs.Qxb6618519a
