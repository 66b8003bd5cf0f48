import Derived.Test.Qxb6618519aDecides
import Derived.Test.Qxb6618519aCopy
namespace Go.Proofs.Qxb6618519a
open Go.RowKit
open Go.Lib (strCells strCells_length)

/-- WHAT THE WALK IS TOLD OF A SLICE OF INTEGERS THAT CAME IN: it is nil; or it leads to a row of 'cap' cells, the numbers 'zs' (the first 'len' are its elements, the rest its spare room), each fitting its kind. -/
def IsRow (k : IntKind) (w : World) (a : Option Addr) (len cap : Nat) (zs : List Int) : Prop :=
  (a = none ∧ len = 0 ∧ cap = 0 ∧ zs = []) ∨
  ∃ x, a = some x ∧ len ≤ cap ∧ cap ≤ maxLen ∧ zs.length = cap ∧ (∀ i, i < zs.length → w.cell? (x.add i) = some (.int k (zs.getD i 0))) ∧ ∀ n ∈ zs, (Lit.int k n).wf = true

theorem u8s_get (zs : List Int) (j : Nat) (h : j < zs.length) : (u8s zs)[j]? = some (.int .u8 (zs.getD j 0)) := by
  simp [u8s, List.getD, List.getElem?_eq_getElem h]

theorem own_cells {w : World} {base : Nat} {g n c : Nat} {zs : List Int} {r : List Value} (h : w.ownsRow base 5 1 (.slice (some ⟨g, 0, none⟩) n c) n (u8s zs ++ r)) : ∀ j, j < zs.length → w.cell? ⟨g, j, none⟩ = some (.int .u8 (zs.getD j 0)) := by
  intro j hj
  have hn := h.1
  rw [List.length_append] at hn
  have hl : (u8s zs).length = zs.length := by simp [u8s]
  rw [h.cellAt j (by omega), List.getElem?_append_left (by omega)]
  exact u8s_get zs j hj

theorem own_tail {w : World} {base : Nat} {g n c : Nat} {zs : List Int} {s : ByteArray} (h : w.ownsRow base 5 1 (.slice (some ⟨g, 0, none⟩) n c) n (u8s zs ++ strCells s)) : ∀ j (hj : j < s.size), w.cell? ⟨g, zs.length + j, none⟩ = some (.int .u8 (s[j].toNat : Int)) := by
  intro j hj
  have hn := h.1
  have hl : (u8s zs).length = zs.length := by simp [u8s]
  rw [List.length_append, hl, strCells_length] at hn
  rw [h.cellAt _ (by omega), List.getElem?_append_right (by omega), hl, Nat.add_sub_cancel_left]
  rw [strCells_get s j (by rw [← size_eq]; exact hj)]
  rfl

theorem copy8 (w : World) (a : Option Addr) (len cap : Nat) (z : List Int) (h : IsRow .u8 w a len cap z) (hl : len ≤ 1048576) :
    Calls Try.prog 8 #[.slice a len cap] w fun e w' => ∃ v, e = .returned v ∧ w'.ownsRow w.heap.size 5 1 v (z.take len).length (u8s (z.take len)) ∧ Below w.heap.size w w' := by
  rcases h with ⟨rfl, rfl, rfl, rfl⟩ | ⟨x, rfl, h1, h2, h3, h4, _⟩
  · exact (copy8_nil w).mono (by rintro e w' ⟨rfl, rfl⟩; exact ⟨_, rfl, World.ownsRow_nil _ _ _ _, Below.refl _ _⟩)
  · by_cases h0 : len = 0
    · subst h0
      exact (copy8_zero w x cap).mono (by rintro e w' ⟨v, rfl, ho, _, hb⟩; exact ⟨v, rfl, by simpa [u8s] using ho, hb⟩)
    · obtain ⟨b, off, sp⟩ := x
      have hsp : sp = none := by
        have := h4 0 (by omega)
        cases sp with
        | none => rfl
        | some q => simp [World.cell?, Addr.add] at this; split at this <;> simp_all
      subst hsp
      have hb : b < w.heap.size := World.block_lt_of_cell? w _ (h4 0 (by omega))
      have hlen : (z.take len).length = len := by rw [List.length_take]; omega
      have := copy8_some w b off cap (z.take len) (by omega) hb (fun j hj => by
        have := h4 j (by omega)
        rw [Addr.add_lit] at this
        rw [this]
        simp [List.getD, show j < len by omega])
      rw [hlen] at this
      exact this.mono (by rintro e w' ⟨v, rfl, ho, _, hb⟩; exact ⟨v, rfl, by rw [hlen]; exact ho, hb⟩)

theorem copy8_own {w : World} {base : Nat} {v : Value} {zs : List Int} (h : w.ownsRow base 5 1 v zs.length (u8s zs)) (hl : zs.length ≤ 1048576) :
    Calls Try.prog 8 #[v] w fun e w' => ∃ v, e = .returned v ∧ w'.ownsRow w.heap.size 5 1 v zs.length (u8s zs) ∧ Below w.heap.size w w' := by
  rcases h.2 with ⟨rfl, h0⟩ | ⟨g, cap, cur, rfl, hb, hg, hnc, hcm, hcs, htake⟩
  · obtain rfl := List.eq_nil_of_length_eq_zero h0
    exact (copy8_nil w).mono (by rintro e w' ⟨rfl, rfl⟩; exact ⟨_, rfl, World.ownsRow_nil _ _ _ _, Below.refl _ _⟩)
  · have hc := own_cells (r := []) (by simpa using h)
    exact (copy8_some w g 0 cap zs hl (lt_of_block hg) (fun j hj => by rw [Nat.zero_add]; exact hc j hj)).mono (by rintro e w' ⟨v, rfl, ho, _, hb⟩; exact ⟨v, rfl, ho, hb⟩)

theorem join13 {w : World} {base base' : Nat} {v v' : Value} {zs : List Int} {s : ByteArray} {n : Nat} (h : w.ownsRow base 5 1 v n (u8s zs ++ strCells s)) (h' : w.ownsRow base' 5 1 v' zs.length (u8s zs)) (hl : zs.length ≤ 1048576) (hs : s.size ≤ 1048576) :
    Calls Try.prog 13 #[v, v', .string s] w fun e w' => e = .returned (.bool true) ∧ Below w.heap.size w w' := by
  have hn : n = zs.length + s.size := by
    have := h.1
    have hl : (u8s zs).length = zs.length := by simp [u8s]
    rw [List.length_append, hl, strCells_length] at this
    omega
  subst hn
  rcases h.2 with ⟨rfl, h0⟩ | ⟨g, cap, cur, rfl, hb, hg, hnc, hcm, hcs, htake⟩
  · have hz : zs.length = 0 := by omega
    rcases h'.2 with ⟨rfl, _⟩ | ⟨g2, cap2, cur2, rfl, _⟩
    · exact join13_a w none none 0 0 s (by omega)
    · rw [hz]; exact join13_a w none _ 0 _ s (by omega)
  · rcases h'.2 with ⟨rfl, h0⟩ | ⟨g2, cap2, cur2, rfl, _⟩
    · have ht := own_tail h
      rw [h0, Nat.zero_add]
      exact join13_b w none g cap 0 s hs (fun j hj => by have := ht j hj; rw [h0, Nat.zero_add] at this; exact this)
    · exact join13_c w g g2 cap cap2 zs s hs hl (own_cells h) (own_cells (r := []) (by simpa using h')) (own_tail h)

set_option maxHeartbeats 400000 in
theorem zz7_yes (f mk by_ st dp : Int) (a : Option Addr) (len cap : Nat) (s : ByteArray) (w : World) (h : len + s.size ≤ 1048576) :
    Calls Try.prog 7 #[.int .u8 f, .slice a len cap, .int .i64 mk, .int .i64 by_, .int .i64 st, .int .i64 dp, .string s] w fun e w' => e = .returned (.bool true) ∧ w' = w := by
  go_enter Try.func7, Try.ntmps7
  go_wp2
  go_ret
  exact ⟨rfl, rfl⟩

set_option maxHeartbeats 400000 in
theorem zz7_no (f mk by_ st dp : Int) (a : Option Addr) (len cap : Nat) (s : ByteArray) (w : World) (h : ¬ len + s.size ≤ 1048576) (ha : len ≤ maxLen) (hb : s.size ≤ maxLen) :
    Calls Try.prog 7 #[.int .u8 f, .slice a len cap, .int .i64 mk, .int .i64 by_, .int .i64 st, .int .i64 dp, .string s] w fun e w' => e = .returned (.bool false) ∧ w' = w := by
  unfold maxLen at ha hb
  by_cases h1 : len ≤ 1048576
  · by_cases h2 : s.size ≤ 1048576
    · go_enter Try.func7, Try.ntmps7
      go_wp2
      go_ret
      exact ⟨rfl, rfl⟩
    · go_enter Try.func7, Try.ntmps7
      go_wp2
      go_ret
      exact ⟨rfl, rfl⟩
  · go_enter Try.func7, Try.ntmps7
    go_wp2
    go_ret
    exact ⟨rfl, rfl⟩

end Go.Proofs.Qxb6618519a
