import Derived.Test.Qxb6618596aAny
namespace Go.Proofs.Qxb6618596a
open Go.RowKit

theorem info27 : (Try.prog.info? 27).map (fun i => (i.zero, i.size, i.bytes)) = some (some (.agg #[.int .u8 0, .string ⟨#[]⟩, .slice none 0 0, .bool false]), 4, 56) := by kernel_rfl

/-- The four cells of the query of one literal. -/
def qc (s : ByteArray) : List Value := [.int .u8 2, .string s, .slice none 0 0, .bool false]
def qcells (ls : List ByteArray) : List Value := ls.flatMap qc

theorem qcells_len (ls : List ByteArray) : (qcells ls).length = ls.length * 4 := by
  induction ls with
  | nil => rfl
  | cons a t ih => simp only [qcells, List.flatMap_cons, List.length_append] at *; rw [ih]; simp [qc]; omega
theorem qcells_get (ls : List ByteArray) : ∀ (k : Nat) (h : k < ls.length) (j : Nat), j < 4 → (qcells ls)[k * 4 + j]? = (qc ls[k])[j]? := by
  induction ls with
  | nil => intro k h; simp at h
  | cons a t ih =>
    intro k h j hj
    have e : qcells (a :: t) = qc a ++ qcells t := rfl
    rw [e]
    cases k with
    | zero =>
      rw [List.getElem?_append_left (by simp [qc]; omega)]
      simp
    | succ k =>
      rw [List.getElem?_append_right (by simp [qc]; omega)]
      have : (k + 1) * 4 + j - (qc a).length = k * 4 + j := by simp [qc]; omega
      rw [this]
      simpa using ih k (by simpa using h) j hj
theorem qcells_snoc (ls : List ByteArray) (k : Nat) (h : k < ls.length) : qcells (ls.take (k + 1)) = qcells (ls.take k) ++ qc ls[k] := by
  rw [List.take_succ_eq_append_getElem h]
  simp only [qcells, List.flatMap_append, List.flatMap_cons, List.flatMap_nil, List.append_nil]

/-- What 'join' answers for the queries of the literals ls. -/
def IsOr (w : World) (base : Nat) (ls : List ByteArray) (q : Value) : Prop :=
  (ls = [] ∧ q = .agg #[.int .u8 1, .string ⟨#[]⟩, .slice none 0 0, .bool false]) ∨
  (∃ s, ls = [s] ∧ q = .agg #[.int .u8 2, .string s, .slice none 0 0, .bool false]) ∨
  (∃ a c, 2 ≤ ls.length ∧ q = .agg #[.int .u8 4, .string ⟨#[]⟩, .slice a ls.length c, .bool false] ∧ w.ownsRow base 27 4 (.slice a ls.length c) ls.length (qcells ls))

theorem ownsRow_base {w : World} {base base' : Nat} {e : TypeId} {size : Nat} {v : Value} {n : Nat} {xs : List Value} (h : w.ownsRow base e size v n xs) (hb : base' ≤ base) : w.ownsRow base' e size v n xs := by
  refine ⟨h.1, ?_⟩
  rcases h.2 with h2 | ⟨g, cap, cur, hv, hg, r⟩
  · exact .inl h2
  · exact .inr ⟨g, cap, cur, hv, Nat.le_trans hb hg, r⟩
theorem ownsRow_len {w : World} {base : Nat} {e : TypeId} {size : Nat} {a : Option Addr} {m c : Nat} {n : Nat} {xs : List Value} (h : w.ownsRow base e size (.slice a m c) n xs) : m = n := by
  rcases h.2 with ⟨hv, h0⟩ | ⟨g, cap, cur, hv, _⟩
  · simp only [Value.slice.injEq] at hv; omega
  · simp only [Value.slice.injEq] at hv; omega
theorem ownsRow_form {w : World} {base : Nat} {e : TypeId} {size : Nat} {v : Value} {n : Nat} {xs : List Value} (h : w.ownsRow base e size v n xs) : ∃ a c, v = .slice a n c := by
  rcases h.2 with ⟨hv, h0⟩ | ⟨g, cap, cur, hv, _⟩
  · exact ⟨_, _, by rw [hv, h0]⟩
  · exact ⟨_, _, hv⟩

theorem below4 {B : Nat} {a w : World} (h : Below B a w) {b : Nat} (hb : B ≤ b) (o0 o1 o2 o3 : Nat) (v0 v1 v2 v3 : Value) :
    Below B a ((((w.setCell ⟨b, o0, none⟩ v0).setCell ⟨b, o1, none⟩ v1).setCell ⟨b, o2, none⟩ v2).setCell ⟨b, o3, none⟩ v3) :=
  (((h.setCell (p := ⟨b, o0, none⟩) hb v0).setCell (p := ⟨b, o1, none⟩) hb v1).setCell (p := ⟨b, o2, none⟩) hb v2).setCell (p := ⟨b, o3, none⟩) hb v3
theorem own4 {w : World} {base : Nat} {e : TypeId} {size : Nat} {v : Value} {n : Nat} {xs : List Value} (h : w.ownsRow base e size v n xs) {b : Nat} (hb : b < base) (o0 o1 o2 o3 : Nat) (v0 v1 v2 v3 : Value) :
    ((((w.setCell ⟨b, o0, none⟩ v0).setCell ⟨b, o1, none⟩ v1).setCell ⟨b, o2, none⟩ v2).setCell ⟨b, o3, none⟩ v3).ownsRow base e size v n xs :=
  ownsRow_setCell_below (ownsRow_setCell_below (ownsRow_setCell_below (ownsRow_setCell_below h (a := ⟨b, o0, none⟩) hb v0) (a := ⟨b, o1, none⟩) hb v1) (a := ⟨b, o2, none⟩) hb v2) (a := ⟨b, o3, none⟩) hb v3

set_option maxHeartbeats 1000000 in
theorem join27 (v : Value) (ls : List ByteArray) (w : World) (h : w.ownsRow 0 27 4 v ls.length (qcells ls)) (hl : ls.length ≤ 262144) :
    Calls Try.prog 27 #[.int .u8 4, .int .u8 1, .int .u8 0, v] w fun e w' => ∃ q, e = .returned q ∧ IsOr w' w.heap.size ls q ∧ Below w.heap.size w w' := by
  obtain ⟨i0, hi, hz0, hz1, hz2⟩ := info_parts info27
  obtain ⟨ao, c, rfl⟩ := ownsRow_form h
  go_enter Try.func27, Try.ntmps27
  go_wp2
  go_loopw [9, 10, 15] (fun sv fv i wr => ∃ k : Nat, k ≤ ls.length ∧ i = .int .i64 k ∧ fv = .bool false ∧ (∃ a c, sv = .slice a k c) ∧ wr.ownsRow (w.heap.size + 1) 27 4 sv k (qcells (ls.take k)) ∧
      wr.heap[w.heap.size]? = some (.cells #[.int .u8 0, .string ⟨#[]⟩, .slice none 0 0, .bool false] 27 (0, 0)) ∧ Below w.heap.size w wr) (fun _ _ i _ => ls.length - (intOf i).toNat)
  case atStart =>
    refine ⟨0, Nat.zero_le _, rfl, rfl, ⟨_, _, rfl⟩, World.ownsRow_nil _ _ _ _, heap_alloc_new w _, (Below.refl _ _).alloc (Nat.le_refl _) _⟩
  case round =>
    obtain ⟨k, hk, rfl, rfl, ⟨a1, c1, rfl⟩, ho, hr, hbe⟩ := hrel
    by_cases hlt : k < ls.length
    · obtain ⟨g, rfl, hg⟩ : ∃ g, ao = some ⟨g, 0, none⟩ ∧ g < w.heap.size := by
        rcases h.2 with ⟨hv, h0⟩ | ⟨g, cap', cur, hv, _, hg, _⟩
        · omega
        · simp only [Value.slice.injEq] at hv
          exact ⟨g, hv.1, lt_of_block hg⟩
      have hcell : ∀ j, j < 4 → wr.cell? ⟨g, k * 4 + j, none⟩ = (qc ls[k])[j]? := by
        intro j hj
        rw [hbe.cell (p := ⟨g, k * 4 + j, none⟩) hg, h.cellAt _ (by omega)]
        exact qcells_get ls k hlt j hj
      have d0 : wr.cell? ⟨g, k * 4, none⟩ = some (.int .u8 2) := hcell 0 (by omega)
      have d1 : wr.cell? ⟨g, k * 4 + 1, none⟩ = some (.string ls[k]) := hcell 1 (by omega)
      have d2 : wr.cell? ⟨g, k * 4 + 2, none⟩ = some (.slice none 0 0) := hcell 2 (by omega)
      have d3 : wr.cell? ⟨g, k * 4 + 3, none⟩ = some (.bool false) := hcell 3 (by omega)
      clear hcell
      have hlow : ∀ q, (Value.slice a1 k c1).ownBlock = some q → w.heap.size + 1 ≤ q ∧ q < wr.heap.size := ho.lt
      have hsz : w.heap.size + 1 ≤ wr.heap.size := lt_of_block hr
      go_wp2_with (at_builtin; refine wpList_append_own _ rfl (.tmp 21) (.tmp 23) 25 rfl (w.heap.size + 1) 27 i0 _ 4 56 Try.underlying25 hi hz0 hz1 hz2 rfl (by decide) _ k (qcells (ls.take k)) rfl ((ho.alloc _).alloc _) ⟨wr.heap.size + 1, 0, none⟩ 1 1 (qc ls[k]) rfl rfl ?cells ?one (by unfold maxLen; omega) (by omega) (by simp; omega) ?next)
      case cells =>
        intro j u hj
        match j, hj with
        | 0, hj => simp [qc] at hj; subst hj; simp [Addr.add]
        | 1, hj => simp [qc] at hj; subst hj; simp [Addr.add]
        | 2, hj => simp [qc] at hj; subst hj; simp [Addr.add]
        | 3, hj => simp [qc] at hj; subst hj; simp [Addr.add]
      case one =>
        intro u hu
        simp [qc] at hu
        rcases hu with rfl | rfl | rfl | rfl <;> rfl
      case next =>
        intro v' w1 hown1 hgrow1 _
        obtain ⟨a2, c2, rfl⟩ := ownsRow_form hown1
        have hq : w1.cell? ⟨wr.heap.size, 3, none⟩ = some (.bool false) := by
          refine hgrow1.cell (a := ⟨wr.heap.size, 3, none⟩) (by simp) (fun e => ?_)
          have := (hlow _ e.symm).2
          exact absurd this (Nat.lt_irrefl _)
        have hr1 : w1.heap[w.heap.size]? = some (.cells #[.int .u8 0, .string ⟨#[]⟩, .slice none 0 0, .bool false] 27 (0, 0)) := by
          rw [hgrow1.block w.heap.size (by simp; omega) (fun e => by have := (hlow _ e.symm).1; omega), Below.heap_alloc _ _ _ (by simp; omega), Below.heap_alloc _ _ _ (by omega)]
          exact hr
        have hbe1 : Below w.heap.size w w1 := ((hbe.alloc hbe.size _).alloc (Nat.le_trans hbe.size (by simp)) _).grown hgrow1 (by simp; omega) (fun q hq => by have := (hlow q hq).1; omega)
        rw [← qcells_snoc ls k hlt] at hown1
        go_wp2
        go_roundw
        case rel => exact ⟨k + 1, by omega, by go_num, rfl, ⟨_, _, rfl⟩, hown1, hr1, hbe1⟩
        case measure => simp [intOf]; omega
    · have hk' : k = ls.length := by omega
      subst hk'
      rw [List.take_of_length_le (Nat.le_refl _)] at ho
      have r0 : wr.cell? ⟨w.heap.size, 0, none⟩ = some (.int .u8 0) := by rw [cell_of_row wr _ 0 _ _ _ hr]; rfl
      have r1 : wr.cell? ⟨w.heap.size, 1, none⟩ = some (.string ⟨#[]⟩) := by rw [cell_of_row wr _ 1 _ _ _ hr]; rfl
      have r2 : wr.cell? ⟨w.heap.size, 2, none⟩ = some (.slice none 0 0) := by rw [cell_of_row wr _ 2 _ _ _ hr]; rfl
      have r3 : wr.cell? ⟨w.heap.size, 3, none⟩ = some (.bool false) := by rw [cell_of_row wr _ 3 _ _ _ hr]; rfl
      have f0 : wr.frozen? ⟨w.heap.size, 0, none⟩ = false := by simp [World.frozen?, hr]
      have f1 : wr.frozen? ⟨w.heap.size, 1, none⟩ = false := by simp [World.frozen?, hr]
      have f2 : wr.frozen? ⟨w.heap.size, 2, none⟩ = false := by simp [World.frozen?, hr]
      have f3 : wr.frozen? ⟨w.heap.size, 3, none⟩ = false := by simp [World.frozen?, hr]
      by_cases h0 : ls.length = 0
      · have e0 : ((ls.length : Int) == 0) = true := by rw [h0]; rfl
        have HL : Hid (ls = []) := List.eq_nil_of_length_eq_zero h0
        clear h0
        go_wp2
        refine bodyPost_ret (v := .agg #[.int .u8 1, .string ⟨#[]⟩, .slice none 0 0, .bool false]) (by simp [results, Try.results27, go_sem, r0, r1, r2, r3]) rfl ⟨_, rfl, .inl ⟨HL.out, rfl⟩, ?_⟩
        exact below4 hbe (Nat.le_refl _) _ _ _ _ _ _ _ _
      · have e0 : ((ls.length : Int) == 0) = false := beq_eq_false_iff_ne.2 (by omega)
        by_cases h1 : ls.length = 1
        · have e1 : ((ls.length : Int) == 1) = true := by rw [h1]; rfl
          obtain ⟨s, rfl⟩ : ∃ s, ls = [s] := List.length_eq_one_iff.1 h1
          obtain ⟨g1, rfl, hg1⟩ : ∃ g1, a1 = some ⟨g1, 0, none⟩ ∧ w.heap.size + 1 ≤ g1 := by
            rcases ho.2 with ⟨hv, h0⟩ | ⟨g, cap', cur, hv, hg, _⟩
            · simp at h0
            · simp only [Value.slice.injEq] at hv
              exact ⟨g, hv.1, hg⟩
          have d0 : wr.cell? ⟨g1, 0, none⟩ = some (.int .u8 2) := ho.cellAt 0 (by show _ < 4; omega)
          have d1 : wr.cell? ⟨g1, 1, none⟩ = some (.string s) := ho.cellAt 1 (by show _ < 4; omega)
          have d2 : wr.cell? ⟨g1, 2, none⟩ = some (.slice none 0 0) := ho.cellAt 2 (by show _ < 4; omega)
          have d3 : wr.cell? ⟨g1, 3, none⟩ = some (.bool false) := ho.cellAt 3 (by show _ < 4; omega)
          have z3 : wr.frozen? ⟨g1, 3, none⟩ = false := ho.frozenAt 3
          have hne' : ¬ g1 = w.heap.size := by omega
          go_wp2
          refine bodyPost_ret (v := .agg #[.int .u8 2, .string s, .slice none 0 0, .bool false]) (by simp [results, Try.results27, go_sem, r0, r1, r2, r3]) rfl ⟨_, rfl, .inr (.inl ⟨s, rfl, rfl⟩), ?_⟩
          exact below4 (hbe.setCell (p := ⟨g1, 3, none⟩) (Nat.le_of_succ_le hg1) _) (Nat.le_refl _) _ _ _ _ _ _ _ _
        · have e1 : ((ls.length : Int) == 1) = false := beq_eq_false_iff_ne.2 (by omega)
          go_wp2
          refine bodyPost_ret (v := .agg #[.int .u8 4, .string ⟨#[]⟩, .slice a1 ls.length c1, .bool false]) (by simp [results, Try.results27, go_sem, r0, r1, r2, r3]) rfl ⟨_, rfl, .inr (.inr ⟨a1, c1, by omega, rfl, ?_⟩), ?_⟩
          · refine ownsRow_base (base := w.heap.size + 1) ?_ (Nat.le_succ _)
            exact own4 ho (Nat.lt_succ_self _) _ _ _ _ _ _ _ _
          · exact below4 hbe (Nat.le_refl _) _ _ _ _ _ _ _ _

theorem IsOr.form {w : World} {base : Nat} {ls : List ByteArray} {q : Value} (h : IsOr w base ls q) : ∃ o l a n c, q = .agg #[.int .u8 o, .string l, .slice a n c, .bool false] := by
  rcases h with ⟨_, rfl⟩ | ⟨s, _, rfl⟩ | ⟨a, c, _, rfl, _⟩
  · exact ⟨_, _, _, _, _, rfl⟩
  · exact ⟨_, _, _, _, _, rfl⟩
  · exact ⟨_, _, _, _, _, rfl⟩
theorem IsOr.store4 {w : World} {base : Nat} {ls : List ByteArray} {q : Value} (h : IsOr w base ls q) {b base' : Nat} (hb : b < base) (hB : base' ≤ base) (o0 o1 o2 o3 : Nat) (v0 v1 v2 v3 : Value) :
    IsOr ((((w.setCell ⟨b, o0, none⟩ v0).setCell ⟨b, o1, none⟩ v1).setCell ⟨b, o2, none⟩ v2).setCell ⟨b, o3, none⟩ v3) base' ls q := by
  rcases h with h | h | ⟨a, c, h1, h2, h3⟩
  · exact .inl h
  · exact .inr (.inl h)
  · exact .inr (.inr ⟨a, c, h1, h2, ownsRow_base (own4 h3 hb _ _ _ _ _ _ _ _) hB⟩)

set_option maxHeartbeats 400000 in
theorem or25 (v : Value) (ls : List ByteArray) (w : World) (h : w.ownsRow 0 27 4 v ls.length (qcells ls)) (hl : ls.length ≤ 262144) :
    Calls Try.prog 25 #[v] w fun e w' => ∃ q, e = .returned q ∧ IsOr w' w.heap.size ls q ∧ Below w.heap.size w w' := by
  obtain ⟨ao, c, rfl⟩ := ownsRow_form h
  go_enter Try.func25, Try.ntmps25
  go_wp2_with fail
  refine (join27 _ ls _ (h.alloc _) hl).mono ?_
  rintro e w1 ⟨q, rfl, hq, hb⟩
  have hb1 : Below w.heap.size w w1 := ((Below.refl _ _).alloc (Nat.le_refl _) _).trans (hb.mono (by simp))
  have hr : w1.heap[w.heap.size]? = some (.cells #[.int .u8 0, .string ⟨#[]⟩, .slice none 0 0, .bool false] 27 (0, 0)) := by
    rw [hb.block w.heap.size (by simp)]
    exact heap_alloc_new w _
  have hq' : IsOr w1 (w.heap.size + 1) ls q := by simpa using hq
  obtain ⟨o, l, a2, n2, c2, rfl⟩ := hq.form
  have r0 : w1.cell? ⟨w.heap.size, 0, none⟩ = some (.int .u8 0) := by rw [cell_of_row w1 _ 0 _ _ _ hr]; rfl
  have r1 : w1.cell? ⟨w.heap.size, 1, none⟩ = some (.string ⟨#[]⟩) := by rw [cell_of_row w1 _ 1 _ _ _ hr]; rfl
  have r2 : w1.cell? ⟨w.heap.size, 2, none⟩ = some (.slice none 0 0) := by rw [cell_of_row w1 _ 2 _ _ _ hr]; rfl
  have r3 : w1.cell? ⟨w.heap.size, 3, none⟩ = some (.bool false) := by rw [cell_of_row w1 _ 3 _ _ _ hr]; rfl
  have f0 : w1.frozen? ⟨w.heap.size, 0, none⟩ = false := by simp [World.frozen?, hr]
  have f1 : w1.frozen? ⟨w.heap.size, 1, none⟩ = false := by simp [World.frozen?, hr]
  have f2 : w1.frozen? ⟨w.heap.size, 2, none⟩ = false := by simp [World.frozen?, hr]
  have f3 : w1.frozen? ⟨w.heap.size, 3, none⟩ = false := by simp [World.frozen?, hr]
  clear hq
  go_wp2
  refine bodyPost_ret (v := .agg #[.int .u8 o, .string l, .slice a2 n2 c2, .bool false]) (by simp [results, Try.results25, go_sem, r0, r1, r2, r3]) rfl ⟨_, rfl, ?_, ?_⟩
  · exact hq'.store4 (Nat.lt_succ_self _) (Nat.le_succ _) _ _ _ _ _ _ _ _
  · exact below4 hb1 (Nat.le_refl _) _ _ _ _ _ _ _ _

end Go.Proofs.Qxb6618596a
