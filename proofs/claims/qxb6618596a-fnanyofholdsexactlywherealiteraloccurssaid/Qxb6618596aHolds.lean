import Derived.Test.Qxb6618596aLeaves
namespace Go.Proofs.Qxb6618596a
open Go.RowKit

/-- Is one of the literals empty? -/
def hasE (ls : List ByteArray) : Bool := ls.any (fun s => s.size == 0)
theorem hasE_true {ls : List ByteArray} (h : hasE ls = true) : ∃ s ∈ ls, s.size = 0 := by
  unfold hasE at h
  rw [List.any_eq_true] at h
  obtain ⟨s, hs, h0⟩ := h
  exact ⟨s, hs, eq_of_beq h0⟩
theorem hasE_false {ls : List ByteArray} (h : hasE ls = false) : ∀ s ∈ ls, s.size ≠ 0 := by
  intro s hs h0
  unfold hasE at h
  have : ls.any (fun s => s.size == 0) = true := List.any_eq_true.2 ⟨s, hs, by rw [h0]; rfl⟩
  rw [h] at this
  cases this
theorem hasE_succ {ls : List ByteArray} {k : Nat} (hk : k < ls.length) : hasE (ls.take (k + 1)) = (hasE (ls.take k) || (ls[k].size == 0)) := by
  unfold hasE
  rw [List.take_succ_eq_append_getElem hk, List.any_append]
  simp

theorem QAny.below {B : Nat} {w w' : World} {base : Nat} {ls : List ByteArray} {q : Value} (h : QAny w base ls q) (hb : Below B w w') (hB : w.heap.size ≤ B) : QAny w' base ls q := by
  rcases h with h | ⟨h1, h | h | ⟨a, c, h2, h3, ho⟩⟩
  · exact .inl h
  · exact .inr ⟨h1, .inl h⟩
  · exact .inr ⟨h1, .inr (.inl h)⟩
  · refine .inr ⟨h1, .inr (.inr ⟨a, c, h2, h3, ho.1, ?_⟩)⟩
    rcases ho.2 with h2 | ⟨g, cap, cur, hv, hg, hh, r⟩
    · exact .inl h2
    · refine .inr ⟨g, cap, cur, hv, hg, ?_, r⟩
      rw [hb.block g (Nat.lt_of_lt_of_le (lt_of_block hh) hB)]
      exact hh

/-- What the leaves of AnyOf's query are. -/
theorem leaves11 (ls : List ByteArray) (base : Nat) (q : Value) (w : World) (hl : ls.length ≤ 262144) (h : QAny w base ls q) :
    Calls Try.prog 11 #[q, .slice none 0 0] w fun e w' => ∃ v', e = .returned (.tuple #[v', .bool true]) ∧ (v' = .slice none 0 0 ∧ hasE ls = true ∨ hasE ls = false ∧ SOwn w' v' ls) ∧ Below w.heap.size w w' := by
  rcases h with ⟨⟨s, hs, h0⟩, rfl⟩ | ⟨hne, h⟩
  · have : hasE ls = true := List.any_eq_true.2 ⟨s, hs, by rw [h0]; rfl⟩
    exact (leaves11_all w).mono (by rintro e w' ⟨rfl, hb⟩; exact ⟨_, rfl, .inl ⟨rfl, this⟩, hb⟩)
  · have hf : hasE ls = false := by
      cases hb : hasE ls with
      | false => rfl
      | true =>
        obtain ⟨s, hs, h0⟩ := hasE_true hb
        exact absurd h0 (hne s hs)
    rcases h with ⟨rfl, rfl⟩ | ⟨s, rfl, rfl⟩ | ⟨a, c, h2, rfl, ho⟩
    · exact (leaves11_none w).mono (by rintro e w' ⟨rfl, hb⟩; exact ⟨_, rfl, .inr ⟨hf, World.ownsRow_nil _ _ _ _⟩, hb⟩)
    · exact (leaves11_lit s (.slice none 0 0) [] w.heap.size w (by simp) (World.ownsRow_nil _ _ _ _) (Nat.le_refl _)).mono (by
        rintro e w' ⟨v', rfl, ho, hb⟩
        exact ⟨_, rfl, .inr ⟨hf, ownsRow_base ho (Nat.zero_le _)⟩, hb⟩)
    · exact (leaves11_or ls a c base w h2 hl ho).mono (by
        rintro e w' ⟨v', rfl, ho, hb⟩
        exact ⟨_, rfl, .inr ⟨hf, ownsRow_base ho (Nat.zero_le _)⟩, hb⟩)

set_option maxHeartbeats 400000 in
theorem same12 (v1 v2 : Value) (ls : List ByteArray) (w : World) (hl : ls.length ≤ 262144) (h1 : SOwn w v1 ls) (h2 : SOwn w v2 ls) :
    Calls Try.prog 12 #[v1, v2] w fun e w' => e = .returned (.bool true) ∧ Below w.heap.size w w' := by
  obtain ⟨a1, c1, rfl⟩ := h1.slice
  obtain ⟨a2, c2, rfl⟩ := h2.slice
  go_enter Try.func12, Try.ntmps12
  go_wp2
  go_loopw [5] (fun i wr => ∃ k : Nat, k ≤ ls.length ∧ i = .int .i64 k ∧ Below w.heap.size w wr) (fun i _ => ls.length - (intOf i).toNat)
  case atStart => exact ⟨0, Nat.zero_le _, rfl, Below.refl _ _⟩
  case round =>
    obtain ⟨k, hk, rfl, hbe⟩ := hrel
    by_cases hlt : k < ls.length
    · obtain ⟨g1, rfl, hg1, hc1⟩ := h1.at hlt
      obtain ⟨g2, rfl, hg2, hc2⟩ := h2.at hlt
      have d1 := (hbe.cell (p := ⟨g1, k, none⟩) hg1).trans hc1
      have d2 := (hbe.cell (p := ⟨g2, k, none⟩) hg2).trans hc2
      clear hc1 hc2
      go_wp2
      go_quiet (fail)
      go_wp2
      go_roundw
      case rel => exact ⟨k + 1, by omega, by go_num, below_drewN hbe _⟩
      case measure => simp [intOf]; omega
    · go_wp2
      go_ret
      exact ⟨rfl, hbe⟩

set_option maxRecDepth 100000 in
set_option maxHeartbeats 4000000 in
theorem law3_yes (a : Option Addr) (ca : Nat) (sa A : List ByteArray) (t : ByteArray) (w : World) (ha : IsStrs w a A.length ca sa)
    (HA : Hid (sa.take A.length = A)) (h1 : A.length ≤ 65536) (ht : t.size ≤ 4096) :
    Calls Try.prog 3 #[.slice a A.length ca, .string t] w fun e w' => e = .returned (.bool true) ∧ Below w.heap.size w w' := by
  obtain ⟨i0, hi, hz0, hz1, hz2⟩ := info_parts info9
  obtain ⟨xa, XA⟩ : ∃ x, Hid (A.any (cf t) = x) := ⟨_, rfl⟩
  go_enter Try.func3, Try.ntmps3
  go_wp2_with fail
  refine (zz7 a A.length ca sa t w ha).mono ?_
  rintro e w' ⟨⟨r, rfl⟩, hw⟩
  subst w'
  cases r with
  | false =>
    go_wp2
    go_ret
    exact ⟨rfl, Below.refl _ _⟩
  | true =>
    go_upto_if 26 with fail
    go_cut [0] (fun s0 wc => (∃ ao c, s0 = .slice ao A.length c) ∧ SOwn wc s0 A ∧ Below w.heap.size w wc)
    case first =>
      cases a with
      | none =>
        obtain ⟨h0, hc0⟩ := ha.nil
        have hA0 : A = [] := List.eq_nil_of_length_eq_zero h0
        subst hA0 hc0
        go_wp2
        go_meet
        case rel => exact ⟨⟨_, _, rfl⟩, World.ownsRow_nil _ _ _ _, Below.refl _ _⟩
      | some x =>
        have hsrc := ha.src.2
        rw [HA.out] at hsrc
        go_wp2_with (first
          | (at_make; refine wpList_make_full _ rfl (.tmp 28) (.tmp 28) 22 rfl w.heap.size 9 i0 (.string ⟨#[]⟩) 1 Try.underlying22 hi hz0 hz1 .i64 .i64 _ _ A.length rfl rfl (by rfl) (by rfl) (by rw [hz2]; omega) (by unfold maxLen; omega) (Nat.le_refl _) ?next)
          | go_in)
        case next =>
          intro w1 hown hg
          generalize (madeCells _ _).toList = made at hown
          have hml : made.length = A.length := by have := hown.1; omega
          have hh := heap_of_own hown
          have hb1 : Below w.heap.size w w1 := (Below.refl _ _).grown hg (Nat.le_refl _) (fun k h => by cases h)
          have hsrc1 : ∀ j v, (strs A)[j]? = some v → w1.cell? (x.add j) = some v := fun j v hj => by
            have := hsrc j v hj
            rw [hb1.cell (World.block_lt_of_cell? w _ this)]
            exact this
          obtain ⟨w2, hcp, hg2, hb2⟩ := copy_run (x := x) (c := ca) hh hml.symm hsrc1 hb1 (Nat.le_refl _)
          have hso := sown_of_heap hg2 (by unfold maxLen; omega)
          clear hsrc hown hg hg2 hh hsrc1
          go_wp2
          go_meet
          case rel => exact ⟨⟨_, _, rfl⟩, hso, hb2⟩
    case rest =>
      obtain ⟨⟨ao, c, rfl⟩, hsa, hbe⟩ := hcut
      clear ha HA
      by_cases hT : (t.size : Int) + 16 * (A.length : Int) ≤ 1048576
      · go_wp2
        go_loop [6, 7] (fun n i => ∃ (k : Nat) (x : Int), k ≤ A.length ∧ i = .int .i64 k ∧ n = .int .i64 x) (fun _ i => A.length - (intOf i).toNat)
        case atStart => exact ⟨0, _, Nat.zero_le _, rfl, rfl⟩
        case round =>
          obtain ⟨k, x, hk, rfl, rfl⟩ := hrel
          by_cases hlt : k < A.length
          · obtain ⟨g, rfl, hg, hc⟩ := hsa.at hlt
            go_wp2
            case roundEnd =>
              go_round
              case rel => exact ⟨k + 1, _, by omega, by go_num, rfl⟩
              case measure => simp [intOf]; omega
            all_goals (go_ret; exact ⟨rfl, hbe⟩)
          · go_wp2
            go_loop [8, 9] (fun n i => ∃ (k : Nat), k ≤ A.length ∧ i = .int .i64 k ∧ n = .bool (hasE (A.take k))) (fun _ i => A.length - (intOf i).toNat)
            case atStart => exact ⟨0, Nat.zero_le _, rfl, rfl⟩
            case round =>
              obtain ⟨k2, hk2, rfl, rfl⟩ := hrel
              by_cases hlt2 : k2 < A.length
              · obtain ⟨g, rfl, hg, hc⟩ := hsa.at hlt2
                have HS : Hid (hasE (A.take (k2 + 1)) = (hasE (A.take k2) || (A[k2].size == 0))) := hasE_succ hlt2
                by_cases he : A[k2].size = 0
                · have he' : ((A[k2].size : Int) == 0) = true := by rw [he]; rfl
                  have HE : Hid (A[k2].size = 0) := he
                  clear he
                  go_wp2
                  go_round
                  case rel => exact ⟨k2 + 1, by omega, by go_num, by rw [HS.out, HE.out]; simp⟩
                  case measure => simp [intOf]; omega
                · have he' : ((A[k2].size : Int) == 0) = false := beq_eq_false_iff_ne.2 (by omega)
                  have HE : Hid (¬ A[k2].size = 0) := he
                  clear he
                  go_wp2
                  go_round
                  case rel => exact ⟨k2 + 1, by omega, by go_num, by rw [HS.out, beq_eq_false_iff_ne.2 HE.out]; simp⟩
                  case measure => simp [intOf]; omega
              · obtain rfl : k2 = A.length := by omega
                rw [List.take_of_length_le (Nat.le_refl _)]
                go_wp2_with fail
                refine (anyOf8 _ A _ hsa (by omega)).mono ?_
                rintro e w5 ⟨q, rfl, hq, hb5⟩
                obtain ⟨o, l, a6, n6, c6, rfl⟩ := hq.form
                have l5 := hbe.trans (hb5.mono hbe.size)
                have hsa5 := hsa.below hb5 (Nat.le_refl _)
                have hal : Below w5.heap.size w5 (w5.alloc (.cells #[.int .u8 o, .string l, .slice a6 n6 c6, .bool false] 27)) := (Below.refl _ _).alloc (Nat.le_refl _) _
                have hq6 := hq.below hal (Nat.le_refl _)
                have hblk : (w5.alloc (.cells #[.int .u8 o, .string l, .slice a6 n6 c6, .bool false] 27)).heap[w5.heap.size]? = some (.cells #[.int .u8 o, .string l, .slice a6 n6 c6, .bool false] 27 (0, 0)) := heap_alloc_new w5 _
                have hsz6 : w5.heap.size < (w5.alloc (.cells #[.int .u8 o, .string l, .slice a6 n6 c6, .bool false] 27)).heap.size := lt_of_block hblk
                have l6 := l5.trans (hal.mono l5.size)
                have hsa6 := hsa5.below hal (Nat.le_refl _)
                go_wp2_with fail
                refine (eval9' t A _ _ _ xa XA (by omega) ht hq6).mono ?_
                rintro e w7 ⟨rfl, hb7⟩
                have hsa7 := hsa6.below hb7 (Nat.le_refl _)
                have hq7 := hq6.below hb7 (Nat.le_refl _)
                have hblk7 : w7.heap[w5.heap.size]? = some (.cells #[.int .u8 o, .string l, .slice a6 n6 c6, .bool false] 27 (0, 0)) := by rw [hb7.block _ hsz6]; exact hblk
                have l7 := l6.trans (hb7.mono l6.size)
                clear hblk hsz6 hb7 hq6 hsa6 hal hsa5 hq hb5 l5
                go_wp2_with fail
                refine (any10' _ A t w7 xa XA hsa7 (by omega) ht).mono ?_
                rintro e w8 ⟨rfl, hb8⟩
                have hsa8 := hsa7.below hb8 (Nat.le_refl _)
                have hq8 := hq7.below hb8 (Nat.le_refl _)
                have hblk8 : w8.heap[w5.heap.size]? = some (.cells #[.int .u8 o, .string l, .slice a6 n6 c6, .bool false] 27 (0, 0)) := by rw [hb8.block _ (lt_of_block hblk7)]; exact hblk7
                have l8 := l7.trans (hb8.mono l7.size)
                have d0 : w8.cell? ⟨w5.heap.size, 0, none⟩ = some (.int .u8 o) := by rw [cell_of_row w8 _ 0 _ _ _ hblk8]; rfl
                have d1 : w8.cell? ⟨w5.heap.size, 1, none⟩ = some (.string l) := by rw [cell_of_row w8 _ 1 _ _ _ hblk8]; rfl
                have d2 : w8.cell? ⟨w5.heap.size, 2, none⟩ = some (.slice a6 n6 c6) := by rw [cell_of_row w8 _ 2 _ _ _ hblk8]; rfl
                have d3 : w8.cell? ⟨w5.heap.size, 3, none⟩ = some (.bool false) := by rw [cell_of_row w8 _ 3 _ _ _ hblk8]; rfl
                clear hblk7 hblk8 hb8 hq7 hsa7 l7 l6
                cases xa
                all_goals
                  go_wp2_with fail
                  refine (leaves11 A _ _ w8 (by omega) hq8).mono ?_
                  rintro e w9 ⟨v', rfl, hv', hb9⟩
                  have l9 := l8.trans (hb9.mono l8.size)
                  rcases hv' with ⟨rfl, hE⟩ | ⟨hE, hso⟩
                  · go_wp2
                    go_ret
                    exact ⟨rfl, l9⟩
                  · have hsa9 := hsa8.below hb9 (Nat.le_refl _)
                    obtain ⟨a9, c9, rfl⟩ := hso.slice
                    go_wp2_with fail
                    refine (same12 _ _ A w9 (by omega) hso hsa9).mono ?_
                    rintro e w10 ⟨rfl, hb10⟩
                    go_wp2
                    go_ret
                    exact ⟨rfl, l9.trans (hb10.mono l9.size)⟩
      · go_wp2
        go_ret
        exact ⟨rfl, hbe⟩

end Go.Proofs.Qxb6618596a
