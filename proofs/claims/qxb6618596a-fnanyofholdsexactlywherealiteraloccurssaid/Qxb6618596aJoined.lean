import Derived.Test.Qxb6618596aZz
import Derived.Deep.DeepCutAuto
import Derived.Laws.CopyOwn
namespace Go.Proofs.Qxb6618596a
open Go.RowKit

theorem info9 : (Try.prog.info? 9).map (fun i => (i.zero, i.size, i.bytes)) = some (some (.string ⟨#[]⟩), 1, 16) := by kernel_rfl
theorem size9 : (Try.prog.info? 9).map (·.size) = some 1 := by kernel_rfl

theorem sown_of_heap {w : World} {g : Nat} {ls : List ByteArray} (h : w.heap[g]? = some (.cells (strs ls).toArray 9 (0, 0))) (hl : ls.length ≤ maxLen) :
    SOwn w (.slice (some ⟨g, 0, none⟩) ls.length ls.length) ls :=
  ⟨by rw [strs_len]; omega, .inr ⟨g, ls.length, _, rfl, Nat.zero_le _, h, Nat.le_refl _, hl, by simp [strs], by rw [List.take_of_length_le (by simp [strs])]⟩⟩
theorem strs_one (ls : List ByteArray) : ∀ u ∈ strs ls, u.oneCell' = true := by
  intro u hu
  obtain ⟨_, _, rfl⟩ := List.mem_map.1 hu
  rfl
theorem splice_all {α : Type} (L cs : List α) (h : cs.length = L.length) : splice L 0 cs = cs := by
  unfold splice
  rw [List.drop_of_length_le (by omega)]
  simp
theorem heap_of_own {w : World} {base : Nat} {g n : Nat} {xs : List Value} (h : w.ownsRow base 9 1 (.slice (some ⟨g, 0, none⟩) n n) n xs) : w.heap[g]? = some (.cells xs.toArray 9 (0, 0)) := by
  rcases h.2 with ⟨hv, _⟩ | ⟨g', cap, cur, hv, _, hg, _, _, hcs, htake⟩
  · simp at hv
  · simp only [Value.slice.injEq, Option.some.injEq, Addr.mk.injEq, and_true, true_and] at hv
    obtain ⟨rfl, rfl⟩ := hv
    rw [hg, ← htake, List.take_of_length_le (by rw [Array.length_toList]; omega)]

theorem IsStrs.src {w : World} {x : Addr} {len cap : Nat} {ss : List ByteArray} (h : IsStrs w (some x) len cap ss) : (ss.take len).length = len ∧ ∀ j v, (strs (ss.take len))[j]? = some v → w.cell? (x.add j) = some v := by
  rcases h with ⟨h0, _⟩ | ⟨y, hy, h1, h2, h3, h4⟩
  · cases h0
  · cases hy
    refine ⟨by rw [List.length_take]; omega, fun j v hj => ?_⟩
    have hlt : j < (strs (ss.take len)).length := (List.getElem?_eq_some_iff.1 hj).1
    rw [strs_len, List.length_take] at hlt
    rw [strs_get _ _ (by rw [List.length_take]; omega)] at hj
    rw [h4 j (by omega), ← hj]
    simp [List.getD, show j < ss.length by omega]

theorem copy_run {w0 w1 : World} {g c B : Nat} {x : Addr} {made : List Value} {A : List ByteArray} (hh : w1.heap[g]? = some (.cells made.toArray 9 (0, 0))) (hml : A.length = made.length)
    (hsrc : ∀ j v, (strs A)[j]? = some v → w1.cell? (x.add j) = some v) (hb : Below B w0 w1) (hB : B ≤ g) :
    ∃ w2, (∀ ty, (Builtin.copy_ #[22, 22] ty #[.slice (some ⟨g, 0, none⟩) A.length A.length, .slice (some x) A.length c]).run Try.prog w1 = .ok (goInt A.length) w2) ∧
      w2.heap[g]? = some (.cells (strs A).toArray 9 (0, 0)) ∧ Below B w0 w2 := by
  refine ⟨_, fun ty => by
    have := run_copy_row (P := Try.prog) w1 22 22 ty 9 g 0 A.length A.length x A.length c made.toArray 9 (strs A) Try.underlying22 size9 hh (by rw [strs_len]; simp) hsrc (by rw [strs_len]; simp; omega) (strs_one A)
    rw [strs_len] at this
    exact this, ?_, below_setRow hb hB _⟩
  rw [setRow_heap w1 g _ _ _ _ hh]
  congr 2
  simp [List.drop_of_length_le (Nat.le_of_eq hml.symm)]
theorem one_str (s : ByteArray) : ∀ u ∈ [Value.string s], u.oneCell' = true := by
  intro u hu
  obtain rfl := List.mem_singleton.1 hu
  rfl
theorem strs_snoc (A : List ByteArray) (k : Nat) (h : k < A.length) : strs (A.take (k + 1)) = strs (A.take k) ++ [.string A[k]] := by
  rw [List.take_succ_eq_append_getElem h]
  simp only [strs, List.map_append, List.map_cons, List.map_nil]
theorem strs_snoc2 (A B : List ByteArray) (k : Nat) (h : k < B.length) : strs (A ++ B.take (k + 1)) = strs (A ++ B.take k) ++ [.string B[k]] := by
  rw [List.take_succ_eq_append_getElem h]
  simp only [strs, List.map_append, List.map_cons, List.map_nil, List.append_assoc]
theorem eval9' (t : ByteArray) (ls : List ByteArray) (base : Nat) (q : Value) (w : World) (x : Bool) (hx : Hid (ls.any (cf t) = x)) (hl : ls.length ≤ 262144) (ht : t.size ≤ 4096) (h : QAny w base ls q) :
    Calls Try.prog 9 #[q, .string t] w fun e w' => e = .returned (.bool x) ∧ Below w.heap.size w w' := by
  have := hx.out
  subst this
  exact eval9 t ls base q w hl ht h
theorem any10' (v : Value) (ls : List ByteArray) (t : ByteArray) (w : World) (x : Bool) (hx : Hid (ls.any (cf t) = x)) (h : SOwn w v ls) (hl : ls.length ≤ 1048576) (ht : t.size ≤ 4096) :
    Calls Try.prog 10 #[v, .string t] w fun e w' => e = .returned (.bool x) ∧ Below w.heap.size w w' := by
  have := hx.out
  subst this
  exact any10 v ls t w h hl ht
theorem sown_join {w : World} {base : Nat} {v : Value} {A B : List ByteArray} (h : w.ownsRow base 9 1 v (A.length + B.length) (strs (A ++ B))) : SOwn w v (A ++ B) := by
  unfold SOwn
  rw [List.length_append]
  exact ownsRow_base h (Nat.zero_le _)
theorem IsStrs.nil {w : World} {len cap : Nat} {ss : List ByteArray} (h : IsStrs w none len cap ss) : len = 0 ∧ cap = 0 := by
  rcases h with ⟨_, h0, h1, _⟩ | ⟨y, hy, _⟩
  · exact ⟨h0, h1⟩
  · cases hy
theorem IsStrs.take_len {w : World} {a : Option Addr} {len cap : Nat} {ss : List ByteArray} (h : IsStrs w a len cap ss) : (ss.take len).length = len := by
  rcases h with ⟨_, h0, h1, h2⟩ | ⟨y, hy, h1, h2, h3, h4⟩
  · rw [h0, h2]; rfl
  · rw [List.length_take]; omega
theorem anys (t : ByteArray) (A B : List ByteArray) : (A ++ B).any (cf t) = (A.any (cf t) || B.any (cf t)) := List.any_append

set_option maxRecDepth 100000 in
set_option maxHeartbeats 4000000 in
theorem law4_yes (a b : Option Addr) (ca cb : Nat) (sa sb A B : List ByteArray) (t : ByteArray) (w : World) (ha : IsStrs w a A.length ca sa) (hb : IsStrs w b B.length cb sb)
    (HA : Hid (sa.take A.length = A)) (HB : Hid (sb.take B.length = B)) (h1 : A.length ≤ 65536) (h2 : B.length ≤ 65536) (ht : t.size ≤ 4096) :
    Calls Try.prog 4 #[.slice a A.length ca, .slice b B.length cb, .string t] w fun e w' => e = .returned (.bool true) ∧ Below w.heap.size w w' := by
  obtain ⟨i0, hi, hz0, hz1, hz2⟩ := info_parts info9
  obtain ⟨xa, XA⟩ : ∃ x, Hid (A.any (cf t) = x) := ⟨_, rfl⟩
  obtain ⟨xb, XB⟩ : ∃ x, Hid (B.any (cf t) = x) := ⟨_, rfl⟩
  have XJ : Hid ((A ++ B).any (cf t) = (xa || xb)) := by
    show (A ++ B).any (cf t) = (xa || xb)
    rw [anys, XA.out, XB.out]
  go_enter Try.func4, Try.ntmps4
  go_wp2_with fail
  refine (zz13 a b A.length ca B.length cb sa sb t w ha hb).mono ?_
  rintro e w' ⟨⟨r, rfl⟩, hw⟩
  subst w'
  cases r with
  | false =>
    go_wp2
    go_ret
    exact ⟨rfl, Below.refl _ _⟩
  | true =>
    go_upto_if 37 with fail
    go_cut [0] (fun s0 wc => (∃ ao c, s0 = .slice ao A.length c) ∧ SOwn wc s0 A ∧ Below w.heap.size w wc)
    case first =>
      cases a with
      | none =>
        obtain ⟨h0, hc0⟩ := ha.nil
        have hA0 : A = [] := List.eq_nil_of_length_eq_zero h0
        subst hA0 hc0
        go_wp2
        go_meet
        case rel => exact ⟨⟨_, _, rfl⟩, World.ownsRow_nil _ _ _ _, Below.refl _ _⟩
      | some x =>
        have hsrc := ha.src.2
        rw [HA.out] at hsrc
        go_wp2_with (first
          | (at_make; refine wpList_make_full _ rfl (.tmp 39) (.tmp 39) 22 rfl w.heap.size 9 i0 (.string ⟨#[]⟩) 1 Try.underlying22 hi hz0 hz1 .i64 .i64 _ _ A.length rfl rfl (by rfl) (by rfl) (by rw [hz2]; omega) (by unfold maxLen; omega) (Nat.le_refl _) ?next)
          | go_in)
        case next =>
          intro w1 hown hg
          generalize (madeCells _ _).toList = made at hown
          have hml : made.length = A.length := by have := hown.1; omega
          have hh := heap_of_own hown
          have hb1 : Below w.heap.size w w1 := (Below.refl _ _).grown hg (Nat.le_refl _) (fun k h => by cases h)
          have hsrc1 : ∀ j v, (strs A)[j]? = some v → w1.cell? (x.add j) = some v := fun j v hj => by
            have := hsrc j v hj
            rw [hb1.cell (World.block_lt_of_cell? w _ this)]
            exact this
          obtain ⟨w2, hcp, hg2, hb2⟩ := copy_run (x := x) (c := ca) hh hml.symm hsrc1 hb1 (Nat.le_refl _)
          have hso := sown_of_heap hg2 (by unfold maxLen; omega)
          clear hsrc hown hg hg2 hh hsrc1
          go_wp2
          go_meet
          case rel => exact ⟨⟨_, _, rfl⟩, hso, hb2⟩
    case rest =>
      obtain ⟨⟨ao, c, rfl⟩, hsa, hbe⟩ := hcut
      clear ha
      go_upto_if 46 with fail
      go_cut [1] (fun s1 wd => (∃ ao c, s1 = .slice ao B.length c) ∧ SOwn wd s1 B ∧ SOwn wd (.slice ao A.length c) A ∧ Below w.heap.size w wd)
      case first =>
        cases b with
        | none =>
          obtain ⟨h0, hc0⟩ := hb.nil
          have hB0 : B = [] := List.eq_nil_of_length_eq_zero h0
          subst hB0 hc0
          go_wp2
          go_meet
          case rel => exact ⟨⟨_, _, rfl⟩, World.ownsRow_nil _ _ _ _, hsa, hbe⟩
        | some x =>
          have hsrc := hb.src.2
          rw [HB.out] at hsrc
          go_wp2_with (first
            | (at_make; refine wpList_make_full _ rfl (.tmp 48) (.tmp 48) 22 rfl wc.heap.size 9 i0 (.string ⟨#[]⟩) 1 Try.underlying22 hi hz0 hz1 .i64 .i64 _ _ B.length rfl rfl (by rfl) (by rfl) (by rw [hz2]; omega) (by unfold maxLen; omega) (Nat.le_refl _) ?next)
            | go_in)
          case next =>
            intro w1 hown hg
            generalize (madeCells _ _).toList = made at hown
            have hml : made.length = B.length := by have := hown.1; omega
            have hh := heap_of_own hown
            have hb1 : Below wc.heap.size wc w1 := (Below.refl _ _).grown hg (Nat.le_refl _) (fun k h => by cases h)
            have hb01 : Below w.heap.size w w1 := hbe.trans (hb1.mono hbe.size)
            have hsrc1 : ∀ j v, (strs B)[j]? = some v → w1.cell? (x.add j) = some v := fun j v hj => by
              have := hsrc j v hj
              rw [hb01.cell (World.block_lt_of_cell? w _ this)]
              exact this
            obtain ⟨w2, hcp, hg2, hb2⟩ := copy_run (x := x) (c := cb) hh hml.symm hsrc1 hb1 (Nat.le_refl _)
            have hso := sown_of_heap hg2 (by unfold maxLen; omega)
            have hsa2 := hsa.below hb2 (Nat.le_refl _)
            clear hsrc hown hg hg2 hh hsrc1
            go_wp2
            go_meet
            case rel => exact ⟨⟨_, _, rfl⟩, hso, hsa2, hbe.trans (hb2.mono hbe.size)⟩
      case rest =>
        obtain ⟨⟨bo, d, rfl⟩, hsb, hsa', hbe'⟩ := hcut
        clear hb hsa hbe HA HB
        by_cases hT : (t.size : Int) + 16 * (A.length : Int) + 16 * (B.length : Int) ≤ 1048576
        · go_wp2
          go_loop [9, 10] (fun n i => ∃ (k : Nat) (x : Int), k ≤ A.length ∧ i = .int .i64 k ∧ n = .int .i64 x) (fun _ i => A.length - (intOf i).toNat)
          case atStart => exact ⟨0, _, Nat.zero_le _, rfl, rfl⟩
          case round =>
            obtain ⟨k, x, hk, rfl, rfl⟩ := hrel
            by_cases hlt : k < A.length
            · obtain ⟨g, rfl, hg, hc⟩ := hsa'.at hlt
              go_wp2
              case roundEnd =>
                go_round
                case rel => exact ⟨k + 1, _, by omega, by go_num, rfl⟩
                case measure => simp [intOf]; omega
              all_goals (go_ret; exact ⟨rfl, hbe'⟩)
            · go_wp2
              go_loop [9, 11] (fun n i => ∃ (k : Nat) (x : Int), k ≤ B.length ∧ i = .int .i64 k ∧ n = .int .i64 x) (fun _ i => B.length - (intOf i).toNat)
              case atStart => exact ⟨0, _, Nat.zero_le _, rfl, rfl⟩
              case round =>
                obtain ⟨k2, x2, hk2, rfl, rfl⟩ := hrel
                by_cases hlt2 : k2 < B.length
                · obtain ⟨g, rfl, hg, hc⟩ := hsb.at hlt2
                  go_wp2
                  case roundEnd =>
                    go_round
                    case rel => exact ⟨k2 + 1, _, by omega, by go_num, rfl⟩
                    case measure => simp [intOf]; omega
                  all_goals (go_ret; exact ⟨rfl, hbe'⟩)
                · go_wp2_with (first
                    | (at_make; refine wpList_make_own _ rfl (.const (.int .i64 0)) (.tmp 100) 22 rfl wc.heap.size 9 i0 (.string ⟨#[]⟩) 1 Try.underlying22 hi hz0 hz1 .i64 .i64 _ (A.length + B.length) rfl rfl (by simp) (by rw [hz2]; omega) (by unfold maxLen; omega) (Nat.le_refl _) ?next)
                    | go_in)
                  case next =>
                    intro w3 hown3 hg3
                    have hb3 : Below wc.heap.size wc w3 := (Below.refl _ _).grown hg3 (Nat.le_refl _) (fun k h => by cases h)
                    clear hg3
                    go_wp2
                    go_loopw [12, 13] (fun jv i wr => ∃ k : Nat, k ≤ A.length ∧ i = .int .i64 k ∧ (∃ a c, jv = .slice a k c) ∧ wr.ownsRow wc.heap.size 9 1 jv k (strs (A.take k)) ∧ Below wc.heap.size wc wr) (fun _ i _ => A.length - (intOf i).toNat)
                    case atStart => exact ⟨0, Nat.zero_le _, rfl, ⟨_, _, rfl⟩, hown3, hb3⟩
                    case round =>
                      obtain ⟨k3, hk3, rfl, ⟨a3, c3, rfl⟩, ho, hbj⟩ := hrel
                      by_cases hlt3 : k3 < A.length
                      · obtain ⟨g, rfl, hg, hc⟩ := hsa'.at hlt3
                        have hc' := (hbj.cell (p := ⟨g, k3, none⟩) hg).trans hc
                        clear hc
                        go_wp2_with (first
                          | (at_builtin; refine wpList_append_own _ rfl (.tmp 108) (.tmp 113) 22 rfl wc.heap.size 9 i0 (.string ⟨#[]⟩) 1 16 Try.underlying22 hi hz0 hz1 hz2 rfl (by decide) _ k3 (strs (A.take k3)) rfl (ho.alloc _) ⟨wr.heap.size, 0, none⟩ 1 1 [.string A[k3]] rfl rfl (cell_one_new _ _ _) (one_str _) (by unfold maxLen; omega) (by omega) (Nat.le_trans hbj.size (by simp)) ?nextj)
                          | go_in)
                        case nextj =>
                          intro v' w4 hown4 hgrow4 _
                          obtain ⟨a4, c4, rfl⟩ := ownsRow_form hown4
                          have hbj4 : Below wc.heap.size wc w4 := (hbj.alloc hbj.size _).grown hgrow4 (Nat.le_trans hbj.size (by simp)) (fun q hq => (ho.lt q hq).1)
                          rw [← strs_snoc A k3 hlt3] at hown4
                          clear hgrow4
                          go_wp2
                          go_roundw
                          case rel => exact ⟨k3 + 1, by omega, by go_num, ⟨_, _, rfl⟩, hown4, hbj4⟩
                          case measure => simp [intOf]; omega
                      · obtain rfl : k3 = A.length := by omega
                        rw [List.take_of_length_le (Nat.le_refl _)] at ho
                        go_wp2
                        go_loopw [12, 14] (fun jv i wr => ∃ k : Nat, k ≤ B.length ∧ i = .int .i64 k ∧ (∃ a c, jv = .slice a (A.length + k) c) ∧ wr.ownsRow wc.heap.size 9 1 jv (A.length + k) (strs (A ++ B.take k)) ∧ Below wc.heap.size wc wr) (fun _ i _ => B.length - (intOf i).toNat)
                        case atStart => exact ⟨0, Nat.zero_le _, rfl, ⟨_, _, rfl⟩, by simpa using ho, hbj⟩
                        case round =>
                          clear ho hbj
                          obtain ⟨k5, hk5, rfl, ⟨a5, c5, rfl⟩, ho, hbj⟩ := hrel
                          by_cases hlt5 : k5 < B.length
                          · obtain ⟨g, rfl, hg, hc⟩ := hsb.at hlt5
                            have hc' := (hbj.cell (p := ⟨g, k5, none⟩) hg).trans hc
                            clear hc
                            go_wp2_with (first
                              | (at_builtin; refine wpList_append_own _ rfl (.tmp 121) (.tmp 126) 22 rfl wc.heap.size 9 i0 (.string ⟨#[]⟩) 1 16 Try.underlying22 hi hz0 hz1 hz2 rfl (by decide) _ (A.length + k5) (strs (A ++ B.take k5)) rfl (ho.alloc _) ⟨_, 0, none⟩ 1 1 [.string B[k5]] rfl rfl (cell_one_new _ _ _) (one_str _) (by unfold maxLen; omega) (by omega) (Nat.le_trans hbj.size (by simp)) ?nextj)
                              | go_in)
                            case nextj =>
                              intro v' w4 hown4 hgrow4 _
                              obtain ⟨a4, c4, rfl⟩ := ownsRow_form hown4
                              have hbj4 : Below wc.heap.size wc w4 := (hbj.alloc hbj.size _).grown hgrow4 (Nat.le_trans hbj.size (by simp)) (fun q hq => (ho.lt q hq).1)
                              rw [← strs_snoc2 A B k5 hlt5] at hown4
                              clear hgrow4
                              go_wp2
                              go_roundw
                              case rel => exact ⟨k5 + 1, by omega, by go_num, ⟨_, _, rfl⟩, hown4, hbj4⟩
                              case measure => simp [intOf]; omega
                          · obtain rfl : k5 = B.length := by omega
                            rw [List.take_of_length_le (Nat.le_refl _)] at ho
                            have hsaN := hsa'.below hbj (Nat.le_refl _)
                            have hsbN := hsb.below hbj (Nat.le_refl _)
                            have hjN := sown_join ho
                            have l0 := hbe'.trans (hbj.mono hbe'.size)
                            clear ho hbj
                            go_wp2_with fail
                            refine (anyOf8 _ A _ hsaN (by omega)).mono ?_
                            rintro e w5 ⟨q1, rfl, hq1, hb5⟩
                            go_wp2_with fail
                            refine (eval9' t A _ q1 w5 xa XA (by omega) ht hq1).mono ?_
                            rintro e w6 ⟨rfl, hb6⟩
                            have l6 := hb5.trans (hb6.mono hb5.size)
                            have hsbN6 := hsbN.below l6 (Nat.le_refl _)
                            go_wp2_with fail
                            refine (anyOf8 _ B _ hsbN6 (by omega)).mono ?_
                            rintro e w7 ⟨q2, rfl, hq2, hb7⟩
                            go_wp2_with fail
                            refine (eval9' t B _ q2 w7 xb XB (by omega) ht hq2).mono ?_
                            rintro e w8 ⟨rfl, hb8⟩
                            have l8 := (l6.trans (hb7.mono l6.size)).trans (hb8.mono (l6.trans (hb7.mono l6.size)).size)
                            have hjN8 := hjN.below l8 (Nat.le_refl _)
                            go_wp2_with fail
                            refine (anyOf8 _ (A ++ B) _ hjN8 (by rw [List.length_append]; omega)).mono ?_
                            rintro e w9 ⟨q3, rfl, hq3, hb9⟩
                            go_wp2_with fail
                            refine (eval9' t (A ++ B) _ q3 w9 _ XJ (by rw [List.length_append]; omega) ht hq3).mono ?_
                            rintro e w10 ⟨rfl, hb10⟩
                            have l9 := l8.trans (hb9.mono l8.size)
                            have l10 := l9.trans (hb10.mono l9.size)
                            have hsaN10 := hsaN.below l10 (Nat.le_refl _)
                            have hsbN10 := hsbN.below l10 (Nat.le_refl _)
                            have m10 := l0.trans (l10.mono l0.size)
                            clear hb5 hb6 hb7 hb8 hb9 hb10 l6 l8 l9 l10 hsaN hsbN hjN hsbN6 hjN8 hq1 hq2 hq3
                            cases xa <;> cases xb
                            all_goals
                              go_wp2_with fail
                              refine (any10' _ A t w10 _ XA hsaN10 (by omega) ht).mono ?_
                              rintro e w11 ⟨rfl, hb11⟩
                              have hsbN11 := hsbN10.below hb11 (Nat.le_refl _)
                              go_wp2_with fail
                              refine (any10' _ B t w11 _ XB hsbN11 (by omega) ht).mono ?_
                              rintro e w12 ⟨rfl, hb12⟩
                              have m11 := m10.trans (hb11.mono m10.size)
                              go_wp2
                              go_ret
                              exact ⟨rfl, m11.trans (hb12.mono m11.size)⟩
        · go_wp2
          go_ret
          exact ⟨rfl, hbe'⟩

end Go.Proofs.Qxb6618596a
