import Derived.Test.Qxb6617077aCopy
import Derived.Test.Qxb6617077aTurn
import Derived.Test.Qxb6617077aZz22
import Derived.Test.Qxb6617077aMkAns
namespace Go.Proofs.Qxb6617077a
open Go.RowKit
set_option linter.unusedVariables false
set_option linter.unusedSimpArgs false

/-- The three boxes stand. -/
def Three (rsz rrp rver rep rrm : Int) (rsha rmd rwr : ByteArray) (ra : Option Addr) (rn rc : Nat) (rdm rpt : Bool) (l1 l2 : Value) (b0 lp rp : Nat) (w' : World) : Prop :=
  w'.heap[rp]? = some (.cells #[.int .i64 rsz, .string rsha, .string rmd, .int .i64 rrp, .slice ra rn rc, .int .i64 rver, .int .i64 rep, .int .i64 rrm, .string rwr, .bool rdm, .bool rpt] 46 (0, 0)) ∧ w'.heap[lp]? = some (.cells #[l1, l2] 41 (0, 0)) ∧ w'.heap[b0]? = some (.cells #[.int .i64 rsz, .string rsha, .string rmd, .int .i64 rrp, .slice ra rn rc, .int .i64 rver, .int .i64 rep, .int .i64 rrm, .string rwr, .bool rdm, .bool rpt] 34 (0, 0))
theorem Three.below {rsz rrp rver rep rrm : Int} {rsha rmd rwr : ByteArray} {ra : Option Addr} {rn rc : Nat} {rdm rpt : Bool} {l1 l2 : Value} {b0 lp rp : Nat} {w w' : World} (h : Three rsz rrp rver rep rrm rsha rmd rwr ra rn rc rdm rpt l1 l2 b0 lp rp w) (hb : Below w.heap.size w w') : Three rsz rrp rver rep rrm rsha rmd rwr ra rn rc rdm rpt l1 l2 b0 lp rp w' := by
  obtain ⟨h1, h2, h3⟩ := h
  exact ⟨by rw [hb.block _ (lt_of_block h1)]; exact h1, by rw [hb.block _ (lt_of_block h2)]; exact h2, by rw [hb.block _ (lt_of_block h3)]; exact h3⟩
theorem boxes3 (rsz rrp rver rep rrm : Int) (rsha rmd rwr : ByteArray) (ra : Option Addr) (rn rc : Nat) (rdm rpt : Bool) (l1 l2 : Value) (b0 lp rp : Nat) (w' : World) (h : Three rsz rrp rver rep rrm rsha rmd rwr ra rn rc rdm rpt l1 l2 b0 lp rp w') :
    w'.cell? ⟨rp, 0, none⟩ = some (.int .i64 rsz) ∧ w'.cell? ⟨rp, 1, none⟩ = some (.string rsha) ∧ w'.cell? ⟨rp, 2, none⟩ = some (.string rmd) ∧ w'.cell? ⟨rp, 3, none⟩ = some (.int .i64 rrp) ∧ w'.cell? ⟨rp, 4, none⟩ = some (.slice ra rn rc) ∧ w'.cell? ⟨rp, 5, none⟩ = some (.int .i64 rver) ∧ w'.cell? ⟨rp, 6, none⟩ = some (.int .i64 rep) ∧ w'.cell? ⟨rp, 7, none⟩ = some (.int .i64 rrm) ∧ w'.cell? ⟨rp, 8, none⟩ = some (.string rwr) ∧ w'.cell? ⟨rp, 9, none⟩ = some (.bool rdm) ∧ w'.cell? ⟨rp, 10, none⟩ = some (.bool rpt) ∧ w'.cell? ⟨lp, 0, none⟩ = some (l1) ∧ w'.cell? ⟨lp, 1, none⟩ = some (l2) ∧ w'.cell? ⟨b0, 0, none⟩ = some (.int .i64 rsz) ∧ w'.cell? ⟨b0, 1, none⟩ = some (.string rsha) ∧ w'.cell? ⟨b0, 2, none⟩ = some (.string rmd) ∧ w'.cell? ⟨b0, 3, none⟩ = some (.int .i64 rrp) ∧ w'.cell? ⟨b0, 4, none⟩ = some (.slice ra rn rc) ∧ w'.cell? ⟨b0, 5, none⟩ = some (.int .i64 rver) ∧ w'.cell? ⟨b0, 6, none⟩ = some (.int .i64 rep) ∧ w'.cell? ⟨b0, 7, none⟩ = some (.int .i64 rrm) ∧ w'.cell? ⟨b0, 8, none⟩ = some (.string rwr) ∧ w'.cell? ⟨b0, 9, none⟩ = some (.bool rdm) ∧ w'.cell? ⟨b0, 10, none⟩ = some (.bool rpt) := by
  obtain ⟨h1, h2, h3⟩ := h
  refine ⟨?_, ?_, ?_, ?_, ?_, ?_, ?_, ?_, ?_, ?_, ?_, ?_, ?_, ?_, ?_, ?_, ?_, ?_, ?_, ?_, ?_, ?_, ?_, ?_⟩
  all_goals first
    | (rw [cell_of_row w' _ _ _ _ _ h1]; rfl)
    | (rw [cell_of_row w' _ _ _ _ _ h2]; rfl)
    | (rw [cell_of_row w' _ _ _ _ _ h3]; rfl)

theorem below_grown1 {B m : Nat} {a w w' : World} (h : Below B a w) (hg : w.grownBy w' (some m)) (hB : B ≤ w.heap.size) (hm : B ≤ m) : Below B a w' :=
  h.grown hg hB (fun q hq => by cases hq; exact hm)
theorem upd_in {w : World} {m n : Nat} {ad : ByteArray} {v : Option Value} (I : ByteArray → Option Ans) (x : Option Ans) (e : x.map Ans.val = v) (h : MapIs w m n (upd (fun s => (I s).map Ans.val) ad v)) : ∃ q, MapIs w m q (fun s => (updA I ad x s).map Ans.val) :=
  ⟨n, by rw [updA_val, e]; exact h⟩

set_option maxRecDepth 100000 in
set_option maxHeartbeats 20000000 in
theorem law7 (rsz rrp rver rep rrm : Int) (rsha rmd rwr : ByteArray) (ra : Option Addr) (rc : Nat) (rdm rpt : Bool) (ha pa aa qa : Option Addr) (hc pc ac qc : Nat) (LR H P AD : List ByteArray) (rs : List (Ans × List ByteArray)) (w : World) (hR : SL w (.slice ra LR.length rc) LR) (hH : SL w (.slice ha H.length hc) H) (hP : SL w (.slice pa P.length pc) P) (hA : SL w (.slice aa AD.length ac) AD) (hRS : RS w (.slice qa rs.length qc) rs) (HS : Hid (∀ s ∈ H ++ P, s.size ≤ maxLen)) (HSA : Hid (∀ s ∈ AD, s.size ≤ maxLen)) :
    Calls Try.prog 7 #[.agg #[.int .i64 rsz, .string rsha, .string rmd, .int .i64 rrp, .slice ra LR.length rc, .int .i64 rver, .int .i64 rep, .int .i64 rrm, .string rwr, .bool rdm, .bool rpt], .slice ha H.length hc, .slice pa P.length pc, .slice aa AD.length ac, .slice qa rs.length qc] w fun e w' => e = .returned (.bool true) ∧ Below w.heap.size w w' := by
  obtain ⟨i0, hi, hz0, hz1, hz2⟩ := info_parts info9
  have hB0 : Below w.heap.size w (w.alloc (.cells #[.int .i64 rsz, .string rsha, .string rmd, .int .i64 rrp, .slice ra LR.length rc, .int .i64 rver, .int .i64 rep, .int .i64 rrm, .string rwr, .bool rdm, .bool rpt] 34)) := (Below.refl _ _).alloc (Nat.le_refl _) _
  go_enter Try.func7, Try.ntmps7
  go_wp2_with fail
  refine (zz22 _ _ _ _ _ _ _ _ _ _ _ _ ha pa aa qa hc pc ac qc LR H P AD rs _ (hR.below hB0 (Nat.le_refl _)) (hH.below hB0 (Nat.le_refl _)) (hP.below hB0 (Nat.le_refl _)) (hA.below hB0 (Nat.le_refl _)) (hRS.below hB0 (Nat.le_refl _))).mono ?_
  rintro e w1 ⟨⟨r, rfl, hgd⟩, hb1⟩
  have l1 : Below w.heap.size w w1 := hB0.trans (hb1.mono hB0.size)
  have rblk : w1.heap[w.heap.size]? = some (.cells #[.int .i64 rsz, .string rsha, .string rmd, .int .i64 rrp, .slice ra LR.length rc, .int .i64 rver, .int .i64 rep, .int .i64 rrm, .string rwr, .bool rdm, .bool rpt] 34 (0, 0)) := by
    rw [hb1.block _ (by simp)]
    exact heap_alloc_new w _
  have hR1 := hR.below l1 (Nat.le_refl _)
  have hH1 := hH.below l1 (Nat.le_refl _)
  have hP1 := hP.below l1 (Nat.le_refl _)
  have hA1 := hA.below l1 (Nat.le_refl _)
  have hQ1 := hRS.below l1 (Nat.le_refl _)
  have hzz1 : w.heap.size < w1.heap.size := lt_of_block rblk
  clear hB0 hb1 hR hH hP hA hRS
  cases r with
  | false =>
    clear hgd
    go_wp2
    go_ret
    exact ⟨rfl, l1⟩
  | true =>
    obtain ⟨hlr, hln⟩ := hgd rfl
    have HLN : Hid (∀ r ∈ rs, r.2.length ≤ 1048576) := hln
    clear hgd hln
    by_cases hq1 : 256 < H.length
    · go_wp2
      go_ret
      exact ⟨rfl, l1⟩
    by_cases hq2 : 256 < P.length
    · go_wp2
      go_ret
      exact ⟨rfl, l1⟩
    by_cases hq6 : 4096 < AD.length
    · go_wp2
      go_ret
      exact ⟨rfl, l1⟩
    by_cases hq7 : 4096 < rs.length
    · go_wp2
      go_ret
      exact ⟨rfl, l1⟩
    go_upto_if 58 with fail
    go_cut [1] (fun s1 wc => (∃ ao c, s1 = .slice ao H.length c) ∧ SL wc s1 H ∧ Below w1.heap.size w1 wc)
    case first =>
      as_aux_lemma =>
      cases ha with
      | none =>
        obtain ⟨hA0, h0, hc0⟩ := hH1.none_nil
        subst hA0 hc0
        go_wp2
        go_meet
        case rel => exact ⟨⟨_, _, rfl⟩, SL.nil _, Below.refl _ _⟩
      | some x =>
        have hsrc := hH1.src
        go_wp2_with (first
          | (at_make; refine wpList_make_full _ rfl (.tmp 60) (.tmp 60) 22 rfl w1.heap.size 9 i0 (.string ⟨#[]⟩) 1 Try.underlying22 hi hz0 hz1 .i64 .i64 _ _ H.length rfl rfl (by rfl) (by rfl) (by rw [hz2]; omega) (by unfold maxLen; omega) (Nat.le_refl _) ?next)
          | go_in)
        case next =>
          intro w2 hown hg
          generalize (madeCells _ _).toList = made at hown
          have hml : made.length = H.length := by have := hown.1; omega
          have hh := heap_of_own hown
          have hb2 : Below w1.heap.size w1 w2 := (Below.refl _ _).grown hg (Nat.le_refl _) (fun k h => by cases h)
          have hsrc1 : ∀ j v, (strs H)[j]? = some v → w2.cell? (x.add j) = some v := fun j v hj => by
            have := hsrc j v hj
            rw [hb2.cell (World.block_lt_of_cell? w1 _ this)]
            exact this
          obtain ⟨w3, hcp, hg2, hb3⟩ := copy_run (x := x) (c := hc) hh hml.symm hsrc1 hb2 (Nat.le_refl _)
          have hso := sl_of_heap hg2
          clear hsrc hown hg hg2 hh hsrc1
          go_wp2
          go_meet
          case rel => exact ⟨⟨_, _, rfl⟩, hso, hb3⟩
    case rest =>
      obtain ⟨⟨ao, c, rfl⟩, hHc, lc⟩ := hcut
      have hPc := hP1.below lc (Nat.le_refl _)
      clear hH1
      obtain ⟨wb, hwb⟩ : ∃ x, x = wc := ⟨_, rfl⟩
      subst hwb
      go_upto_if 67 with fail
      go_cut [2] (fun s2 wd => (∃ ao c, s2 = .slice ao P.length c) ∧ SL wd s2 P ∧ Below wb.heap.size wb wd)
      case first =>
        as_aux_lemma =>
        cases pa with
        | none =>
          obtain ⟨hA0, h0, hc0⟩ := hPc.none_nil
          subst hA0 hc0
          go_wp2
          go_meet
          case rel => exact ⟨⟨_, _, rfl⟩, SL.nil _, Below.refl _ _⟩
        | some x =>
          have hsrc := hPc.src
          go_wp2_with (first
            | (at_make; refine wpList_make_full _ rfl (.tmp 69) (.tmp 69) 22 rfl wb.heap.size 9 i0 (.string ⟨#[]⟩) 1 Try.underlying22 hi hz0 hz1 .i64 .i64 _ _ P.length rfl rfl (by rfl) (by rfl) (by rw [hz2]; omega) (by unfold maxLen; omega) (Nat.le_refl _) ?next)
            | go_in)
          case next =>
            intro w2 hown hg
            generalize (madeCells _ _).toList = made at hown
            have hml : made.length = P.length := by have := hown.1; omega
            have hh := heap_of_own hown
            have hb2 : Below wb.heap.size wb w2 := (Below.refl _ _).grown hg (Nat.le_refl _) (fun k h => by cases h)
            have hsrc1 : ∀ j v, (strs P)[j]? = some v → w2.cell? (x.add j) = some v := fun j v hj => by
              have := hsrc j v hj
              rw [hb2.cell (World.block_lt_of_cell? wb _ this)]
              exact this
            obtain ⟨w3, hcp, hg2, hb3⟩ := copy_run (x := x) (c := pc) hh hml.symm hsrc1 hb2 (Nat.le_refl _)
            have hso := sl_of_heap hg2
            clear hsrc hown hg hg2 hh hsrc1
            go_wp2
            go_meet
            case rel => exact ⟨⟨_, _, rfl⟩, hso, hb3⟩
      case rest =>
        obtain ⟨⟨bo, d, rfl⟩, hPd, ld⟩ := hcut
        obtain ⟨wd, hwd⟩ : ∃ x, x = wc := ⟨_, rfl⟩
        subst hwd
        have hHd := hHc.below ld (Nat.le_refl _)
        have l1d : Below w1.heap.size w1 wd := lc.trans (ld.mono lc.size)
        have hzzd : w.heap.size < wd.heap.size := Nat.lt_of_lt_of_le hzz1 l1d.size
        have hRd := hR1.below l1d (Nat.le_refl _)
        have hAd := hA1.below l1d (Nat.le_refl _)
        have hQd := hQ1.below l1d (Nat.le_refl _)
        have lwd : Below w.heap.size w wd := l1.trans (l1d.mono l1.size)
        have rblk_wd : wd.heap[w.heap.size]? = some (.cells #[.int .i64 rsz, .string rsha, .string rmd, .int .i64 rrp, .slice ra LR.length rc, .int .i64 rver, .int .i64 rep, .int .i64 rrm, .string rwr, .bool rdm, .bool rpt] 34 (0, 0)) := by rw [l1d.block _ (by omega)]; exact rblk
        clear hHc hPc hP1 hR1 hA1 hQ1 rblk lc ld l1 l1d hzz1
        have c0 : wd.cell? ⟨w.heap.size, 0, none⟩ = some (.int .i64 rsz) := by rw [cell_of_row wd _ 0 _ _ _ rblk_wd]; rfl
        have c1 : wd.cell? ⟨w.heap.size, 1, none⟩ = some (.string rsha) := by rw [cell_of_row wd _ 1 _ _ _ rblk_wd]; rfl
        have c2 : wd.cell? ⟨w.heap.size, 2, none⟩ = some (.string rmd) := by rw [cell_of_row wd _ 2 _ _ _ rblk_wd]; rfl
        have c3 : wd.cell? ⟨w.heap.size, 3, none⟩ = some (.int .i64 rrp) := by rw [cell_of_row wd _ 3 _ _ _ rblk_wd]; rfl
        have c4 : wd.cell? ⟨w.heap.size, 4, none⟩ = some (.slice ra LR.length rc) := by rw [cell_of_row wd _ 4 _ _ _ rblk_wd]; rfl
        have c5 : wd.cell? ⟨w.heap.size, 5, none⟩ = some (.int .i64 rver) := by rw [cell_of_row wd _ 5 _ _ _ rblk_wd]; rfl
        have c6 : wd.cell? ⟨w.heap.size, 6, none⟩ = some (.int .i64 rep) := by rw [cell_of_row wd _ 6 _ _ _ rblk_wd]; rfl
        have c7 : wd.cell? ⟨w.heap.size, 7, none⟩ = some (.int .i64 rrm) := by rw [cell_of_row wd _ 7 _ _ _ rblk_wd]; rfl
        have c8 : wd.cell? ⟨w.heap.size, 8, none⟩ = some (.string rwr) := by rw [cell_of_row wd _ 8 _ _ _ rblk_wd]; rfl
        have c9 : wd.cell? ⟨w.heap.size, 9, none⟩ = some (.bool rdm) := by rw [cell_of_row wd _ 9 _ _ _ rblk_wd]; rfl
        have c10 : wd.cell? ⟨w.heap.size, 10, none⟩ = some (.bool rpt) := by rw [cell_of_row wd _ 10 _ _ _ rblk_wd]; rfl
        as_aux_lemma =>
        go_wp2_with fail
        refine (addRec23 _ _ _ _ _ _ _ _ _ _ _ _ _ _ LR _ hRd hlr).mono ?_
        rintro e w2 ⟨⟨t2, rfl⟩, b2⟩
        have hzz2 : w.heap.size < w2.heap.size := Nat.lt_of_lt_of_le hzzd b2.size
        have lw2 : Below w.heap.size w w2 := lwd.trans (b2.mono lwd.size)
        have rblk_w2 : w2.heap[w.heap.size]? = some (.cells #[.int .i64 rsz, .string rsha, .string rmd, .int .i64 rrp, .slice ra LR.length rc, .int .i64 rver, .int .i64 rep, .int .i64 rrm, .string rwr, .bool rdm, .bool rpt] 34 (0, 0)) := by rw [b2.block _ (by omega)]; exact rblk_wd
        have hH2 := hHd.below b2 (Nat.le_refl _)
        have hP2 := hPd.below b2 (Nat.le_refl _)
        have hA2 := hAd.below b2 (Nat.le_refl _)
        have hQ2 := hQd.below b2 (Nat.le_refl _)
        clear c0 c1 c2 c3 c4 c5 c6 c7 c8 c9 c10 hHd hPd hAd hQd hRd rblk_wd b2 lwd hzzd
        as_aux_lemma =>
        go_wp2_with fail
        refine (addStrs10 _ _ H _ hH2 (by omega)).mono ?_
        rintro e w' ⟨⟨t3, rfl⟩, hw⟩
        subst w'
        go_wp2_with fail
        refine (addStrs10 _ _ P _ hP2 (by omega)).mono ?_
        rintro e w' ⟨⟨t4, rfl⟩, hw⟩
        subst w'
        go_wp2_with fail
        refine (addStrs10 _ _ AD _ hA2 (by omega)).mono ?_
        rintro e w' ⟨⟨t5, rfl⟩, hw⟩
        subst w'
        as_aux_lemma =>
        go_wp2_with fail
        refine (addReps24 _ _ rs _ hQ2 (by omega) HLN).mono ?_
        rintro e w3 ⟨⟨t6, rfl⟩, b3⟩
        have hzz3 : w.heap.size < w3.heap.size := Nat.lt_of_lt_of_le hzz2 b3.size
        have lw3 : Below w.heap.size w w3 := lw2.trans (b3.mono lw2.size)
        have rblk_w3 : w3.heap[w.heap.size]? = some (.cells #[.int .i64 rsz, .string rsha, .string rmd, .int .i64 rrp, .slice ra LR.length rc, .int .i64 rver, .int .i64 rep, .int .i64 rrm, .string rwr, .bool rdm, .bool rpt] 34 (0, 0)) := by rw [b3.block _ (by omega)]; exact rblk_w2
        have hH3 := hH2.below b3 (Nat.le_refl _)
        have hP3 := hP2.below b3 (Nat.le_refl _)
        have hA3 := hA2.below b3 (Nat.le_refl _)
        have hQ3 := hQ2.below b3 (Nat.le_refl _)
        clear hH2 hP2 hA2 hQ2 rblk_w2 b3 lw2 hzz2
        by_cases hq3 : 1048576 < t6
        · go_wp2
          go_ret
          exact ⟨rfl, lw3⟩
        as_aux_lemma =>
        go_wp2_with fail
        refine (concat16 _ _ H P _ hH3 hP3 (by omega)).mono ?_
        rintro e w4 ⟨kv, rfl, hK4, b4⟩
        have hzz4 : w.heap.size < w4.heap.size := Nat.lt_of_lt_of_le hzz3 b4.size
        have lw4 : Below w.heap.size w w4 := lw3.trans (b4.mono lw3.size)
        have rblk_w4 : w4.heap[w.heap.size]? = some (.cells #[.int .i64 rsz, .string rsha, .string rmd, .int .i64 rrp, .slice ra LR.length rc, .int .i64 rver, .int .i64 rep, .int .i64 rrm, .string rwr, .bool rdm, .bool rpt] 34 (0, 0)) := by rw [b4.block _ (by omega)]; exact rblk_w3
        have hH4 := hH3.below b4 (Nat.le_refl _)
        have hP4 := hP3.below b4 (Nat.le_refl _)
        have hA4 := hA3.below b4 (Nat.le_refl _)
        have hQ4 := hQ3.below b4 (Nat.le_refl _)
        clear hH3 hP3 hA3 hQ3 rblk_w3 b4 lw3 hzz3
        obtain ⟨ka, kc, hkv⟩ := hK4.slice
        obtain ⟨K, HK⟩ : ∃ K, Hid (H ++ P = K) := ⟨_, rfl⟩
        have hKl : K.length ≤ 512 := by rw [← HK.out, List.length_append]; omega
        rw [HK.out] at hK4 hkv
        subst hkv
        go_wp2_with fail
        refine (clone25 _ H _ hH4 (by omega)).mono ?_
        rintro e w5 ⟨cv, rfl, hC5, b5⟩
        have hzz5 : w.heap.size < w5.heap.size := Nat.lt_of_lt_of_le hzz4 b5.size
        have lw5 : Below w.heap.size w w5 := lw4.trans (b5.mono lw4.size)
        have rblk_w5 : w5.heap[w.heap.size]? = some (.cells #[.int .i64 rsz, .string rsha, .string rmd, .int .i64 rrp, .slice ra LR.length rc, .int .i64 rver, .int .i64 rep, .int .i64 rrm, .string rwr, .bool rdm, .bool rpt] 34 (0, 0)) := by rw [b5.block _ (by omega)]; exact rblk_w4
        have hH5 := hH4.below b5 (Nat.le_refl _)
        have hP5 := hP4.below b5 (Nat.le_refl _)
        have hA5 := hA4.below b5 (Nat.le_refl _)
        have hQ5 := hQ4.below b5 (Nat.le_refl _)
        have hK5 := hK4.below b5 (Nat.le_refl _)
        clear hH4 hP4 hA4 hQ4 hK4 rblk_w4 b5 lw4 hzz4
        obtain ⟨ca, cc, rfl⟩ := hC5.slice
        as_aux_lemma =>
        go_wp2_with fail
        refine (mkLay26 _ _ _ _ _ _ _).mono ?_
        rintro e w6 ⟨rfl, b6⟩
        have hzz6 : w.heap.size < w6.heap.size := Nat.lt_of_lt_of_le hzz5 b6.size
        have lw6 : Below w.heap.size w w6 := lw5.trans (b6.mono lw5.size)
        have rblk_w6 : w6.heap[w.heap.size]? = some (.cells #[.int .i64 rsz, .string rsha, .string rmd, .int .i64 rrp, .slice ra LR.length rc, .int .i64 rver, .int .i64 rep, .int .i64 rrm, .string rwr, .bool rdm, .bool rpt] 34 (0, 0)) := by rw [b6.block _ (by omega)]; exact rblk_w5
        have hH6 := hH5.below b6 (Nat.le_refl _)
        have hP6 := hP5.below b6 (Nat.le_refl _)
        have hA6 := hA5.below b6 (Nat.le_refl _)
        have hQ6 := hQ5.below b6 (Nat.le_refl _)
        have hK6 := hK5.below b6 (Nat.le_refl _)
        have hC6 := hC5.below b6 (Nat.le_refl _)
        clear hH5 hP5 hA5 hQ5 hK5 hC5 rblk_w5 b6 lw5 hzz5
        have hn1 : ¬ w.heap.size = w6.heap.size := by omega
        have hn2 : ¬ w6.heap.size = w.heap.size := by omega
        have c0 : w6.cell? ⟨w.heap.size, 0, none⟩ = some (.int .i64 rsz) := by rw [cell_of_row w6 _ 0 _ _ _ rblk_w6]; rfl
        have c1 : w6.cell? ⟨w.heap.size, 1, none⟩ = some (.string rsha) := by rw [cell_of_row w6 _ 1 _ _ _ rblk_w6]; rfl
        have c2 : w6.cell? ⟨w.heap.size, 2, none⟩ = some (.string rmd) := by rw [cell_of_row w6 _ 2 _ _ _ rblk_w6]; rfl
        have c3 : w6.cell? ⟨w.heap.size, 3, none⟩ = some (.int .i64 rrp) := by rw [cell_of_row w6 _ 3 _ _ _ rblk_w6]; rfl
        have c4 : w6.cell? ⟨w.heap.size, 4, none⟩ = some (.slice ra LR.length rc) := by rw [cell_of_row w6 _ 4 _ _ _ rblk_w6]; rfl
        have c5 : w6.cell? ⟨w.heap.size, 5, none⟩ = some (.int .i64 rver) := by rw [cell_of_row w6 _ 5 _ _ _ rblk_w6]; rfl
        have c6 : w6.cell? ⟨w.heap.size, 6, none⟩ = some (.int .i64 rep) := by rw [cell_of_row w6 _ 6 _ _ _ rblk_w6]; rfl
        have c7 : w6.cell? ⟨w.heap.size, 7, none⟩ = some (.int .i64 rrm) := by rw [cell_of_row w6 _ 7 _ _ _ rblk_w6]; rfl
        have c8 : w6.cell? ⟨w.heap.size, 8, none⟩ = some (.string rwr) := by rw [cell_of_row w6 _ 8 _ _ _ rblk_w6]; rfl
        have c9 : w6.cell? ⟨w.heap.size, 9, none⟩ = some (.bool rdm) := by rw [cell_of_row w6 _ 9 _ _ _ rblk_w6]; rfl
        have c10 : w6.cell? ⟨w.heap.size, 10, none⟩ = some (.bool rpt) := by rw [cell_of_row w6 _ 10 _ _ _ rblk_w6]; rfl
        go_wp2_with fail
        refine (mkRec27 _ _ _ _ _ _ _ _ _ _ _ _ _ _).mono ?_
        rintro e w7 ⟨rfl, b7⟩
        have hz6 : w6.heap.size < w7.heap.size := Nat.lt_of_lt_of_le (by simp) b7.size
        have l67 : Below w6.heap.size w6 w7 := ((Below.refl _ w6).alloc (Nat.le_refl _) _).trans (b7.mono (by simp))
        have lw7 : Below w.heap.size w w7 := lw6.trans (l67.mono lw6.size)
        have lblk_w7 : w7.heap[w6.heap.size]? = some (.cells #[.slice ao H.length c, .slice bo P.length d] 41 (0, 0)) := by
          rw [b7.block _ (by simp)]
          exact heap_alloc_new w6 _
        have rblk_w7 : w7.heap[w.heap.size]? = some (.cells #[.int .i64 rsz, .string rsha, .string rmd, .int .i64 rrp, .slice ra LR.length rc, .int .i64 rver, .int .i64 rep, .int .i64 rrm, .string rwr, .bool rdm, .bool rpt] 34 (0, 0)) := by rw [l67.block _ (by omega)]; exact rblk_w6
        have hH7 := hH6.below l67 (Nat.le_refl _)
        have hP7 := hP6.below l67 (Nat.le_refl _)
        have hA7 := hA6.below l67 (Nat.le_refl _)
        have hQ7 := hQ6.below l67 (Nat.le_refl _)
        have hK7 := hK6.below l67 (Nat.le_refl _)
        have hC7 := hC6.below l67 (Nat.le_refl _)
        clear c0 c1 c2 c3 c4 c5 c6 c7 c8 c9 c10 hH6 hP6 hA6 hQ6 hK6 hC6 b7
        have hmm := @run_makeMap Try.prog
        as_aux_lemma =>
        go_upto_region 24 with fail
        obtain ⟨W, hW⟩ : ∃ W, w7.alloc (.cells #[.int .i64 rsz, .string rsha, .string rmd, .int .i64 rrp, .slice ra LR.length rc, .int .i64 rver, .int .i64 rep, .int .i64 rrm, .string rwr, .bool rdm, .bool rpt] 46) = W := ⟨_, rfl⟩
        have l7W : Below w7.heap.size w7 W := by rw [← hW]; exact (Below.refl _ _).alloc (Nat.le_refl _) _
        have threeW : Three rsz rrp rver rep rrm rsha rmd rwr ra LR.length rc rdm rpt (.slice ao H.length c) (.slice bo P.length d) w.heap.size w6.heap.size w7.heap.size W :=
          ⟨by rw [← hW]; exact heap_alloc_new w7 _, by rw [l7W.block _ hz6]; exact lblk_w7, by rw [l7W.block _ (lt_of_block rblk_w7)]; exact rblk_w7⟩
        have lwW : Below w.heap.size w W := lw7.trans (l7W.mono lw7.size)
        have hHW := hH7.below l7W (Nat.le_refl _)
        have hPW := hP7.below l7W (Nat.le_refl _)
        have hAW := hA7.below l7W (Nat.le_refl _)
        have hQW := hQ7.below l7W (Nat.le_refl _)
        have hKW := hK7.below l7W (Nat.le_refl _)
        have hCW := hC7.below l7W (Nat.le_refl _)
        have hHl : H.length ≤ 1000 := by omega
        have hPl : P.length ≤ 1000 := by omega
        have hAl : AD.length ≤ 4096 := by omega
        rw [hW]
        clear hW l7W hH7 hP7 hA7 hQ7 hK7 hC7 rblk_w7 lblk_w7 rblk_w6 lw7 lw6 l67 hz6 hn1 hn2 hzz6 hq1 hq2 hq3 hlr i0 hi hz0 hz1 hz2 HLN
        generalize w6.heap.size = lp at *
        generalize w7.heap.size = rp at *
        clear w6 w7
        go_cut [18] (fun s18 wc => (∃ n : Nat, s18 = .int .i64 n ∧ n ≤ AD.length ∧ n ≤ rs.length) ∧ wc = W)
        case first =>
          go_wp2
          all_goals
            go_meet
            case rel => exact ⟨⟨_, rfl, by omega, by omega⟩, rfl⟩
        case rest =>
        obtain ⟨⟨n, rfl, hnA, hnR⟩, hwc⟩ := hcut
        subst hwc
        obtain ⟨W, hW⟩ : ∃ x, x = wc := ⟨_, rfl⟩
        subst hW
        as_aux_lemma =>
        go_wp2_with fail
        go_loopw [21] (fun i wr => ∃ (k n' : Nat) (F G : ByteArray → Option (Ans × List ByteArray)), k ≤ n ∧ i = .int .i64 k ∧ n' ≤ k ∧ MapIs wr W.heap.size k (fun s => (fstA F s).map Ans.val) ∧ MapIs wr (W.heap.size + 1) n' (fun s => (fstA G s).map Ans.val) ∧ Hid (∀ s ∈ K, G s = F s) ∧ Hid (∀ s p, F s = some p → SL W p.1.hv p.2) ∧ Below W.heap.size W wr) (fun i _ => n - (intOf i).toNat)
        case atStart =>
          refine ⟨0, 0, fun _ => none, fun _ => none, Nat.zero_le _, rfl, Nat.le_refl _, ?_, ?_, (fun s hs => rfl), (fun s p hp => by cases hp), ((Below.refl _ _).alloc (Nat.le_refl _) _).alloc (by simp) _⟩
          · exact (map_made W).below ((Below.refl _ _).alloc (Nat.le_refl _) _) (by simp)
          · have := map_made (W.alloc (.map #[] 0))
            rw [show (W.alloc (.map #[] 0)).heap.size = W.heap.size + 1 by simp] at this
            exact this
        case round =>
          obtain ⟨k, n', F, G, hk, rfl, hn', hM1, hM2, HG, HF, hbe⟩ := hrel
          by_cases hlt : k < n
          · as_aux_lemma =>
            obtain ⟨b, o, r, L, hx, hblt, hr, hR⟩ := hQW.at (show k < rs.length by omega)
            subst hx
            obtain ⟨xad, xre, xhe, xfr, xsz, xrp, xver, xep, xrm, xsha, xmd, xwr, xa, xn, xc, xdm, xpt⟩ := r
            have HsL : Hid (SL W (.slice xa xn xc) L) := hR.2
            obtain ⟨⟨d0, d1, d2, d3, d4, d5, d6, d7, d8, d9, d10, d11, d12, d13, d14⟩, _⟩ := hR.below hblt hbe (Nat.le_refl _)
            clear hr hR
            dsimp only at d0 d1 d2 d3 d4 d5 d6 d7 d8 d9 d10 d11 d12 d13 d14
            have hkA : k < AD.length := by omega
            obtain ⟨ab, aof, hxa, hga, hca⟩ := hAW.at hkA
            subst hxa
            have hca' := (hbe.cell (p := ⟨ab, aof + k, none⟩) hga).trans hca
            obtain ⟨ad, HAD⟩ : ∃ x : ByteArray, Hid (AD[k] = x) := ⟨AD[k], rfl⟩
            rw [HAD.out] at hca'
            have had : Hid (ad.size ≤ maxLen) := by
              show ad.size ≤ maxLen
              rw [← HAD.out]
              exact HSA.out _ (List.getElem_mem hkA)
            clear hca
            go_wp2_with fail
            refine (mkAns28 _ _ _ _ _ _ _ _ _ _ _ _ _ _ _ _ _ _).mono ?_
            rintro e w1 ⟨rfl, b1⟩
            clear d0 d1 d2 d3 d4 d5 d6 d7 d8 d9 d10 d11 d12 d13 d14
            go_upto_region 31 with fail
            obtain ⟨V, hV⟩ : ∃ V, w1.alloc (.cells #[.string xad, .bool xre, .bool xhe, .int .i64 xsz, .string xsha, .string xmd, .int .i64 xrp, .slice xa xn xc, .int .i64 xver, .int .i64 xep, .int .i64 xrm, .string xwr, .bool xdm, .bool xpt, .int .i64 xfr] 50) = V := ⟨_, rfl⟩
            have l1V : Below w1.heap.size w1 V := by rw [← hV]; exact (Below.refl _ _).alloc (Nat.le_refl _) _
            have vblk : V.heap[w1.heap.size]? = some (.cells #[.string xad, .bool xre, .bool xhe, .int .i64 xsz, .string xsha, .string xmd, .int .i64 xrp, .slice xa xn xc, .int .i64 xver, .int .i64 xep, .int .i64 xrm, .string xwr, .bool xdm, .bool xpt, .int .i64 xfr] 50 (0, 0)) := by rw [← hV]; exact heap_alloc_new w1 _
            have lrV : Below wr.heap.size wr V.drew := (b1.trans (l1V.mono b1.size)).drew
            have hvp : W.heap.size + 1 < w1.heap.size := Nat.lt_of_lt_of_le hM2.lt b1.size
            rw [hV]
            clear hV l1V b1
            have hM1d := hM1.below lrV hM1.lt
            have hM2d := hM2.below lrV hM2.lt
            have lV : Below W.heap.size W V.drew := hbe.trans (lrV.mono hbe.size)
            have hcaV : V.drew.cell? ⟨ab, aof + k, none⟩ = some (.string ad) := (lrV.cell (p := ⟨ab, aof + k, none⟩) (Nat.lt_of_lt_of_le hga hbe.size)).trans hca'
            clear hM1 hM2 lrV hca' hbe
            generalize w1.heap.size = vp at *
            obtain ⟨w4, hst, hM4, hg4⟩ := hM1d.store (by unfold maxLen; omega) had.out (Ans.mk xad xre xhe xfr xsz xrp xver xep xrm xsha xmd xwr xa xn xc xdm xpt).val
            simp only [Ans.val] at hst
            have vblk' : V.drew.heap[vp]? = some (.cells #[.string xad, .bool xre, .bool xhe, .int .i64 xsz, .string xsha, .string xmd, .int .i64 xrp, .slice xa xn xc, .int .i64 xver, .int .i64 xep, .int .i64 xrm, .string xwr, .bool xdm, .bool xpt, .int .i64 xfr] 50 (0, 0)) := vblk
            have sV : V.drew.cell? ⟨vp, 0, none⟩ = some (.string xad) ∧ V.drew.cell? ⟨vp, 1, none⟩ = some (.bool xre) ∧ V.drew.cell? ⟨vp, 2, none⟩ = some (.bool xhe) ∧ V.drew.cell? ⟨vp, 3, none⟩ = some (.int .i64 xsz) ∧ V.drew.cell? ⟨vp, 4, none⟩ = some (.string xsha) ∧ V.drew.cell? ⟨vp, 5, none⟩ = some (.string xmd) ∧ V.drew.cell? ⟨vp, 6, none⟩ = some (.int .i64 xrp) ∧ V.drew.cell? ⟨vp, 7, none⟩ = some (.slice xa xn xc) ∧ V.drew.cell? ⟨vp, 8, none⟩ = some (.int .i64 xver) ∧ V.drew.cell? ⟨vp, 9, none⟩ = some (.int .i64 xep) ∧ V.drew.cell? ⟨vp, 10, none⟩ = some (.int .i64 xrm) ∧ V.drew.cell? ⟨vp, 11, none⟩ = some (.string xwr) ∧ V.drew.cell? ⟨vp, 12, none⟩ = some (.bool xdm) ∧ V.drew.cell? ⟨vp, 13, none⟩ = some (.bool xpt) ∧ V.drew.cell? ⟨vp, 14, none⟩ = some (.int .i64 xfr) ∧ V.drew.cell? ⟨ab, aof + k, none⟩ = some (.string ad) := by
              refine ⟨?_, ?_, ?_, ?_, ?_, ?_, ?_, ?_, ?_, ?_, ?_, ?_, ?_, ?_, ?_, hcaV⟩
              all_goals (rw [cell_of_row V.drew _ _ _ _ _ vblk']; rfl)
            have hc4 : ∀ p v, p.block ≠ W.heap.size → V.drew.cell? p = some v → w4.cell? p = some v := fun p v hne h => hg4.cell h (fun e => hne (by simpa using e))
            have s4 : w4.cell? ⟨vp, 0, none⟩ = some (.string xad) ∧ w4.cell? ⟨vp, 1, none⟩ = some (.bool xre) ∧ w4.cell? ⟨vp, 2, none⟩ = some (.bool xhe) ∧ w4.cell? ⟨vp, 3, none⟩ = some (.int .i64 xsz) ∧ w4.cell? ⟨vp, 4, none⟩ = some (.string xsha) ∧ w4.cell? ⟨vp, 5, none⟩ = some (.string xmd) ∧ w4.cell? ⟨vp, 6, none⟩ = some (.int .i64 xrp) ∧ w4.cell? ⟨vp, 7, none⟩ = some (.slice xa xn xc) ∧ w4.cell? ⟨vp, 8, none⟩ = some (.int .i64 xver) ∧ w4.cell? ⟨vp, 9, none⟩ = some (.int .i64 xep) ∧ w4.cell? ⟨vp, 10, none⟩ = some (.int .i64 xrm) ∧ w4.cell? ⟨vp, 11, none⟩ = some (.string xwr) ∧ w4.cell? ⟨vp, 12, none⟩ = some (.bool xdm) ∧ w4.cell? ⟨vp, 13, none⟩ = some (.bool xpt) ∧ w4.cell? ⟨vp, 14, none⟩ = some (.int .i64 xfr) ∧ w4.cell? ⟨ab, aof + k, none⟩ = some (.string ad) := by
              obtain ⟨g0, g1, g2, g3, g4, g5, g6, g7, g8, g9, g10, g11, g12, g13, g14, g15⟩ := sV
              exact ⟨hc4 _ _ (by simp; omega) g0, hc4 _ _ (by simp; omega) g1, hc4 _ _ (by simp; omega) g2, hc4 _ _ (by simp; omega) g3, hc4 _ _ (by simp; omega) g4, hc4 _ _ (by simp; omega) g5, hc4 _ _ (by simp; omega) g6, hc4 _ _ (by simp; omega) g7, hc4 _ _ (by simp; omega) g8, hc4 _ _ (by simp; omega) g9, hc4 _ _ (by simp; omega) g10, hc4 _ _ (by simp; omega) g11, hc4 _ _ (by simp; omega) g12, hc4 _ _ (by simp; omega) g13, hc4 _ _ (by simp; omega) g14, hc4 _ _ (by simp; omega) g15⟩
            have l4 : Below W.heap.size W w4 := lV.grown hg4 lV.size (fun q hq => by cases hq; exact Nat.le_refl _)
            have hM2e := hM2d.grown hg4 (by simp)
            have HM4 : Hid (MapIs w4 W.heap.size (k + 1) (fun s => (fstA (put F ad ((Ans.mk xad xre xhe xfr xsz xrp xver xep xrm xsha xmd xwr xa xn xc xdm xpt), L)) s).map Ans.val)) := by
              show MapIs w4 W.heap.size (k + 1) (fun s => (fstA (put F ad ((Ans.mk xad xre xhe xfr xsz xrp xver xep xrm xsha xmd xwr xa xn xc xdm xpt), L)) s).map Ans.val)
              rw [put_val]
              exact hM4
            clear hM1d hM2d hM4 hc4 vblk vblk' lV hg4 hcaV
            go_region_held3 (fun w' => w'.cell? ⟨vp, 0, none⟩ = some (.string xad) ∧ w'.cell? ⟨vp, 1, none⟩ = some (.bool xre) ∧ w'.cell? ⟨vp, 2, none⟩ = some (.bool xhe) ∧ w'.cell? ⟨vp, 3, none⟩ = some (.int .i64 xsz) ∧ w'.cell? ⟨vp, 4, none⟩ = some (.string xsha) ∧ w'.cell? ⟨vp, 5, none⟩ = some (.string xmd) ∧ w'.cell? ⟨vp, 6, none⟩ = some (.int .i64 xrp) ∧ w'.cell? ⟨vp, 7, none⟩ = some (.slice xa xn xc) ∧ w'.cell? ⟨vp, 8, none⟩ = some (.int .i64 xver) ∧ w'.cell? ⟨vp, 9, none⟩ = some (.int .i64 xep) ∧ w'.cell? ⟨vp, 10, none⟩ = some (.int .i64 xrm) ∧ w'.cell? ⟨vp, 11, none⟩ = some (.string xwr) ∧ w'.cell? ⟨vp, 12, none⟩ = some (.bool xdm) ∧ w'.cell? ⟨vp, 13, none⟩ = some (.bool xpt) ∧ w'.cell? ⟨vp, 14, none⟩ = some (.int .i64 xfr) ∧ w'.cell? ⟨ab, aof + k, none⟩ = some (.string ad))
              (with_reducible assumption)
              (fail)
            obtain ⟨bb, HB⟩ : ∃ x : Bool, Hid (mem K ad = x) := ⟨mem K ad, rfl⟩
            have hc5 : w4.cell? ⟨ab, aof + k, none⟩ = some (.string ad) := s4.2.2.2.2.2.2.2.2.2.2.2.2.2.2.2
            go_wp2_with fail
            refine (member12 _ K ad _ (hKW.below l4 (Nat.le_refl _)) (by omega)).mono ?_
            rintro e w' ⟨rfl, hw⟩
            subst w'
            rw [HB.out]
            cases bb with
            | false =>
              go_wp2
              go_roundw
              case rel => exact ⟨k + 1, n', put F ad ((Ans.mk xad xre xhe xfr xsz xrp xver xep xrm xsha xmd xwr xa xn xc xdm xpt), L), G, by omega, by go_num, by omega, HM4.out, hM2e, agree_out HG.out ad ((Ans.mk xad xre xhe xfr xsz xrp xver xep xrm xsha xmd xwr xa xn xc xdm xpt), L) HB.out, reads_put HF.out HsL.out, l4⟩
              case measure => simp [intOf]; omega
            | true =>
              go_upto_region 33 with fail
              have s4' : w4.drew.cell? ⟨vp, 0, none⟩ = some (.string xad) ∧ w4.drew.cell? ⟨vp, 1, none⟩ = some (.bool xre) ∧ w4.drew.cell? ⟨vp, 2, none⟩ = some (.bool xhe) ∧ w4.drew.cell? ⟨vp, 3, none⟩ = some (.int .i64 xsz) ∧ w4.drew.cell? ⟨vp, 4, none⟩ = some (.string xsha) ∧ w4.drew.cell? ⟨vp, 5, none⟩ = some (.string xmd) ∧ w4.drew.cell? ⟨vp, 6, none⟩ = some (.int .i64 xrp) ∧ w4.drew.cell? ⟨vp, 7, none⟩ = some (.slice xa xn xc) ∧ w4.drew.cell? ⟨vp, 8, none⟩ = some (.int .i64 xver) ∧ w4.drew.cell? ⟨vp, 9, none⟩ = some (.int .i64 xep) ∧ w4.drew.cell? ⟨vp, 10, none⟩ = some (.int .i64 xrm) ∧ w4.drew.cell? ⟨vp, 11, none⟩ = some (.string xwr) ∧ w4.drew.cell? ⟨vp, 12, none⟩ = some (.bool xdm) ∧ w4.drew.cell? ⟨vp, 13, none⟩ = some (.bool xpt) ∧ w4.drew.cell? ⟨vp, 14, none⟩ = some (.int .i64 xfr) ∧ w4.drew.cell? ⟨ab, aof + k, none⟩ = some (.string ad) := s4
              obtain ⟨w5, hst5, hM5, hg5⟩ := (hM2e.below ((Below.refl _ w4).drew) hM2e.lt).store (by unfold maxLen; omega) had.out (Ans.mk xad xre xhe xfr xsz xrp xver xep xrm xsha xmd xwr xa xn xc xdm xpt).val
              simp only [Ans.val] at hst5
              have hc6 : ∀ p v, p.block ≠ W.heap.size + 1 → w4.drew.cell? p = some v → w5.cell? p = some v := fun p v hne h => hg5.cell h (fun e => hne (by simpa using e))
              have s5 : w5.cell? ⟨vp, 0, none⟩ = some (.string xad) ∧ w5.cell? ⟨vp, 1, none⟩ = some (.bool xre) ∧ w5.cell? ⟨vp, 2, none⟩ = some (.bool xhe) ∧ w5.cell? ⟨vp, 3, none⟩ = some (.int .i64 xsz) ∧ w5.cell? ⟨vp, 4, none⟩ = some (.string xsha) ∧ w5.cell? ⟨vp, 5, none⟩ = some (.string xmd) ∧ w5.cell? ⟨vp, 6, none⟩ = some (.int .i64 xrp) ∧ w5.cell? ⟨vp, 7, none⟩ = some (.slice xa xn xc) ∧ w5.cell? ⟨vp, 8, none⟩ = some (.int .i64 xver) ∧ w5.cell? ⟨vp, 9, none⟩ = some (.int .i64 xep) ∧ w5.cell? ⟨vp, 10, none⟩ = some (.int .i64 xrm) ∧ w5.cell? ⟨vp, 11, none⟩ = some (.string xwr) ∧ w5.cell? ⟨vp, 12, none⟩ = some (.bool xdm) ∧ w5.cell? ⟨vp, 13, none⟩ = some (.bool xpt) ∧ w5.cell? ⟨vp, 14, none⟩ = some (.int .i64 xfr) ∧ w5.cell? ⟨ab, aof + k, none⟩ = some (.string ad) := by
                obtain ⟨g0, g1, g2, g3, g4, g5, g6, g7, g8, g9, g10, g11, g12, g13, g14, g15⟩ := s4'
                exact ⟨hc6 _ _ (by simp; omega) g0, hc6 _ _ (by simp; omega) g1, hc6 _ _ (by simp; omega) g2, hc6 _ _ (by simp; omega) g3, hc6 _ _ (by simp; omega) g4, hc6 _ _ (by simp; omega) g5, hc6 _ _ (by simp; omega) g6, hc6 _ _ (by simp; omega) g7, hc6 _ _ (by simp; omega) g8, hc6 _ _ (by simp; omega) g9, hc6 _ _ (by simp; omega) g10, hc6 _ _ (by simp; omega) g11, hc6 _ _ (by simp; omega) g12, hc6 _ _ (by simp; omega) g13, hc6 _ _ (by simp; omega) g14, hc6 _ _ (by simp; omega) g15⟩
              have l5 : Below W.heap.size W w5 := l4.drew.grown hg5 l4.drew.size (fun q hq => by cases hq; exact Nat.le_succ _)
              have HM5 : Hid (MapIs w5 (W.heap.size + 1) (n' + 1) (fun s => (fstA (put G ad ((Ans.mk xad xre xhe xfr xsz xrp xver xep xrm xsha xmd xwr xa xn xc xdm xpt), L)) s).map Ans.val)) := by
                show MapIs w5 (W.heap.size + 1) (n' + 1) (fun s => (fstA (put G ad ((Ans.mk xad xre xhe xfr xsz xrp xver xep xrm xsha xmd xwr xa xn xc xdm xpt), L)) s).map Ans.val)
                rw [put_val]
                exact hM5
              have HM6 : Hid (MapIs w5 W.heap.size (k + 1) (fun s => (fstA (put F ad ((Ans.mk xad xre xhe xfr xsz xrp xver xep xrm xsha xmd xwr xa xn xc xdm xpt), L)) s).map Ans.val)) :=
                (HM4.out.below ((Below.refl _ w4).drew) HM4.out.lt).grown hg5 (by simp)
              clear hM5 hc6 hg5 hM2e HM4 s4 l4 hst
              go_region_held3 (fun w' => w'.cell? ⟨vp, 0, none⟩ = some (.string xad) ∧ w'.cell? ⟨vp, 1, none⟩ = some (.bool xre) ∧ w'.cell? ⟨vp, 2, none⟩ = some (.bool xhe) ∧ w'.cell? ⟨vp, 3, none⟩ = some (.int .i64 xsz) ∧ w'.cell? ⟨vp, 4, none⟩ = some (.string xsha) ∧ w'.cell? ⟨vp, 5, none⟩ = some (.string xmd) ∧ w'.cell? ⟨vp, 6, none⟩ = some (.int .i64 xrp) ∧ w'.cell? ⟨vp, 7, none⟩ = some (.slice xa xn xc) ∧ w'.cell? ⟨vp, 8, none⟩ = some (.int .i64 xver) ∧ w'.cell? ⟨vp, 9, none⟩ = some (.int .i64 xep) ∧ w'.cell? ⟨vp, 10, none⟩ = some (.int .i64 xrm) ∧ w'.cell? ⟨vp, 11, none⟩ = some (.string xwr) ∧ w'.cell? ⟨vp, 12, none⟩ = some (.bool xdm) ∧ w'.cell? ⟨vp, 13, none⟩ = some (.bool xpt) ∧ w'.cell? ⟨vp, 14, none⟩ = some (.int .i64 xfr) ∧ w'.cell? ⟨ab, aof + k, none⟩ = some (.string ad))
                (with_reducible assumption)
                (fail)
              go_wp2
              go_roundw
              case rel => exact ⟨k + 1, n' + 1, put F ad ((Ans.mk xad xre xhe xfr xsz xrp xver xep xrm xsha xmd xwr xa xn xc xdm xpt), L), put G ad ((Ans.mk xad xre xhe xfr xsz xrp xver xep xrm xsha xmd xwr xa xn xc xdm xpt), L), by omega, by go_num, by omega, HM6.out, HM5.out, agree_both HG.out ad ((Ans.mk xad xre xhe xfr xsz xrp xver xep xrm xsha xmd xwr xa xn xc xdm xpt), L), reads_put HF.out HsL.out, l5⟩
              case measure => simp [intOf]; omega
          · as_aux_lemma =>
            clear hQW hAW HSA hAl hnA hnR
            have lwr : Three rsz rrp rver rep rrm rsha rmd rwr ra LR.length rc rdm rpt (.slice ao H.length c) (.slice bo P.length d) w.heap.size lp rp wr := threeW.below hbe
            obtain ⟨c0, c1, c2, c3, c4, c5, c6, c7, c8, c9, c10, c11, c12, c13, c14, c15, c16, c17, c18, c19, c20, c21, c22, c23⟩ := boxes3 rsz rrp rver rep rrm rsha rmd rwr ra LR.length rc rdm rpt (.slice ao H.length c) (.slice bo P.length d) w.heap.size lp rp wr lwr
            have hKW' : SL W (.slice ka K.length kc) (H ++ P) := by rw [HK.out]; exact hKW
            have HFr : Hid (∀ s p, F s = some p → SL wr p.1.hv p.2) := fun s p hp => (HF.out s p hp).below hbe (Nat.le_refl _)
            have HGr : Hid (∀ s ∈ H ++ P, G s = F s) := by
              show ∀ s ∈ H ++ P, G s = F s
              rw [HK.out]
              exact HG.out
            obtain ⟨gb, HGB⟩ : ∃ x : Bool, Hid ((H ++ P).all (okA rver rep H P (sndL F) (fstA F)) = x) := ⟨_, rfl⟩
            clear HF HG
            go_wp2_with fail
            refine (laid29 _ _ _ _ _ _ _ _ _ _ _ _ _ _ _ H P W.heap.size k (fstA F) (sndL F) _ (hHW.below hbe (Nat.le_refl _)) (hPW.below hbe (Nat.le_refl _)) (by omega) hM1 (fun s hs => reads_F HFr.out s) HS.out).mono ?_
            rintro e w1 ⟨rfl, b1⟩
            rw [HGB.out]
            have l1 : Below W.heap.size W w1 := hbe.trans (b1.mono hbe.size)
            clear c0 c1 c2 c3 c4 c5 c6 c7 c8 c9 c10 c11 c12 c13 c14 c15 c16 c17 c18 c19 c20 c21 c22 c23 lwr
            have lw1 : Three rsz rrp rver rep rrm rsha rmd rwr ra LR.length rc rdm rpt (.slice ao H.length c) (.slice bo P.length d) w.heap.size lp rp w1 := threeW.below l1
            obtain ⟨c0, c1, c2, c3, c4, c5, c6, c7, c8, c9, c10, c11, c12, c13, c14, c15, c16, c17, c18, c19, c20, c21, c22, c23⟩ := boxes3 rsz rrp rver rep rrm rsha rmd rwr ra LR.length rc rdm rpt (.slice ao H.length c) (.slice bo P.length d) w.heap.size lp rp w1 lw1
            as_aux_lemma =>
            go_wp2_with fail
            refine (laid29 _ _ _ _ _ _ _ _ _ _ _ _ _ _ _ H P (W.heap.size + 1) n' (fstA G) (sndL G) _ (hHW.below l1 (Nat.le_refl _)) (hPW.below l1 (Nat.le_refl _)) (by omega) (hM2.below b1 hM2.lt) (fun s hs => by
              have e1 : atA (fstA G) s = atA (fstA F) s := by unfold atA fstA; rw [HGr.out s hs]
              have e2 : sndL G s = sndL F s := by unfold sndL; rw [HGr.out s hs]
              rw [e1, e2]
              exact (reads_F HFr.out s).below b1 (Nat.le_refl _)) HS.out).mono ?_
            rintro e w2 ⟨rfl, b2⟩
            rw [all_agree HGr.out, HGB.out]
            have l2 : Below W.heap.size W w2 := l1.trans (b2.mono l1.size)
            have lr2 : Below wr.heap.size wr w2 := b1.trans (b2.mono b1.size)
            have HFm : Hid (MapIs w2 W.heap.size k (fun s => (fstA F s).map Ans.val)) := hM1.below lr2 hM1.lt
            have HF2 : Hid (∀ s p, F s = some p → SL w2 p.1.hv p.2) := fun s p hp => (HFr.out s p hp).below lr2 (Nat.le_refl _)
            clear c0 c1 c2 c3 c4 c5 c6 c7 c8 c9 c10 c11 c12 c13 c14 c15 c16 c17 c18 c19 c20 c21 c22 c23 lw1 hM1 hM2 HFr HGr hbe l1 b1 b2 lr2
            go_upto_region 36 with fail
            have hd : Below W.heap.size W w2.drew := l2.drew
            have fd : Three rsz rrp rver rep rrm rsha rmd rwr ra LR.length rc rdm rpt (.slice ao H.length c) (.slice bo P.length d) w.heap.size lp rp w2.drew := threeW.below hd
            go_region_held3 (fun w' => w'.cell? ⟨rp, 0, none⟩ = some (.int .i64 rsz) ∧ w'.cell? ⟨rp, 1, none⟩ = some (.string rsha) ∧ w'.cell? ⟨rp, 2, none⟩ = some (.string rmd) ∧ w'.cell? ⟨rp, 3, none⟩ = some (.int .i64 rrp) ∧ w'.cell? ⟨rp, 4, none⟩ = some (.slice ra LR.length rc) ∧ w'.cell? ⟨rp, 5, none⟩ = some (.int .i64 rver) ∧ w'.cell? ⟨rp, 6, none⟩ = some (.int .i64 rep) ∧ w'.cell? ⟨rp, 7, none⟩ = some (.int .i64 rrm) ∧ w'.cell? ⟨rp, 8, none⟩ = some (.string rwr) ∧ w'.cell? ⟨rp, 9, none⟩ = some (.bool rdm) ∧ w'.cell? ⟨rp, 10, none⟩ = some (.bool rpt) ∧ w'.cell? ⟨lp, 0, none⟩ = some (.slice ao H.length c) ∧ w'.cell? ⟨lp, 1, none⟩ = some (.slice bo P.length d) ∧ w'.cell? ⟨w.heap.size, 0, none⟩ = some (.int .i64 rsz) ∧ w'.cell? ⟨w.heap.size, 1, none⟩ = some (.string rsha) ∧ w'.cell? ⟨w.heap.size, 2, none⟩ = some (.string rmd) ∧ w'.cell? ⟨w.heap.size, 3, none⟩ = some (.int .i64 rrp) ∧ w'.cell? ⟨w.heap.size, 4, none⟩ = some (.slice ra LR.length rc) ∧ w'.cell? ⟨w.heap.size, 5, none⟩ = some (.int .i64 rver) ∧ w'.cell? ⟨w.heap.size, 6, none⟩ = some (.int .i64 rep) ∧ w'.cell? ⟨w.heap.size, 7, none⟩ = some (.int .i64 rrm) ∧ w'.cell? ⟨w.heap.size, 8, none⟩ = some (.string rwr) ∧ w'.cell? ⟨w.heap.size, 9, none⟩ = some (.bool rdm) ∧ w'.cell? ⟨w.heap.size, 10, none⟩ = some (.bool rpt))
              (exact boxes3 rsz rrp rver rep rrm rsha rmd rwr ra LR.length rc rdm rpt (.slice ao H.length c) (.slice bo P.length d) w.heap.size lp rp _ (by assumption))
              (first
                | (go_at_call 30
                   refine (ideal30 _ _ _ _ _ _ _ _ _ _ _ _ _ _ _ _ H P (H ++ P) _ (hCW.below hd (Nat.le_refl _)) (hPW.below hd (Nat.le_refl _)) (hKW'.below hd (Nat.le_refl _)) (by omega) (by rw [List.length_append]; omega) HS.out ca cc rfl).mono ?_
                   rintro e wa ⟨m, hm, rfl, hMm, ba⟩
                   have la : Below W.heap.size W wa := hd.trans (ba.mono hd.size)
                   have fa : Three rsz rrp rver rep rrm rsha rmd rwr ra LR.length rc rdm rpt (.slice ao H.length c) (.slice bo P.length d) w.heap.size lp rp wa := threeW.below la)
                | (go_at_call 29
                   refine (laid29 _ _ _ _ _ _ _ _ _ _ _ _ _ _ _ H P m _ (idealF rver rep ca H.length cc P (H ++ P)) (fun _ => H) _ (hHW.below la (Nat.le_refl _)) (hPW.below la (Nat.le_refl _)) (by omega) hMm (reads_ideal (hCW.below la (Nat.le_refl _))) HS.out).mono ?_
                   rintro e wz ⟨rfl, bz⟩
                   rw [ideal_all]
                   have lz : Below W.heap.size W wz := la.trans (bz.mono la.size)
                   have l2z : Below w2.heap.size w2 wz := ((Below.refl _ w2).drew.trans ba).trans (bz.mono ba.size)
                   have fz : Three rsz rrp rver rep rrm rsha rmd rwr ra LR.length rc rdm rpt (.slice ao H.length c) (.slice bo P.length d) w.heap.size lp rp wz := threeW.below lz))
            have HMz : Hid (MapIs wz W.heap.size k (fun s => (fstA F s).map Ans.val)) := HFm.out.below l2z HFm.out.lt
            have HFz : Hid (∀ s p, F s = some p → SL wz p.1.hv p.2) := fun s p hp => (HF2.out s p hp).below l2z (Nat.le_refl _)
            clear hMm ba la fa bz hd fd l2 l2z HFm HF2 hm
            as_aux_lemma =>
            go_wp2_with fail
            go_loopw [26, 154] (fun ev i wq => ∃ (j : Nat) (x : Bool), j ≤ K.length ∧ i = .int .i64 j ∧ ev = .bool x ∧ Hid ((K.take j).all (okA rver rep H P (sndL F) (fstA F)) = x) ∧ Below wz.heap.size wz wq) (fun _ i _ => K.length - (intOf i).toNat)
            case atStart => exact ⟨0, true, Nat.zero_le _, rfl, rfl, (rfl : ([] : List ByteArray).all (okA rver rep H P (sndL F) (fstA F)) = true), Below.refl _ _⟩
            case round =>
              obtain ⟨j, x, hj, rfl, rfl, HX, hbq⟩ := hrel
              obtain ⟨wq, hwq⟩ : ∃ x, x = wr := ⟨_, rfl⟩
              subst hwq
              by_cases hjl : j < K.length
              · as_aux_lemma =>
                have lq : Below W.heap.size W wq := lz.trans (hbq.mono lz.size)
                obtain ⟨c0, c1, c2, c3, c4, c5, c6, c7, c8, c9, c10, c11, c12, c13, c14, c15, c16, c17, c18, c19, c20, c21, c22, c23⟩ := boxes3 rsz rrp rver rep rrm rsha rmd rwr ra LR.length rc rdm rpt (.slice ao H.length c) (.slice bo P.length d) w.heap.size lp rp wq (threeW.below lq)
                obtain ⟨kb, ko, hxk, hkb, hkc⟩ := hKW.at hjl
                subst hxk
                have hkc' := (lq.cell (p := ⟨kb, ko + j, none⟩) hkb).trans hkc
                obtain ⟨ad, HAD⟩ : ∃ x : ByteArray, Hid (K[j] = x) := ⟨K[j], rfl⟩
                rw [HAD.out] at hkc'
                have hin : Hid (ad ∈ H ++ P) := by
                  show ad ∈ H ++ P
                  rw [HK.out, ← HAD.out]
                  exact List.getElem_mem hjl
                have had : Hid (ad.size ≤ maxLen) := HS.out _ hin.out
                clear hkc
                go_wp2_with fail
                refine (ideal30 _ _ _ _ _ _ _ _ _ _ _ _ _ _ _ _ H P (H ++ P) _ (hCW.below lq (Nat.le_refl _)) (hPW.below lq (Nat.le_refl _)) (hKW'.below lq (Nat.le_refl _)) (by omega) (by rw [List.length_append]; omega) HS.out ca cc rfl).mono ?_
                rintro e w3 ⟨m, hm, rfl, hMm, b3⟩
                have l3 : Below W.heap.size W w3 := lq.trans (b3.mono lq.size)
                have lz3 : Below wz.heap.size wz w3 := hbq.trans (b3.mono hbq.size)
                have hmW : W.heap.size ≤ m := Nat.le_trans lq.size hm
                have hmz : wz.heap.size ≤ m := Nat.le_trans hbq.size hm
                have hKn : (H ++ P).length < maxLen := by rw [List.length_append]; unfold maxLen; omega
                have hlook := (HMz.out.below lz3 HMz.out.lt).look_ok had.out
                clear c0 c1 c2 c3 c4 c5 c6 c7 c8 c9 c10 c11 c12 c13 c14 c15 c16 c17 c18 c19 c20 c21 c22 c23 hkc' hkb b3 lq hbq
                cases hF : F ad with
                | none =>
                  have hfa : fstA F ad = none := by unfold fstA; rw [hF]; rfl
                  simp only [hfa, Option.map_none, Option.getD_none, Option.isSome_none, zeroA] at hlook
                  clear hF
                  have lA : Below w3.heap.size w3 (w3.alloc (.cells #[.string ⟨#[]⟩, .bool false, .bool false, .int .i64 0, .string ⟨#[]⟩, .string ⟨#[]⟩, .int .i64 0, .slice none 0 0, .int .i64 0, .int .i64 0, .int .i64 0, .string ⟨#[]⟩, .bool false, .bool false, .int .i64 0] 50)) := (Below.refl _ _).alloc (Nat.le_refl _) _
                  have hMA := hMm.below lA hMm.lt
                  obtain ⟨w4, hdel, hM4, hg4⟩ := hMA.drop had.out
                  have l4 : Below W.heap.size W w4 := below_grown1 (l3.trans (lA.mono l3.size)) hg4 (Nat.le_trans l3.size lA.size) hmW
                  have lz4 : Below wz.heap.size wz w4 := below_grown1 (lz3.trans (lA.mono lz3.size)) hg4 (Nat.le_trans lz3.size lA.size) hmz
                  have HM5 : Hid (∃ q, MapIs w4 m q (fun s => (updA (idealF rver rep ca H.length cc P (H ++ P)) ad (fstA F ad) s).map Ans.val)) := upd_in (idealF rver rep ca H.length cc P (H ++ P)) _ (by rw [hfa]; rfl) hM4
                  have f4 : Three rsz rrp rver rep rrm rsha rmd rwr ra LR.length rc rdm rpt (.slice ao H.length c) (.slice bo P.length d) w.heap.size lp rp w4 := threeW.below l4
                  obtain ⟨e0, e1, e2, e3, e4, e5, e6, e7, e8, e9, e10, e11, e12, e13, e14, e15, e16, e17, e18, e19, e20, e21, e22, e23⟩ := boxes3 rsz rrp rver rep rrm rsha rmd rwr ra LR.length rc rdm rpt (.slice ao H.length c) (.slice bo P.length d) w.heap.size lp rp w4 f4
                  clear hM4 hg4 hMA lA f4 hfa
                  as_aux_lemma =>
                  go_wp2_with fail
                  obtain ⟨q, hM6⟩ := HM5.out
                  refine (laid29 _ _ _ _ _ _ _ _ _ _ _ _ _ _ _ H P m q (updA (idealF rver rep ca H.length cc P (H ++ P)) ad (fstA F ad)) (updL H (sndL F ad) ad) _ (hHW.below l4 (Nat.le_refl _)) (hPW.below l4 (Nat.le_refl _)) (by omega) hM6 (reads_one (hCW.below l4 (Nat.le_refl _)) ((reads_F HFz.out ad).below lz4 (Nat.le_refl _))) HS.out).mono ?_
                  rintro e w5 ⟨rfl, b5⟩
                  rw [turn_one _ _ _ _ _ _ _ _ _ hin.out]
                  have l5 : Below wz.heap.size wz w5 := lz4.trans (b5.mono lz4.size)
                  obtain ⟨ok, HOK⟩ : ∃ x : Bool, Hid (okA rver rep H P (sndL F) (fstA F) ad = x) := ⟨_, rfl⟩
                  rw [HOK.out]
                  have HN : Hid ((K.take (j + 1)).all (okA rver rep H P (sndL F) (fstA F)) = (x && ok)) := by
                    show (K.take (j + 1)).all (okA rver rep H P (sndL F) (fstA F)) = (x && ok)
                    rw [all_take_succ hjl, HX.out, HAD.out, HOK.out]
                  cases ok
                  · go_wp2
                    go_roundw
                    case rel => exact ⟨j + 1, false, by omega, by go_num, rfl, by rw [Bool.and_false] at HN; exact HN, l5⟩
                    case measure => simp [intOf]; omega
                  · go_wp2
                    go_roundw
                    case rel => exact ⟨j + 1, x, by omega, by go_num, rfl, by rw [Bool.and_true] at HN; exact HN, l5⟩
                    case measure => simp [intOf]; omega
                | some p =>
                  obtain ⟨⟨xad, xre, xhe, xfr, xsz, xrp, xver, xep, xrm, xsha, xmd, xwr, xa, xn, xc, xdm, xpt⟩, L⟩ := p
                  have hfa : fstA F ad = some (Ans.mk xad xre xhe xfr xsz xrp xver xep xrm xsha xmd xwr xa xn xc xdm xpt) := by unfold fstA; rw [hF]; rfl
                  simp only [hfa, Option.map_some, Option.getD_some, Option.isSome_some, Ans.val] at hlook
                  clear hF
                  have lA : Below w3.heap.size w3 (w3.alloc (.cells #[.string xad, .bool xre, .bool xhe, .int .i64 xsz, .string xsha, .string xmd, .int .i64 xrp, .slice xa xn xc, .int .i64 xver, .int .i64 xep, .int .i64 xrm, .string xwr, .bool xdm, .bool xpt, .int .i64 xfr] 50)) := (Below.refl _ _).alloc (Nat.le_refl _) _
                  have hMA := hMm.below lA hMm.lt
                  obtain ⟨w4, hst, hM4, hg4⟩ := hMA.store hKn had.out (Ans.mk xad xre xhe xfr xsz xrp xver xep xrm xsha xmd xwr xa xn xc xdm xpt).val
                  simp only [Ans.val] at hst
                  have l4 : Below W.heap.size W w4 := below_grown1 (l3.trans (lA.mono l3.size)) hg4 (Nat.le_trans l3.size lA.size) hmW
                  have lz4 : Below wz.heap.size wz w4 := below_grown1 (lz3.trans (lA.mono lz3.size)) hg4 (Nat.le_trans lz3.size lA.size) hmz
                  have HM5 : Hid (∃ q, MapIs w4 m q (fun s => (updA (idealF rver rep ca H.length cc P (H ++ P)) ad (fstA F ad) s).map Ans.val)) := upd_in (idealF rver rep ca H.length cc P (H ++ P)) _ (by rw [hfa]; rfl) hM4
                  have f4 : Three rsz rrp rver rep rrm rsha rmd rwr ra LR.length rc rdm rpt (.slice ao H.length c) (.slice bo P.length d) w.heap.size lp rp w4 := threeW.below l4
                  obtain ⟨e0, e1, e2, e3, e4, e5, e6, e7, e8, e9, e10, e11, e12, e13, e14, e15, e16, e17, e18, e19, e20, e21, e22, e23⟩ := boxes3 rsz rrp rver rep rrm rsha rmd rwr ra LR.length rc rdm rpt (.slice ao H.length c) (.slice bo P.length d) w.heap.size lp rp w4 f4
                  clear hM4 hg4 hMA lA f4 hfa
                  as_aux_lemma =>
                  go_wp2_with fail
                  obtain ⟨q, hM6⟩ := HM5.out
                  refine (laid29 _ _ _ _ _ _ _ _ _ _ _ _ _ _ _ H P m q (updA (idealF rver rep ca H.length cc P (H ++ P)) ad (fstA F ad)) (updL H (sndL F ad) ad) _ (hHW.below l4 (Nat.le_refl _)) (hPW.below l4 (Nat.le_refl _)) (by omega) hM6 (reads_one (hCW.below l4 (Nat.le_refl _)) ((reads_F HFz.out ad).below lz4 (Nat.le_refl _))) HS.out).mono ?_
                  rintro e w5 ⟨rfl, b5⟩
                  rw [turn_one _ _ _ _ _ _ _ _ _ hin.out]
                  have l5 : Below wz.heap.size wz w5 := lz4.trans (b5.mono lz4.size)
                  obtain ⟨ok, HOK⟩ : ∃ x : Bool, Hid (okA rver rep H P (sndL F) (fstA F) ad = x) := ⟨_, rfl⟩
                  rw [HOK.out]
                  have HN : Hid ((K.take (j + 1)).all (okA rver rep H P (sndL F) (fstA F)) = (x && ok)) := by
                    show (K.take (j + 1)).all (okA rver rep H P (sndL F) (fstA F)) = (x && ok)
                    rw [all_take_succ hjl, HX.out, HAD.out, HOK.out]
                  cases ok
                  · go_wp2
                    go_roundw
                    case rel => exact ⟨j + 1, false, by omega, by go_num, rfl, by rw [Bool.and_false] at HN; exact HN, l5⟩
                    case measure => simp [intOf]; omega
                  · go_wp2
                    go_roundw
                    case rel => exact ⟨j + 1, x, by omega, by go_num, rfl, by rw [Bool.and_true] at HN; exact HN, l5⟩
                    case measure => simp [intOf]; omega
              · as_aux_lemma =>
                have HE : gb = x := by
                  have hjK : j = K.length := by omega
                  have := HX.out
                  rw [hjK, List.take_length, ← HK.out, HGB.out] at this
                  exact this
                subst HE
                have lw : Below w.heap.size w wq := lwW.trans ((lz.trans (hbq.mono lz.size)).mono lwW.size)
                cases gb
                · go_wp2
                  go_ret
                  exact ⟨rfl, lw⟩
                · go_wp2
                  go_ret
                  exact ⟨rfl, lw⟩


end Go.Proofs.Qxb6617077a
