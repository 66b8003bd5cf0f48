import Derived.Test.Qxb6617077aPair
import Derived.Test.Qxb6617077aZz31
import Derived.Deep.DeepCutAuto
import Derived.Laws.CopyOwn
namespace Go.Proofs.Qxb6617077a
open Go.RowKit
set_option linter.unusedVariables false
set_option linter.unusedSimpArgs false

theorem size9 : (Try.prog.info? 9).map (·.size) = some 1 := by kernel_rfl
theorem sl_of_heap {w : World} {g : Nat} {ls : List ByteArray} (h : w.heap[g]? = some (.cells (strs ls).toArray 9 (0, 0))) : SL w (.slice (some ⟨g, 0, none⟩) ls.length ls.length) ls := by
  refine ⟨_, _, rfl, (fun h => by cases h), .inr ⟨g, 0, rfl, lt_of_block h, fun j hj => ?_⟩⟩
  rw [cell_of_row w _ _ _ _ _ h]
  simpa using strs_get ls j hj
theorem heap_of_own {w : World} {base : Nat} {g n : Nat} {xs : List Value} (h : w.ownsRow base 9 1 (.slice (some ⟨g, 0, none⟩) n n) n xs) : w.heap[g]? = some (.cells xs.toArray 9 (0, 0)) := by
  rcases h.2 with ⟨hv, _⟩ | ⟨g', cap, cur, hv, _, hg, _, _, hcs, htake⟩
  · simp at hv
  · simp only [Value.slice.injEq, Option.some.injEq, Addr.mk.injEq, and_true, true_and] at hv
    obtain ⟨rfl, rfl⟩ := hv
    rw [hg, ← htake, List.take_of_length_le (by rw [Array.length_toList]; omega)]
theorem copy_run {w0 w1 : World} {g c B : Nat} {x : Addr} {made : List Value} {A : List ByteArray} (hh : w1.heap[g]? = some (.cells made.toArray 9 (0, 0))) (hml : A.length = made.length)
    (hsrc : ∀ j v, (strs A)[j]? = some v → w1.cell? (x.add j) = some v) (hb : Below B w0 w1) (hB : B ≤ g) :
    ∃ w2, (∀ ty, (Builtin.copy_ #[22, 22] ty #[.slice (some ⟨g, 0, none⟩) A.length A.length, .slice (some x) A.length c]).run Try.prog w1 = .ok (goInt A.length) w2) ∧
      w2.heap[g]? = some (.cells (strs A).toArray 9 (0, 0)) ∧ Below B w0 w2 := by
  refine ⟨_, fun ty => by
    have := run_copy_row (P := Try.prog) w1 22 22 ty 9 g 0 A.length A.length x A.length c made.toArray 9 (strs A) Try.underlying22 size9 hh (by rw [strs_len]; simp) hsrc (by rw [strs_len]; simp; omega) (strs_one A)
    rw [strs_len] at this
    exact this, ?_, below_setRow hb hB _⟩
  rw [setRow_heap w1 g _ _ _ _ hh]
  congr 2
  simp [List.drop_of_length_le (Nat.le_of_eq hml.symm)]

/-- The four boxes stand. -/
def Four (rsz rrp rver rep rrm : Int) (rsha rmd rwr : ByteArray) (ra : Option Addr) (rn rc : Nat) (rdm rpt : Bool) (nad : ByteArray) (nre nhe : Bool) (nfr : Int) (nsz nrp nver nep nrm : Int) (nsha nmd nwr : ByteArray) (na : Option Addr) (nn nc : Nat) (ndm npt : Bool) (l1 l2 : Value) (b0 b1 lp rp : Nat) (w' : World) : Prop :=
  w'.heap[rp]? = some (.cells #[.int .i64 rsz, .string rsha, .string rmd, .int .i64 rrp, .slice ra rn rc, .int .i64 rver, .int .i64 rep, .int .i64 rrm, .string rwr, .bool rdm, .bool rpt] 46 (0, 0)) ∧ w'.heap[lp]? = some (.cells #[l1, l2] 41 (0, 0)) ∧ w'.heap[b0]? = some (.cells #[.int .i64 rsz, .string rsha, .string rmd, .int .i64 rrp, .slice ra rn rc, .int .i64 rver, .int .i64 rep, .int .i64 rrm, .string rwr, .bool rdm, .bool rpt] 34 (0, 0)) ∧ w'.heap[b1]? = some (.cells #[.string nad, .bool nre, .bool nhe, .int .i64 nsz, .string nsha, .string nmd, .int .i64 nrp, .slice na nn nc, .int .i64 nver, .int .i64 nep, .int .i64 nrm, .string nwr, .bool ndm, .bool npt, .int .i64 nfr] 53 (0, 0))
theorem Four.below {rsz rrp rver rep rrm : Int} {rsha rmd rwr : ByteArray} {ra : Option Addr} {rn rc : Nat} {rdm rpt : Bool} {nad : ByteArray} {nre nhe : Bool} {nfr : Int} {nsz nrp nver nep nrm : Int} {nsha nmd nwr : ByteArray} {na : Option Addr} {nn nc : Nat} {ndm npt : Bool} {l1 l2 : Value} {b0 b1 lp rp : Nat} {w w' : World} (h : Four rsz rrp rver rep rrm rsha rmd rwr ra rn rc rdm rpt nad nre nhe nfr nsz nrp nver nep nrm nsha nmd nwr na nn nc ndm npt l1 l2 b0 b1 lp rp w) (hb : Below w.heap.size w w') :
    Four rsz rrp rver rep rrm rsha rmd rwr ra rn rc rdm rpt nad nre nhe nfr nsz nrp nver nep nrm nsha nmd nwr na nn nc ndm npt l1 l2 b0 b1 lp rp w' := by
  obtain ⟨h1, h2, h3, h4⟩ := h
  exact ⟨by rw [hb.block _ (lt_of_block h1)]; exact h1, by rw [hb.block _ (lt_of_block h2)]; exact h2, by rw [hb.block _ (lt_of_block h3)]; exact h3, by rw [hb.block _ (lt_of_block h4)]; exact h4⟩
theorem boxes (rsz rrp rver rep rrm : Int) (rsha rmd rwr : ByteArray) (ra : Option Addr) (rn rc : Nat) (rdm rpt : Bool) (nad : ByteArray) (nre nhe : Bool) (nfr : Int) (nsz nrp nver nep nrm : Int) (nsha nmd nwr : ByteArray) (na : Option Addr) (nn nc : Nat) (ndm npt : Bool) (l1 l2 : Value) (b0 b1 lp rp : Nat) (w' : World) (h : Four rsz rrp rver rep rrm rsha rmd rwr ra rn rc rdm rpt nad nre nhe nfr nsz nrp nver nep nrm nsha nmd nwr na nn nc ndm npt l1 l2 b0 b1 lp rp w') :
    w'.cell? ⟨rp, 0, none⟩ = some (.int .i64 rsz) ∧ w'.cell? ⟨rp, 1, none⟩ = some (.string rsha) ∧ w'.cell? ⟨rp, 2, none⟩ = some (.string rmd) ∧ w'.cell? ⟨rp, 3, none⟩ = some (.int .i64 rrp) ∧ w'.cell? ⟨rp, 4, none⟩ = some (.slice ra rn rc) ∧ w'.cell? ⟨rp, 5, none⟩ = some (.int .i64 rver) ∧ w'.cell? ⟨rp, 6, none⟩ = some (.int .i64 rep) ∧ w'.cell? ⟨rp, 7, none⟩ = some (.int .i64 rrm) ∧ w'.cell? ⟨rp, 8, none⟩ = some (.string rwr) ∧ w'.cell? ⟨rp, 9, none⟩ = some (.bool rdm) ∧ w'.cell? ⟨rp, 10, none⟩ = some (.bool rpt) ∧ w'.cell? ⟨lp, 0, none⟩ = some (l1) ∧ w'.cell? ⟨lp, 1, none⟩ = some (l2) ∧ w'.cell? ⟨b0, 0, none⟩ = some (.int .i64 rsz) ∧ w'.cell? ⟨b0, 1, none⟩ = some (.string rsha) ∧ w'.cell? ⟨b0, 2, none⟩ = some (.string rmd) ∧ w'.cell? ⟨b0, 3, none⟩ = some (.int .i64 rrp) ∧ w'.cell? ⟨b0, 4, none⟩ = some (.slice ra rn rc) ∧ w'.cell? ⟨b0, 5, none⟩ = some (.int .i64 rver) ∧ w'.cell? ⟨b0, 6, none⟩ = some (.int .i64 rep) ∧ w'.cell? ⟨b0, 7, none⟩ = some (.int .i64 rrm) ∧ w'.cell? ⟨b0, 8, none⟩ = some (.string rwr) ∧ w'.cell? ⟨b0, 9, none⟩ = some (.bool rdm) ∧ w'.cell? ⟨b0, 10, none⟩ = some (.bool rpt) ∧ w'.cell? ⟨b1, 0, none⟩ = some (.string nad) ∧ w'.cell? ⟨b1, 1, none⟩ = some (.bool nre) ∧ w'.cell? ⟨b1, 2, none⟩ = some (.bool nhe) ∧ w'.cell? ⟨b1, 3, none⟩ = some (.int .i64 nsz) ∧ w'.cell? ⟨b1, 4, none⟩ = some (.string nsha) ∧ w'.cell? ⟨b1, 5, none⟩ = some (.string nmd) ∧ w'.cell? ⟨b1, 6, none⟩ = some (.int .i64 nrp) ∧ w'.cell? ⟨b1, 7, none⟩ = some (.slice na nn nc) ∧ w'.cell? ⟨b1, 8, none⟩ = some (.int .i64 nver) ∧ w'.cell? ⟨b1, 9, none⟩ = some (.int .i64 nep) ∧ w'.cell? ⟨b1, 10, none⟩ = some (.int .i64 nrm) ∧ w'.cell? ⟨b1, 11, none⟩ = some (.string nwr) ∧ w'.cell? ⟨b1, 12, none⟩ = some (.bool ndm) ∧ w'.cell? ⟨b1, 13, none⟩ = some (.bool npt) ∧ w'.cell? ⟨b1, 14, none⟩ = some (.int .i64 nfr) := by
  obtain ⟨h1, h2, h3, h4⟩ := h
  refine ⟨?_, ?_, ?_, ?_, ?_, ?_, ?_, ?_, ?_, ?_, ?_, ?_, ?_, ?_, ?_, ?_, ?_, ?_, ?_, ?_, ?_, ?_, ?_, ?_, ?_, ?_, ?_, ?_, ?_, ?_, ?_, ?_, ?_, ?_, ?_, ?_, ?_, ?_, ?_⟩
  all_goals first
    | (rw [cell_of_row w' _ _ _ _ _ h1]; rfl)
    | (rw [cell_of_row w' _ _ _ _ _ h2]; rfl)
    | (rw [cell_of_row w' _ _ _ _ _ h3]; rfl)
    | (rw [cell_of_row w' _ _ _ _ _ h4]; rfl)

set_option maxRecDepth 100000 in
set_option maxHeartbeats 20000000 in
theorem law8 (rsz rrp rver rep rrm : Int) (rsha rmd rwr : ByteArray) (ra : Option Addr) (rc : Nat) (rdm rpt : Bool) (nad : ByteArray) (nre nhe : Bool) (nfr : Int) (nsz nrp nver nep nrm : Int) (nsha nmd nwr : ByteArray) (na : Option Addr) (nc : Nat) (ndm npt : Bool) (ha pa : Option Addr) (hc pc : Nat) (kk : Int) (LR LN H P : List ByteArray) (w : World) (hR : SL w (.slice ra LR.length rc) LR) (hN : SL w (.slice na LN.length nc) LN) (hH : SL w (.slice ha H.length hc) H) (hP : SL w (.slice pa P.length pc) P) (HS : Hid (∀ s ∈ H ++ P, s.size ≤ maxLen)) :
    Calls Try.prog 8 #[.agg #[.int .i64 rsz, .string rsha, .string rmd, .int .i64 rrp, .slice ra LR.length rc, .int .i64 rver, .int .i64 rep, .int .i64 rrm, .string rwr, .bool rdm, .bool rpt], .slice ha H.length hc, .slice pa P.length pc, .int .i64 kk, .agg #[.string nad, .bool nre, .bool nhe, .int .i64 nsz, .string nsha, .string nmd, .int .i64 nrp, .slice na LN.length nc, .int .i64 nver, .int .i64 nep, .int .i64 nrm, .string nwr, .bool ndm, .bool npt, .int .i64 nfr]] w fun e w' => e = .returned (.bool true) ∧ Below w.heap.size w w' := by
  obtain ⟨i0, hi, hz0, hz1, hz2⟩ := info_parts info9
  have hB0 : Below w.heap.size w ((w.alloc (.cells #[.int .i64 rsz, .string rsha, .string rmd, .int .i64 rrp, .slice ra LR.length rc, .int .i64 rver, .int .i64 rep, .int .i64 rrm, .string rwr, .bool rdm, .bool rpt] 34)).alloc (.cells #[.string nad, .bool nre, .bool nhe, .int .i64 nsz, .string nsha, .string nmd, .int .i64 nrp, .slice na LN.length nc, .int .i64 nver, .int .i64 nep, .int .i64 nrm, .string nwr, .bool ndm, .bool npt, .int .i64 nfr] 53)) := ((Below.refl _ _).alloc (Nat.le_refl _) _).alloc (by simp) _
  go_enter Try.func8, Try.ntmps8
  go_wp2_with fail
  refine (zz31 _ _ _ _ _ _ _ _ _ _ _ _ _ _ _ _ _ _ _ _ _ _ _ _ _ _ _ _ ha pa hc pc kk LR LN H P _ (hR.below hB0 (Nat.le_refl _)) (hN.below hB0 (Nat.le_refl _)) (hH.below hB0 (Nat.le_refl _)) (hP.below hB0 (Nat.le_refl _))).mono ?_
  rintro e w1 ⟨⟨r, rfl, hgd⟩, hb1⟩
  have l1 : Below w.heap.size w w1 := hB0.trans (hb1.mono hB0.size)
  have rblk : w1.heap[w.heap.size]? = some (.cells #[.int .i64 rsz, .string rsha, .string rmd, .int .i64 rrp, .slice ra LR.length rc, .int .i64 rver, .int .i64 rep, .int .i64 rrm, .string rwr, .bool rdm, .bool rpt] 34 (0, 0)) := by
    rw [hb1.block _ (by simp; omega), Below.heap_alloc _ _ _ (by simp)]
    exact heap_alloc_new w _
  have nblk : w1.heap[w.heap.size + 1]? = some (.cells #[.string nad, .bool nre, .bool nhe, .int .i64 nsz, .string nsha, .string nmd, .int .i64 nrp, .slice na LN.length nc, .int .i64 nver, .int .i64 nep, .int .i64 nrm, .string nwr, .bool ndm, .bool npt, .int .i64 nfr] 53 (0, 0)) := by
    rw [hb1.block _ (by simp)]
    have := heap_alloc_new (w.alloc (.cells #[.int .i64 rsz, .string rsha, .string rmd, .int .i64 rrp, .slice ra LR.length rc, .int .i64 rver, .int .i64 rep, .int .i64 rrm, .string rwr, .bool rdm, .bool rpt] 34)) (.cells #[.string nad, .bool nre, .bool nhe, .int .i64 nsz, .string nsha, .string nmd, .int .i64 nrp, .slice na LN.length nc, .int .i64 nver, .int .i64 nep, .int .i64 nrm, .string nwr, .bool ndm, .bool npt, .int .i64 nfr] 53)
    simpa using this
  have hR1 := hR.below l1 (Nat.le_refl _)
  have hN1 := hN.below l1 (Nat.le_refl _)
  have hH1 := hH.below l1 (Nat.le_refl _)
  have hP1 := hP.below l1 (Nat.le_refl _)
  have hzz1 : w.heap.size + 1 < w1.heap.size := lt_of_block nblk
  clear hB0 hb1 hR hN hH hP
  cases r with
  | false =>
    clear hgd
    go_wp2
    go_ret
    exact ⟨rfl, l1⟩
  | true =>
    obtain ⟨hlr, hln⟩ := hgd rfl
    clear hgd
    by_cases hq1 : 256 < H.length
    · go_wp2
      go_ret
      exact ⟨rfl, l1⟩
    by_cases hq2 : 256 < P.length
    · go_wp2
      go_ret
      exact ⟨rfl, l1⟩
    go_upto_if 44 with fail
    go_cut [1] (fun s1 wc => (∃ ao c, s1 = .slice ao H.length c) ∧ SL wc s1 H ∧ Below w1.heap.size w1 wc)
    case first =>
      as_aux_lemma =>
      cases ha with
      | none =>
        obtain ⟨hA0, h0, hc0⟩ := hH1.none_nil
        subst hA0 hc0
        go_wp2
        go_meet
        case rel => exact ⟨⟨_, _, rfl⟩, SL.nil _, Below.refl _ _⟩
      | some x =>
        have hsrc := hH1.src
        go_wp2_with (first
          | (at_make; refine wpList_make_full _ rfl (.tmp 46) (.tmp 46) 22 rfl w1.heap.size 9 i0 (.string ⟨#[]⟩) 1 Try.underlying22 hi hz0 hz1 .i64 .i64 _ _ H.length rfl rfl (by rfl) (by rfl) (by rw [hz2]; omega) (by unfold maxLen; omega) (Nat.le_refl _) ?next)
          | go_in)
        case next =>
          intro w2 hown hg
          generalize (madeCells _ _).toList = made at hown
          have hml : made.length = H.length := by have := hown.1; omega
          have hh := heap_of_own hown
          have hb2 : Below w1.heap.size w1 w2 := (Below.refl _ _).grown hg (Nat.le_refl _) (fun k h => by cases h)
          have hsrc1 : ∀ j v, (strs H)[j]? = some v → w2.cell? (x.add j) = some v := fun j v hj => by
            have := hsrc j v hj
            rw [hb2.cell (World.block_lt_of_cell? w1 _ this)]
            exact this
          obtain ⟨w3, hcp, hg2, hb3⟩ := copy_run (x := x) (c := hc) hh hml.symm hsrc1 hb2 (Nat.le_refl _)
          have hso := sl_of_heap hg2
          clear hsrc hown hg hg2 hh hsrc1
          go_wp2
          go_meet
          case rel => exact ⟨⟨_, _, rfl⟩, hso, hb3⟩
    case rest =>
      obtain ⟨⟨ao, c, rfl⟩, hHc, lc⟩ := hcut
      have hPc := hP1.below lc (Nat.le_refl _)
      clear hH1
      obtain ⟨wb, hwb⟩ : ∃ x, x = wc := ⟨_, rfl⟩
      subst hwb
      go_upto_if 53 with fail
      go_cut [2] (fun s2 wd => (∃ ao c, s2 = .slice ao P.length c) ∧ SL wd s2 P ∧ Below wb.heap.size wb wd)
      case first =>
        as_aux_lemma =>
        cases pa with
        | none =>
          obtain ⟨hA0, h0, hc0⟩ := hPc.none_nil
          subst hA0 hc0
          go_wp2
          go_meet
          case rel => exact ⟨⟨_, _, rfl⟩, SL.nil _, Below.refl _ _⟩
        | some x =>
          have hsrc := hPc.src
          go_wp2_with (first
            | (at_make; refine wpList_make_full _ rfl (.tmp 55) (.tmp 55) 22 rfl wb.heap.size 9 i0 (.string ⟨#[]⟩) 1 Try.underlying22 hi hz0 hz1 .i64 .i64 _ _ P.length rfl rfl (by rfl) (by rfl) (by rw [hz2]; omega) (by unfold maxLen; omega) (Nat.le_refl _) ?next)
            | go_in)
          case next =>
            intro w2 hown hg
            generalize (madeCells _ _).toList = made at hown
            have hml : made.length = P.length := by have := hown.1; omega
            have hh := heap_of_own hown
            have hb2 : Below wb.heap.size wb w2 := (Below.refl _ _).grown hg (Nat.le_refl _) (fun k h => by cases h)
            have hsrc1 : ∀ j v, (strs P)[j]? = some v → w2.cell? (x.add j) = some v := fun j v hj => by
              have := hsrc j v hj
              rw [hb2.cell (World.block_lt_of_cell? wb _ this)]
              exact this
            obtain ⟨w3, hcp, hg2, hb3⟩ := copy_run (x := x) (c := pc) hh hml.symm hsrc1 hb2 (Nat.le_refl _)
            have hso := sl_of_heap hg2
            clear hsrc hown hg hg2 hh hsrc1
            go_wp2
            go_meet
            case rel => exact ⟨⟨_, _, rfl⟩, hso, hb3⟩
      case rest =>
        obtain ⟨⟨bo, d, rfl⟩, hPd, ld⟩ := hcut
        obtain ⟨wd, hwd⟩ : ∃ x, x = wc := ⟨_, rfl⟩
        subst hwd
        have hHd := hHc.below ld (Nat.le_refl _)
        have l1d : Below w1.heap.size w1 wd := lc.trans (ld.mono lc.size)
        have hzzd : w.heap.size + 1 < wd.heap.size := Nat.lt_of_lt_of_le hzz1 l1d.size
        have hRd := hR1.below l1d (Nat.le_refl _)
        have hNd := hN1.below l1d (Nat.le_refl _)
        have lwd : Below w.heap.size w wd := l1.trans (l1d.mono l1.size)
        have rblk_wd : wd.heap[w.heap.size]? = some (.cells #[.int .i64 rsz, .string rsha, .string rmd, .int .i64 rrp, .slice ra LR.length rc, .int .i64 rver, .int .i64 rep, .int .i64 rrm, .string rwr, .bool rdm, .bool rpt] 34 (0, 0)) := by rw [l1d.block _ (by omega)]; exact rblk
        have nblk_wd : wd.heap[w.heap.size + 1]? = some (.cells #[.string nad, .bool nre, .bool nhe, .int .i64 nsz, .string nsha, .string nmd, .int .i64 nrp, .slice na LN.length nc, .int .i64 nver, .int .i64 nep, .int .i64 nrm, .string nwr, .bool ndm, .bool npt, .int .i64 nfr] 53 (0, 0)) := by rw [l1d.block _ (by omega)]; exact nblk
        clear hHc hPc hP1 hR1 hN1 rblk nblk lc ld l1 l1d hzz1
        have c0 : wd.cell? ⟨w.heap.size, 0, none⟩ = some (.int .i64 rsz) := by rw [cell_of_row wd _ 0 _ _ _ rblk_wd]; rfl
        have c1 : wd.cell? ⟨w.heap.size, 1, none⟩ = some (.string rsha) := by rw [cell_of_row wd _ 1 _ _ _ rblk_wd]; rfl
        have c2 : wd.cell? ⟨w.heap.size, 2, none⟩ = some (.string rmd) := by rw [cell_of_row wd _ 2 _ _ _ rblk_wd]; rfl
        have c3 : wd.cell? ⟨w.heap.size, 3, none⟩ = some (.int .i64 rrp) := by rw [cell_of_row wd _ 3 _ _ _ rblk_wd]; rfl
        have c4 : wd.cell? ⟨w.heap.size, 4, none⟩ = some (.slice ra LR.length rc) := by rw [cell_of_row wd _ 4 _ _ _ rblk_wd]; rfl
        have c5 : wd.cell? ⟨w.heap.size, 5, none⟩ = some (.int .i64 rver) := by rw [cell_of_row wd _ 5 _ _ _ rblk_wd]; rfl
        have c6 : wd.cell? ⟨w.heap.size, 6, none⟩ = some (.int .i64 rep) := by rw [cell_of_row wd _ 6 _ _ _ rblk_wd]; rfl
        have c7 : wd.cell? ⟨w.heap.size, 7, none⟩ = some (.int .i64 rrm) := by rw [cell_of_row wd _ 7 _ _ _ rblk_wd]; rfl
        have c8 : wd.cell? ⟨w.heap.size, 8, none⟩ = some (.string rwr) := by rw [cell_of_row wd _ 8 _ _ _ rblk_wd]; rfl
        have c9 : wd.cell? ⟨w.heap.size, 9, none⟩ = some (.bool rdm) := by rw [cell_of_row wd _ 9 _ _ _ rblk_wd]; rfl
        have c10 : wd.cell? ⟨w.heap.size, 10, none⟩ = some (.bool rpt) := by rw [cell_of_row wd _ 10 _ _ _ rblk_wd]; rfl
        as_aux_lemma =>
        go_wp2_with fail
        refine (addRec23 _ _ _ _ _ _ _ _ _ _ _ _ _ _ LR _ hRd hlr).mono ?_
        rintro e w2 ⟨⟨t2, rfl⟩, b2⟩
        have hzz2 : w.heap.size + 1 < w2.heap.size := Nat.lt_of_lt_of_le hzzd b2.size
        have lw2 : Below w.heap.size w w2 := lwd.trans (b2.mono lwd.size)
        have rblk_w2 : w2.heap[w.heap.size]? = some (.cells #[.int .i64 rsz, .string rsha, .string rmd, .int .i64 rrp, .slice ra LR.length rc, .int .i64 rver, .int .i64 rep, .int .i64 rrm, .string rwr, .bool rdm, .bool rpt] 34 (0, 0)) := by rw [b2.block _ (by omega)]; exact rblk_wd
        have nblk_w2 : w2.heap[w.heap.size + 1]? = some (.cells #[.string nad, .bool nre, .bool nhe, .int .i64 nsz, .string nsha, .string nmd, .int .i64 nrp, .slice na LN.length nc, .int .i64 nver, .int .i64 nep, .int .i64 nrm, .string nwr, .bool ndm, .bool npt, .int .i64 nfr] 53 (0, 0)) := by rw [b2.block _ (by omega)]; exact nblk_wd
        have hH2 := hHd.below b2 (Nat.le_refl _)
        have hP2 := hPd.below b2 (Nat.le_refl _)
        have hN2 := hNd.below b2 (Nat.le_refl _)
        clear c0 c1 c2 c3 c4 c5 c6 c7 c8 c9 c10 hHd hPd hNd hRd rblk_wd nblk_wd b2 lwd hzzd
        have d0 : w2.cell? ⟨(w.heap.size + 1), 0, none⟩ = some (.string nad) := by rw [cell_of_row w2 _ 0 _ _ _ nblk_w2]; rfl
        have d1 : w2.cell? ⟨(w.heap.size + 1), 1, none⟩ = some (.bool nre) := by rw [cell_of_row w2 _ 1 _ _ _ nblk_w2]; rfl
        have d2 : w2.cell? ⟨(w.heap.size + 1), 2, none⟩ = some (.bool nhe) := by rw [cell_of_row w2 _ 2 _ _ _ nblk_w2]; rfl
        have d3 : w2.cell? ⟨(w.heap.size + 1), 3, none⟩ = some (.int .i64 nsz) := by rw [cell_of_row w2 _ 3 _ _ _ nblk_w2]; rfl
        have d4 : w2.cell? ⟨(w.heap.size + 1), 4, none⟩ = some (.string nsha) := by rw [cell_of_row w2 _ 4 _ _ _ nblk_w2]; rfl
        have d5 : w2.cell? ⟨(w.heap.size + 1), 5, none⟩ = some (.string nmd) := by rw [cell_of_row w2 _ 5 _ _ _ nblk_w2]; rfl
        have d6 : w2.cell? ⟨(w.heap.size + 1), 6, none⟩ = some (.int .i64 nrp) := by rw [cell_of_row w2 _ 6 _ _ _ nblk_w2]; rfl
        have d7 : w2.cell? ⟨(w.heap.size + 1), 7, none⟩ = some (.slice na LN.length nc) := by rw [cell_of_row w2 _ 7 _ _ _ nblk_w2]; rfl
        have d8 : w2.cell? ⟨(w.heap.size + 1), 8, none⟩ = some (.int .i64 nver) := by rw [cell_of_row w2 _ 8 _ _ _ nblk_w2]; rfl
        have d9 : w2.cell? ⟨(w.heap.size + 1), 9, none⟩ = some (.int .i64 nep) := by rw [cell_of_row w2 _ 9 _ _ _ nblk_w2]; rfl
        have d10 : w2.cell? ⟨(w.heap.size + 1), 10, none⟩ = some (.int .i64 nrm) := by rw [cell_of_row w2 _ 10 _ _ _ nblk_w2]; rfl
        have d11 : w2.cell? ⟨(w.heap.size + 1), 11, none⟩ = some (.string nwr) := by rw [cell_of_row w2 _ 11 _ _ _ nblk_w2]; rfl
        have d12 : w2.cell? ⟨(w.heap.size + 1), 12, none⟩ = some (.bool ndm) := by rw [cell_of_row w2 _ 12 _ _ _ nblk_w2]; rfl
        have d13 : w2.cell? ⟨(w.heap.size + 1), 13, none⟩ = some (.bool npt) := by rw [cell_of_row w2 _ 13 _ _ _ nblk_w2]; rfl
        have d14 : w2.cell? ⟨(w.heap.size + 1), 14, none⟩ = some (.int .i64 nfr) := by rw [cell_of_row w2 _ 14 _ _ _ nblk_w2]; rfl
        as_aux_lemma =>
        go_wp2_with fail
        refine (addStrs10 _ _ H _ hH2 (by omega)).mono ?_
        rintro e w' ⟨⟨t3, rfl⟩, hw⟩
        subst w'
        go_wp2_with fail
        refine (addStrs10 _ _ P _ hP2 (by omega)).mono ?_
        rintro e w' ⟨⟨t4, rfl⟩, hw⟩
        subst w'
        go_wp2_with fail
        refine (addLen18 _ _ _).mono ?_
        rintro e w' ⟨⟨t5, rfl⟩, hw⟩
        subst w'
        as_aux_lemma =>
        go_wp2_with fail
        refine (addRec23 _ _ _ _ _ _ _ _ _ _ _ _ _ _ LN _ hN2 hln).mono ?_
        rintro e w3 ⟨⟨t6, rfl⟩, b3⟩
        have hzz3 : w.heap.size + 1 < w3.heap.size := Nat.lt_of_lt_of_le hzz2 b3.size
        have lw3 : Below w.heap.size w w3 := lw2.trans (b3.mono lw2.size)
        have rblk_w3 : w3.heap[w.heap.size]? = some (.cells #[.int .i64 rsz, .string rsha, .string rmd, .int .i64 rrp, .slice ra LR.length rc, .int .i64 rver, .int .i64 rep, .int .i64 rrm, .string rwr, .bool rdm, .bool rpt] 34 (0, 0)) := by rw [b3.block _ (by omega)]; exact rblk_w2
        have nblk_w3 : w3.heap[w.heap.size + 1]? = some (.cells #[.string nad, .bool nre, .bool nhe, .int .i64 nsz, .string nsha, .string nmd, .int .i64 nrp, .slice na LN.length nc, .int .i64 nver, .int .i64 nep, .int .i64 nrm, .string nwr, .bool ndm, .bool npt, .int .i64 nfr] 53 (0, 0)) := by rw [b3.block _ (by omega)]; exact nblk_w2
        have hH3 := hH2.below b3 (Nat.le_refl _)
        have hP3 := hP2.below b3 (Nat.le_refl _)
        clear d0 d1 d2 d3 d4 d5 d6 d7 d8 d9 d10 d11 d12 d13 d14 hH2 hP2 hN2 rblk_w2 nblk_w2 b3 lw2 hzz2
        by_cases hq3 : 1048576 < t6
        · go_wp2
          go_ret
          exact ⟨rfl, lw3⟩
        as_aux_lemma =>
        go_wp2_with fail
        refine (concat16 _ _ H P _ hH3 hP3 (by omega)).mono ?_
        rintro e w4 ⟨kv, rfl, hK4, b4⟩
        have hzz4 : w.heap.size + 1 < w4.heap.size := Nat.lt_of_lt_of_le hzz3 b4.size
        have lw4 : Below w.heap.size w w4 := lw3.trans (b4.mono lw3.size)
        have rblk_w4 : w4.heap[w.heap.size]? = some (.cells #[.int .i64 rsz, .string rsha, .string rmd, .int .i64 rrp, .slice ra LR.length rc, .int .i64 rver, .int .i64 rep, .int .i64 rrm, .string rwr, .bool rdm, .bool rpt] 34 (0, 0)) := by rw [b4.block _ (by omega)]; exact rblk_w3
        have nblk_w4 : w4.heap[w.heap.size + 1]? = some (.cells #[.string nad, .bool nre, .bool nhe, .int .i64 nsz, .string nsha, .string nmd, .int .i64 nrp, .slice na LN.length nc, .int .i64 nver, .int .i64 nep, .int .i64 nrm, .string nwr, .bool ndm, .bool npt, .int .i64 nfr] 53 (0, 0)) := by rw [b4.block _ (by omega)]; exact nblk_w3
        have hH4 := hH3.below b4 (Nat.le_refl _)
        have hP4 := hP3.below b4 (Nat.le_refl _)
        clear hH3 hP3 rblk_w3 nblk_w3 b4 lw3 hzz3
        obtain ⟨ka, kc, hkv⟩ := hK4.slice
        obtain ⟨K, HK⟩ : ∃ K, Hid (H ++ P = K) := ⟨_, rfl⟩
        rw [HK.out] at hK4 hkv
        subst hkv
        by_cases hq4 : kk < 0
        · go_wp2
          go_ret
          exact ⟨rfl, lw4⟩
        by_cases hq5 : (K.length : Int) ≤ kk
        · go_wp2
          go_ret
          exact ⟨rfl, lw4⟩
        obtain ⟨k, rfl⟩ : ∃ k : Nat, kk = (k : Int) := ⟨kk.toNat, by omega⟩
        have hkl : k < K.length := by omega
        obtain ⟨kb, ko, rfl, hkb, hkc⟩ := hK4.at hkl
        obtain ⟨addr, HA⟩ : ∃ x : ByteArray, Hid (K[k] = x) := ⟨K[k], rfl⟩
        rw [HA.out] at hkc
        have hin : Hid (addr ∈ K) := by rw [← HA.out]; exact List.getElem_mem hkl
        obtain ⟨ip, hip⟩ : ∃ x : Bool, Hid (mem P addr = x) := ⟨mem P addr, rfl⟩
        as_aux_lemma =>
        go_wp2_with fail
        refine (member12 _ P addr _ hP4 (by omega)).mono ?_
        rintro e w' ⟨rfl, hw⟩
        subst w'
        rw [hip.out]
        clear hkc HA
        go_wp2_with fail
        refine (clone25 _ H _ hH4 (by omega)).mono ?_
        rintro e w5 ⟨cv, rfl, hC5, b5⟩
        have hzz5 : w.heap.size + 1 < w5.heap.size := Nat.lt_of_lt_of_le hzz4 b5.size
        have lw5 : Below w.heap.size w w5 := lw4.trans (b5.mono lw4.size)
        have rblk_w5 : w5.heap[w.heap.size]? = some (.cells #[.int .i64 rsz, .string rsha, .string rmd, .int .i64 rrp, .slice ra LR.length rc, .int .i64 rver, .int .i64 rep, .int .i64 rrm, .string rwr, .bool rdm, .bool rpt] 34 (0, 0)) := by rw [b5.block _ (by omega)]; exact rblk_w4
        have nblk_w5 : w5.heap[w.heap.size + 1]? = some (.cells #[.string nad, .bool nre, .bool nhe, .int .i64 nsz, .string nsha, .string nmd, .int .i64 nrp, .slice na LN.length nc, .int .i64 nver, .int .i64 nep, .int .i64 nrm, .string nwr, .bool ndm, .bool npt, .int .i64 nfr] 53 (0, 0)) := by rw [b5.block _ (by omega)]; exact nblk_w4
        have hH5 := hH4.below b5 (Nat.le_refl _)
        have hP5 := hP4.below b5 (Nat.le_refl _)
        have hK5 := hK4.below b5 (Nat.le_refl _)
        clear hH4 hP4 hK4 rblk_w4 nblk_w4 b5 lw4 hzz4 hkb
        obtain ⟨ca, cc, rfl⟩ := hC5.slice
        as_aux_lemma =>
        go_wp2_with fail
        refine (mkLay26 _ _ _ _ _ _ _).mono ?_
        rintro e w6 ⟨rfl, b6⟩
        have hzz6 : w.heap.size + 1 < w6.heap.size := Nat.lt_of_lt_of_le hzz5 b6.size
        have lw6 : Below w.heap.size w w6 := lw5.trans (b6.mono lw5.size)
        have rblk_w6 : w6.heap[w.heap.size]? = some (.cells #[.int .i64 rsz, .string rsha, .string rmd, .int .i64 rrp, .slice ra LR.length rc, .int .i64 rver, .int .i64 rep, .int .i64 rrm, .string rwr, .bool rdm, .bool rpt] 34 (0, 0)) := by rw [b6.block _ (by omega)]; exact rblk_w5
        have nblk_w6 : w6.heap[w.heap.size + 1]? = some (.cells #[.string nad, .bool nre, .bool nhe, .int .i64 nsz, .string nsha, .string nmd, .int .i64 nrp, .slice na LN.length nc, .int .i64 nver, .int .i64 nep, .int .i64 nrm, .string nwr, .bool ndm, .bool npt, .int .i64 nfr] 53 (0, 0)) := by rw [b6.block _ (by omega)]; exact nblk_w5
        have hH6 := hH5.below b6 (Nat.le_refl _)
        have hP6 := hP5.below b6 (Nat.le_refl _)
        have hK6 := hK5.below b6 (Nat.le_refl _)
        have hC6 := hC5.below b6 (Nat.le_refl _)
        clear hH5 hP5 hK5 hC5 rblk_w5 nblk_w5 b6 lw5 hzz5
        have hzz6' : w.heap.size < w6.heap.size := by omega
        have hn1 : ¬ w.heap.size = w6.heap.size := by omega
        have hn2 : ¬ w6.heap.size = w.heap.size := by omega
        have c0 : w6.cell? ⟨w.heap.size, 0, none⟩ = some (.int .i64 rsz) := by rw [cell_of_row w6 _ 0 _ _ _ rblk_w6]; rfl
        have c1 : w6.cell? ⟨w.heap.size, 1, none⟩ = some (.string rsha) := by rw [cell_of_row w6 _ 1 _ _ _ rblk_w6]; rfl
        have c2 : w6.cell? ⟨w.heap.size, 2, none⟩ = some (.string rmd) := by rw [cell_of_row w6 _ 2 _ _ _ rblk_w6]; rfl
        have c3 : w6.cell? ⟨w.heap.size, 3, none⟩ = some (.int .i64 rrp) := by rw [cell_of_row w6 _ 3 _ _ _ rblk_w6]; rfl
        have c4 : w6.cell? ⟨w.heap.size, 4, none⟩ = some (.slice ra LR.length rc) := by rw [cell_of_row w6 _ 4 _ _ _ rblk_w6]; rfl
        have c5 : w6.cell? ⟨w.heap.size, 5, none⟩ = some (.int .i64 rver) := by rw [cell_of_row w6 _ 5 _ _ _ rblk_w6]; rfl
        have c6 : w6.cell? ⟨w.heap.size, 6, none⟩ = some (.int .i64 rep) := by rw [cell_of_row w6 _ 6 _ _ _ rblk_w6]; rfl
        have c7 : w6.cell? ⟨w.heap.size, 7, none⟩ = some (.int .i64 rrm) := by rw [cell_of_row w6 _ 7 _ _ _ rblk_w6]; rfl
        have c8 : w6.cell? ⟨w.heap.size, 8, none⟩ = some (.string rwr) := by rw [cell_of_row w6 _ 8 _ _ _ rblk_w6]; rfl
        have c9 : w6.cell? ⟨w.heap.size, 9, none⟩ = some (.bool rdm) := by rw [cell_of_row w6 _ 9 _ _ _ rblk_w6]; rfl
        have c10 : w6.cell? ⟨w.heap.size, 10, none⟩ = some (.bool rpt) := by rw [cell_of_row w6 _ 10 _ _ _ rblk_w6]; rfl
        go_wp2_with fail
        refine (mkRec27 _ _ _ _ _ _ _ _ _ _ _ _ _ _).mono ?_
        rintro e w7 ⟨rfl, b7⟩
        have hz6 : w6.heap.size < w7.heap.size := Nat.lt_of_lt_of_le (by simp) b7.size
        have l67 : Below w6.heap.size w6 w7 := ((Below.refl _ w6).alloc (Nat.le_refl _) _).trans (b7.mono (by simp))
        have lw7 : Below w.heap.size w w7 := lw6.trans (l67.mono lw6.size)
        have lblk_w7 : w7.heap[w6.heap.size]? = some (.cells #[.slice ao H.length c, .slice bo P.length d] 41 (0, 0)) := by
          rw [b7.block _ (by simp)]
          exact heap_alloc_new w6 _
        have rblk_w7 : w7.heap[w.heap.size]? = some (.cells #[.int .i64 rsz, .string rsha, .string rmd, .int .i64 rrp, .slice ra LR.length rc, .int .i64 rver, .int .i64 rep, .int .i64 rrm, .string rwr, .bool rdm, .bool rpt] 34 (0, 0)) := by rw [l67.block _ (by omega)]; exact rblk_w6
        have nblk_w7 : w7.heap[w.heap.size + 1]? = some (.cells #[.string nad, .bool nre, .bool nhe, .int .i64 nsz, .string nsha, .string nmd, .int .i64 nrp, .slice na LN.length nc, .int .i64 nver, .int .i64 nep, .int .i64 nrm, .string nwr, .bool ndm, .bool npt, .int .i64 nfr] 53 (0, 0)) := by rw [l67.block _ (by omega)]; exact nblk_w6
        have hH7 := hH6.below l67 (Nat.le_refl _)
        have hP7 := hP6.below l67 (Nat.le_refl _)
        have hK7 := hK6.below l67 (Nat.le_refl _)
        have hC7 := hC6.below l67 (Nat.le_refl _)
        clear c0 c1 c2 c3 c4 c5 c6 c7 c8 c9 c10 hH6 hP6 hK6 hC6 b7
        as_aux_lemma =>
        go_upto_region 28 with fail
        obtain ⟨W, hW⟩ : ∃ W, w7.alloc (.cells #[.int .i64 rsz, .string rsha, .string rmd, .int .i64 rrp, .slice ra LR.length rc, .int .i64 rver, .int .i64 rep, .int .i64 rrm, .string rwr, .bool rdm, .bool rpt] 46) = W := ⟨_, rfl⟩
        have l7W : Below w7.heap.size w7 W := by rw [← hW]; exact (Below.refl _ _).alloc (Nat.le_refl _) _
        have fourW : Four rsz rrp rver rep rrm rsha rmd rwr ra LR.length rc rdm rpt nad nre nhe nfr nsz nrp nver nep nrm nsha nmd nwr na LN.length nc ndm npt (.slice ao H.length c) (.slice bo P.length d) w.heap.size (w.heap.size + 1) w6.heap.size w7.heap.size W :=
          ⟨by rw [← hW]; exact heap_alloc_new w7 _, by rw [l7W.block _ hz6]; exact lblk_w7, by rw [l7W.block _ (lt_of_block rblk_w7)]; exact rblk_w7, by rw [l7W.block _ (lt_of_block nblk_w7)]; exact nblk_w7⟩
        have lwW : Below w.heap.size w W := lw7.trans (l7W.mono lw7.size)
        have hHW := hH7.below l7W (Nat.le_refl _)
        have hPW := hP7.below l7W (Nat.le_refl _)
        have hKW : SL W (.slice (some ⟨kb, ko, none⟩) K.length kc) (H ++ P) := by rw [HK.out]; exact hK7.below l7W (Nat.le_refl _)
        have hCW := hC7.below l7W (Nat.le_refl _)
        rw [← HK.out] at hin
        have hHl : H.length ≤ 1000 := by omega
        have hPl : P.length ≤ 1000 := by omega
        rw [hW]
        clear hW l7W hH7 hP7 hK7 hC7 rblk_w7 nblk_w7 lblk_w7 rblk_w6 nblk_w6 lw7 lw6 l67 hz6 hn1 hn2 hzz6 hzz6' hq1 hq2 hq3 hq4 hq5 hkl HK hlr hln i0 hi hz0 hz1 hz2
        generalize w6.heap.size = lp at *
        generalize w7.heap.size = rp at *
        clear w6 w7
        have hal0 : Below W.heap.size W W := Below.refl _ _
        as_aux_lemma =>
        have hd0 : Below W.heap.size W W.drew := hal0.drew
        have fd0 : Four rsz rrp rver rep rrm rsha rmd rwr ra LR.length rc rdm rpt nad nre nhe nfr nsz nrp nver nep nrm nsha nmd nwr na LN.length nc ndm npt (.slice ao H.length c) (.slice bo P.length d) w.heap.size (w.heap.size + 1) lp rp W.drew := fourW.below hd0
        go_region_held3 (fun w' => w'.cell? ⟨rp, 0, none⟩ = some (.int .i64 rsz) ∧ w'.cell? ⟨rp, 1, none⟩ = some (.string rsha) ∧ w'.cell? ⟨rp, 2, none⟩ = some (.string rmd) ∧ w'.cell? ⟨rp, 3, none⟩ = some (.int .i64 rrp) ∧ w'.cell? ⟨rp, 4, none⟩ = some (.slice ra LR.length rc) ∧ w'.cell? ⟨rp, 5, none⟩ = some (.int .i64 rver) ∧ w'.cell? ⟨rp, 6, none⟩ = some (.int .i64 rep) ∧ w'.cell? ⟨rp, 7, none⟩ = some (.int .i64 rrm) ∧ w'.cell? ⟨rp, 8, none⟩ = some (.string rwr) ∧ w'.cell? ⟨rp, 9, none⟩ = some (.bool rdm) ∧ w'.cell? ⟨rp, 10, none⟩ = some (.bool rpt) ∧ w'.cell? ⟨lp, 0, none⟩ = some (.slice ao H.length c) ∧ w'.cell? ⟨lp, 1, none⟩ = some (.slice bo P.length d) ∧ w'.cell? ⟨w.heap.size, 0, none⟩ = some (.int .i64 rsz) ∧ w'.cell? ⟨w.heap.size, 1, none⟩ = some (.string rsha) ∧ w'.cell? ⟨w.heap.size, 2, none⟩ = some (.string rmd) ∧ w'.cell? ⟨w.heap.size, 3, none⟩ = some (.int .i64 rrp) ∧ w'.cell? ⟨w.heap.size, 4, none⟩ = some (.slice ra LR.length rc) ∧ w'.cell? ⟨w.heap.size, 5, none⟩ = some (.int .i64 rver) ∧ w'.cell? ⟨w.heap.size, 6, none⟩ = some (.int .i64 rep) ∧ w'.cell? ⟨w.heap.size, 7, none⟩ = some (.int .i64 rrm) ∧ w'.cell? ⟨w.heap.size, 8, none⟩ = some (.string rwr) ∧ w'.cell? ⟨w.heap.size, 9, none⟩ = some (.bool rdm) ∧ w'.cell? ⟨w.heap.size, 10, none⟩ = some (.bool rpt) ∧ w'.cell? ⟨w.heap.size + 1, 0, none⟩ = some (.string nad) ∧ w'.cell? ⟨w.heap.size + 1, 1, none⟩ = some (.bool nre) ∧ w'.cell? ⟨w.heap.size + 1, 2, none⟩ = some (.bool nhe) ∧ w'.cell? ⟨w.heap.size + 1, 3, none⟩ = some (.int .i64 nsz) ∧ w'.cell? ⟨w.heap.size + 1, 4, none⟩ = some (.string nsha) ∧ w'.cell? ⟨w.heap.size + 1, 5, none⟩ = some (.string nmd) ∧ w'.cell? ⟨w.heap.size + 1, 6, none⟩ = some (.int .i64 nrp) ∧ w'.cell? ⟨w.heap.size + 1, 7, none⟩ = some (.slice na LN.length nc) ∧ w'.cell? ⟨w.heap.size + 1, 8, none⟩ = some (.int .i64 nver) ∧ w'.cell? ⟨w.heap.size + 1, 9, none⟩ = some (.int .i64 nep) ∧ w'.cell? ⟨w.heap.size + 1, 10, none⟩ = some (.int .i64 nrm) ∧ w'.cell? ⟨w.heap.size + 1, 11, none⟩ = some (.string nwr) ∧ w'.cell? ⟨w.heap.size + 1, 12, none⟩ = some (.bool ndm) ∧ w'.cell? ⟨w.heap.size + 1, 13, none⟩ = some (.bool npt) ∧ w'.cell? ⟨w.heap.size + 1, 14, none⟩ = some (.int .i64 nfr))
          (exact boxes rsz rrp rver rep rrm rsha rmd rwr ra LR.length rc rdm rpt nad nre nhe nfr nsz nrp nver nep nrm nsha nmd nwr na LN.length nc ndm npt (.slice ao H.length c) (.slice bo P.length d) w.heap.size (w.heap.size + 1) lp rp _ (by assumption))
          (first
            | (go_at_call 32
               refine (pair_0 rsz rrp rver rep rrm rsha rmd rwr ra LR.length rc rdm rpt nad nre nhe nfr nsz nrp nver nep nrm nsha nmd nwr na LN.length nc ndm npt _ _ _ _ addr H P _ (hCW.below hd0 (Nat.le_refl _)) (hHW.below hd0 (Nat.le_refl _)) (hPW.below hd0 (Nat.le_refl _)) (hKW.below hd0 (Nat.le_refl _)) hHl hPl HS hin ip hip).mono ?_
               rintro e wa0 ⟨m, rfl, b8, hcall⟩
               have la : Below W.heap.size W wa0 := hd0.trans (b8.mono hd0.size)
               have fa : Four rsz rrp rver rep rrm rsha rmd rwr ra LR.length rc rdm rpt nad nre nhe nfr nsz nrp nver nep nrm nsha nmd nwr na LN.length nc ndm npt (.slice ao H.length c) (.slice bo P.length d) w.heap.size (w.heap.size + 1) lp rp wa0 := fourW.below la)
            | (go_at_call 29
               refine hcall.mono ?_
               rintro e wz0 ⟨rfl, b9⟩
               have hal1 : Below W.heap.size W wz0 := la.trans (b9.mono la.size)
               have fz : Four rsz rrp rver rep rrm rsha rmd rwr ra LR.length rc rdm rpt nad nre nhe nfr nsz nrp nver nep nrm nsha nmd nwr na LN.length nc ndm npt (.slice ao H.length c) (.slice bo P.length d) w.heap.size (w.heap.size + 1) lp rp wz0 := fourW.below hal1))
        clear hcall fa fz la b8 b9 hd0 fd0 hal0
        go_upto_region 29 with fail
        as_aux_lemma =>
        have hd1 : Below W.heap.size W wz0.drew := hal1.drew
        have fd1 : Four rsz rrp rver rep rrm rsha rmd rwr ra LR.length rc rdm rpt nad nre nhe nfr nsz nrp nver nep nrm nsha nmd nwr na LN.length nc ndm npt (.slice ao H.length c) (.slice bo P.length d) w.heap.size (w.heap.size + 1) lp rp wz0.drew := fourW.below hd1
        go_region_held3 (fun w' => w'.cell? ⟨rp, 0, none⟩ = some (.int .i64 rsz) ∧ w'.cell? ⟨rp, 1, none⟩ = some (.string rsha) ∧ w'.cell? ⟨rp, 2, none⟩ = some (.string rmd) ∧ w'.cell? ⟨rp, 3, none⟩ = some (.int .i64 rrp) ∧ w'.cell? ⟨rp, 4, none⟩ = some (.slice ra LR.length rc) ∧ w'.cell? ⟨rp, 5, none⟩ = some (.int .i64 rver) ∧ w'.cell? ⟨rp, 6, none⟩ = some (.int .i64 rep) ∧ w'.cell? ⟨rp, 7, none⟩ = some (.int .i64 rrm) ∧ w'.cell? ⟨rp, 8, none⟩ = some (.string rwr) ∧ w'.cell? ⟨rp, 9, none⟩ = some (.bool rdm) ∧ w'.cell? ⟨rp, 10, none⟩ = some (.bool rpt) ∧ w'.cell? ⟨lp, 0, none⟩ = some (.slice ao H.length c) ∧ w'.cell? ⟨lp, 1, none⟩ = some (.slice bo P.length d) ∧ w'.cell? ⟨w.heap.size, 0, none⟩ = some (.int .i64 rsz) ∧ w'.cell? ⟨w.heap.size, 1, none⟩ = some (.string rsha) ∧ w'.cell? ⟨w.heap.size, 2, none⟩ = some (.string rmd) ∧ w'.cell? ⟨w.heap.size, 3, none⟩ = some (.int .i64 rrp) ∧ w'.cell? ⟨w.heap.size, 4, none⟩ = some (.slice ra LR.length rc) ∧ w'.cell? ⟨w.heap.size, 5, none⟩ = some (.int .i64 rver) ∧ w'.cell? ⟨w.heap.size, 6, none⟩ = some (.int .i64 rep) ∧ w'.cell? ⟨w.heap.size, 7, none⟩ = some (.int .i64 rrm) ∧ w'.cell? ⟨w.heap.size, 8, none⟩ = some (.string rwr) ∧ w'.cell? ⟨w.heap.size, 9, none⟩ = some (.bool rdm) ∧ w'.cell? ⟨w.heap.size, 10, none⟩ = some (.bool rpt) ∧ w'.cell? ⟨w.heap.size + 1, 0, none⟩ = some (.string nad) ∧ w'.cell? ⟨w.heap.size + 1, 1, none⟩ = some (.bool nre) ∧ w'.cell? ⟨w.heap.size + 1, 2, none⟩ = some (.bool nhe) ∧ w'.cell? ⟨w.heap.size + 1, 3, none⟩ = some (.int .i64 nsz) ∧ w'.cell? ⟨w.heap.size + 1, 4, none⟩ = some (.string nsha) ∧ w'.cell? ⟨w.heap.size + 1, 5, none⟩ = some (.string nmd) ∧ w'.cell? ⟨w.heap.size + 1, 6, none⟩ = some (.int .i64 nrp) ∧ w'.cell? ⟨w.heap.size + 1, 7, none⟩ = some (.slice na LN.length nc) ∧ w'.cell? ⟨w.heap.size + 1, 8, none⟩ = some (.int .i64 nver) ∧ w'.cell? ⟨w.heap.size + 1, 9, none⟩ = some (.int .i64 nep) ∧ w'.cell? ⟨w.heap.size + 1, 10, none⟩ = some (.int .i64 nrm) ∧ w'.cell? ⟨w.heap.size + 1, 11, none⟩ = some (.string nwr) ∧ w'.cell? ⟨w.heap.size + 1, 12, none⟩ = some (.bool ndm) ∧ w'.cell? ⟨w.heap.size + 1, 13, none⟩ = some (.bool npt) ∧ w'.cell? ⟨w.heap.size + 1, 14, none⟩ = some (.int .i64 nfr))
          (exact boxes rsz rrp rver rep rrm rsha rmd rwr ra LR.length rc rdm rpt nad nre nhe nfr nsz nrp nver nep nrm nsha nmd nwr na LN.length nc ndm npt (.slice ao H.length c) (.slice bo P.length d) w.heap.size (w.heap.size + 1) lp rp _ (by assumption))
          (first
            | (go_at_call 32
               refine (pair_1 rsz rrp rver rep rrm rsha rmd rwr ra LR.length rc rdm rpt nad nre nhe nfr nsz nrp nver nep nrm nsha nmd nwr na LN.length nc ndm npt _ _ _ _ addr H P _ (hCW.below hd1 (Nat.le_refl _)) (hHW.below hd1 (Nat.le_refl _)) (hPW.below hd1 (Nat.le_refl _)) (hKW.below hd1 (Nat.le_refl _)) hHl hPl HS hin ip hip).mono ?_
               rintro e wa1 ⟨m, rfl, b8, hcall⟩
               have la : Below W.heap.size W wa1 := hd1.trans (b8.mono hd1.size)
               have fa : Four rsz rrp rver rep rrm rsha rmd rwr ra LR.length rc rdm rpt nad nre nhe nfr nsz nrp nver nep nrm nsha nmd nwr na LN.length nc ndm npt (.slice ao H.length c) (.slice bo P.length d) w.heap.size (w.heap.size + 1) lp rp wa1 := fourW.below la)
            | (go_at_call 29
               refine hcall.mono ?_
               rintro e wz1 ⟨rfl, b9⟩
               have hal2 : Below W.heap.size W wz1 := la.trans (b9.mono la.size)
               have fz : Four rsz rrp rver rep rrm rsha rmd rwr ra LR.length rc rdm rpt nad nre nhe nfr nsz nrp nver nep nrm nsha nmd nwr na LN.length nc ndm npt (.slice ao H.length c) (.slice bo P.length d) w.heap.size (w.heap.size + 1) lp rp wz1 := fourW.below hal2))
        clear hcall fa fz la b8 b9 hd1 fd1 hal1
        go_upto_region 30 with fail
        as_aux_lemma =>
        have hd2 : Below W.heap.size W wz1.drew := hal2.drew
        have fd2 : Four rsz rrp rver rep rrm rsha rmd rwr ra LR.length rc rdm rpt nad nre nhe nfr nsz nrp nver nep nrm nsha nmd nwr na LN.length nc ndm npt (.slice ao H.length c) (.slice bo P.length d) w.heap.size (w.heap.size + 1) lp rp wz1.drew := fourW.below hd2
        go_region_held3 (fun w' => w'.cell? ⟨rp, 0, none⟩ = some (.int .i64 rsz) ∧ w'.cell? ⟨rp, 1, none⟩ = some (.string rsha) ∧ w'.cell? ⟨rp, 2, none⟩ = some (.string rmd) ∧ w'.cell? ⟨rp, 3, none⟩ = some (.int .i64 rrp) ∧ w'.cell? ⟨rp, 4, none⟩ = some (.slice ra LR.length rc) ∧ w'.cell? ⟨rp, 5, none⟩ = some (.int .i64 rver) ∧ w'.cell? ⟨rp, 6, none⟩ = some (.int .i64 rep) ∧ w'.cell? ⟨rp, 7, none⟩ = some (.int .i64 rrm) ∧ w'.cell? ⟨rp, 8, none⟩ = some (.string rwr) ∧ w'.cell? ⟨rp, 9, none⟩ = some (.bool rdm) ∧ w'.cell? ⟨rp, 10, none⟩ = some (.bool rpt) ∧ w'.cell? ⟨lp, 0, none⟩ = some (.slice ao H.length c) ∧ w'.cell? ⟨lp, 1, none⟩ = some (.slice bo P.length d) ∧ w'.cell? ⟨w.heap.size, 0, none⟩ = some (.int .i64 rsz) ∧ w'.cell? ⟨w.heap.size, 1, none⟩ = some (.string rsha) ∧ w'.cell? ⟨w.heap.size, 2, none⟩ = some (.string rmd) ∧ w'.cell? ⟨w.heap.size, 3, none⟩ = some (.int .i64 rrp) ∧ w'.cell? ⟨w.heap.size, 4, none⟩ = some (.slice ra LR.length rc) ∧ w'.cell? ⟨w.heap.size, 5, none⟩ = some (.int .i64 rver) ∧ w'.cell? ⟨w.heap.size, 6, none⟩ = some (.int .i64 rep) ∧ w'.cell? ⟨w.heap.size, 7, none⟩ = some (.int .i64 rrm) ∧ w'.cell? ⟨w.heap.size, 8, none⟩ = some (.string rwr) ∧ w'.cell? ⟨w.heap.size, 9, none⟩ = some (.bool rdm) ∧ w'.cell? ⟨w.heap.size, 10, none⟩ = some (.bool rpt) ∧ w'.cell? ⟨w.heap.size + 1, 0, none⟩ = some (.string nad) ∧ w'.cell? ⟨w.heap.size + 1, 1, none⟩ = some (.bool nre) ∧ w'.cell? ⟨w.heap.size + 1, 2, none⟩ = some (.bool nhe) ∧ w'.cell? ⟨w.heap.size + 1, 3, none⟩ = some (.int .i64 nsz) ∧ w'.cell? ⟨w.heap.size + 1, 4, none⟩ = some (.string nsha) ∧ w'.cell? ⟨w.heap.size + 1, 5, none⟩ = some (.string nmd) ∧ w'.cell? ⟨w.heap.size + 1, 6, none⟩ = some (.int .i64 nrp) ∧ w'.cell? ⟨w.heap.size + 1, 7, none⟩ = some (.slice na LN.length nc) ∧ w'.cell? ⟨w.heap.size + 1, 8, none⟩ = some (.int .i64 nver) ∧ w'.cell? ⟨w.heap.size + 1, 9, none⟩ = some (.int .i64 nep) ∧ w'.cell? ⟨w.heap.size + 1, 10, none⟩ = some (.int .i64 nrm) ∧ w'.cell? ⟨w.heap.size + 1, 11, none⟩ = some (.string nwr) ∧ w'.cell? ⟨w.heap.size + 1, 12, none⟩ = some (.bool ndm) ∧ w'.cell? ⟨w.heap.size + 1, 13, none⟩ = some (.bool npt) ∧ w'.cell? ⟨w.heap.size + 1, 14, none⟩ = some (.int .i64 nfr))
          (exact boxes rsz rrp rver rep rrm rsha rmd rwr ra LR.length rc rdm rpt nad nre nhe nfr nsz nrp nver nep nrm nsha nmd nwr na LN.length nc ndm npt (.slice ao H.length c) (.slice bo P.length d) w.heap.size (w.heap.size + 1) lp rp _ (by assumption))
          (first
            | (go_at_call 32
               refine (pair_2 rsz rrp rver rep rrm rsha rmd rwr ra LR.length rc rdm rpt nad nre nhe nfr nsz nrp nver nep nrm nsha nmd nwr na LN.length nc ndm npt _ _ _ _ addr H P _ (hCW.below hd2 (Nat.le_refl _)) (hHW.below hd2 (Nat.le_refl _)) (hPW.below hd2 (Nat.le_refl _)) (hKW.below hd2 (Nat.le_refl _)) hHl hPl HS hin ip hip).mono ?_
               rintro e wa2 ⟨m, rfl, b8, hcall⟩
               have la : Below W.heap.size W wa2 := hd2.trans (b8.mono hd2.size)
               have fa : Four rsz rrp rver rep rrm rsha rmd rwr ra LR.length rc rdm rpt nad nre nhe nfr nsz nrp nver nep nrm nsha nmd nwr na LN.length nc ndm npt (.slice ao H.length c) (.slice bo P.length d) w.heap.size (w.heap.size + 1) lp rp wa2 := fourW.below la)
            | (go_at_call 29
               refine hcall.mono ?_
               rintro e wz2 ⟨rfl, b9⟩
               have hal3 : Below W.heap.size W wz2 := la.trans (b9.mono la.size)
               have fz : Four rsz rrp rver rep rrm rsha rmd rwr ra LR.length rc rdm rpt nad nre nhe nfr nsz nrp nver nep nrm nsha nmd nwr na LN.length nc ndm npt (.slice ao H.length c) (.slice bo P.length d) w.heap.size (w.heap.size + 1) lp rp wz2 := fourW.below hal3))
        clear hcall fa fz la b8 b9 hd2 fd2 hal2
        go_upto_region 31 with fail
        as_aux_lemma =>
        have hd3 : Below W.heap.size W wz2.drew := hal3.drew
        have fd3 : Four rsz rrp rver rep rrm rsha rmd rwr ra LR.length rc rdm rpt nad nre nhe nfr nsz nrp nver nep nrm nsha nmd nwr na LN.length nc ndm npt (.slice ao H.length c) (.slice bo P.length d) w.heap.size (w.heap.size + 1) lp rp wz2.drew := fourW.below hd3
        go_region_held3 (fun w' => w'.cell? ⟨rp, 0, none⟩ = some (.int .i64 rsz) ∧ w'.cell? ⟨rp, 1, none⟩ = some (.string rsha) ∧ w'.cell? ⟨rp, 2, none⟩ = some (.string rmd) ∧ w'.cell? ⟨rp, 3, none⟩ = some (.int .i64 rrp) ∧ w'.cell? ⟨rp, 4, none⟩ = some (.slice ra LR.length rc) ∧ w'.cell? ⟨rp, 5, none⟩ = some (.int .i64 rver) ∧ w'.cell? ⟨rp, 6, none⟩ = some (.int .i64 rep) ∧ w'.cell? ⟨rp, 7, none⟩ = some (.int .i64 rrm) ∧ w'.cell? ⟨rp, 8, none⟩ = some (.string rwr) ∧ w'.cell? ⟨rp, 9, none⟩ = some (.bool rdm) ∧ w'.cell? ⟨rp, 10, none⟩ = some (.bool rpt) ∧ w'.cell? ⟨lp, 0, none⟩ = some (.slice ao H.length c) ∧ w'.cell? ⟨lp, 1, none⟩ = some (.slice bo P.length d) ∧ w'.cell? ⟨w.heap.size, 0, none⟩ = some (.int .i64 rsz) ∧ w'.cell? ⟨w.heap.size, 1, none⟩ = some (.string rsha) ∧ w'.cell? ⟨w.heap.size, 2, none⟩ = some (.string rmd) ∧ w'.cell? ⟨w.heap.size, 3, none⟩ = some (.int .i64 rrp) ∧ w'.cell? ⟨w.heap.size, 4, none⟩ = some (.slice ra LR.length rc) ∧ w'.cell? ⟨w.heap.size, 5, none⟩ = some (.int .i64 rver) ∧ w'.cell? ⟨w.heap.size, 6, none⟩ = some (.int .i64 rep) ∧ w'.cell? ⟨w.heap.size, 7, none⟩ = some (.int .i64 rrm) ∧ w'.cell? ⟨w.heap.size, 8, none⟩ = some (.string rwr) ∧ w'.cell? ⟨w.heap.size, 9, none⟩ = some (.bool rdm) ∧ w'.cell? ⟨w.heap.size, 10, none⟩ = some (.bool rpt) ∧ w'.cell? ⟨w.heap.size + 1, 0, none⟩ = some (.string nad) ∧ w'.cell? ⟨w.heap.size + 1, 1, none⟩ = some (.bool nre) ∧ w'.cell? ⟨w.heap.size + 1, 2, none⟩ = some (.bool nhe) ∧ w'.cell? ⟨w.heap.size + 1, 3, none⟩ = some (.int .i64 nsz) ∧ w'.cell? ⟨w.heap.size + 1, 4, none⟩ = some (.string nsha) ∧ w'.cell? ⟨w.heap.size + 1, 5, none⟩ = some (.string nmd) ∧ w'.cell? ⟨w.heap.size + 1, 6, none⟩ = some (.int .i64 nrp) ∧ w'.cell? ⟨w.heap.size + 1, 7, none⟩ = some (.slice na LN.length nc) ∧ w'.cell? ⟨w.heap.size + 1, 8, none⟩ = some (.int .i64 nver) ∧ w'.cell? ⟨w.heap.size + 1, 9, none⟩ = some (.int .i64 nep) ∧ w'.cell? ⟨w.heap.size + 1, 10, none⟩ = some (.int .i64 nrm) ∧ w'.cell? ⟨w.heap.size + 1, 11, none⟩ = some (.string nwr) ∧ w'.cell? ⟨w.heap.size + 1, 12, none⟩ = some (.bool ndm) ∧ w'.cell? ⟨w.heap.size + 1, 13, none⟩ = some (.bool npt) ∧ w'.cell? ⟨w.heap.size + 1, 14, none⟩ = some (.int .i64 nfr))
          (exact boxes rsz rrp rver rep rrm rsha rmd rwr ra LR.length rc rdm rpt nad nre nhe nfr nsz nrp nver nep nrm nsha nmd nwr na LN.length nc ndm npt (.slice ao H.length c) (.slice bo P.length d) w.heap.size (w.heap.size + 1) lp rp _ (by assumption))
          (first
            | (go_at_call 32
               refine (pair_3 rsz rrp rver rep rrm rsha rmd rwr ra LR.length rc rdm rpt nad nre nhe nfr nsz nrp nver nep nrm nsha nmd nwr na LN.length nc ndm npt _ _ _ _ addr H P _ (hCW.below hd3 (Nat.le_refl _)) (hHW.below hd3 (Nat.le_refl _)) (hPW.below hd3 (Nat.le_refl _)) (hKW.below hd3 (Nat.le_refl _)) hHl hPl HS hin ip hip).mono ?_
               rintro e wa3 ⟨m, rfl, b8, hcall⟩
               have la : Below W.heap.size W wa3 := hd3.trans (b8.mono hd3.size)
               have fa : Four rsz rrp rver rep rrm rsha rmd rwr ra LR.length rc rdm rpt nad nre nhe nfr nsz nrp nver nep nrm nsha nmd nwr na LN.length nc ndm npt (.slice ao H.length c) (.slice bo P.length d) w.heap.size (w.heap.size + 1) lp rp wa3 := fourW.below la)
            | (go_at_call 29
               refine hcall.mono ?_
               rintro e wz3 ⟨rfl, b9⟩
               have hal4 : Below W.heap.size W wz3 := la.trans (b9.mono la.size)
               have fz : Four rsz rrp rver rep rrm rsha rmd rwr ra LR.length rc rdm rpt nad nre nhe nfr nsz nrp nver nep nrm nsha nmd nwr na LN.length nc ndm npt (.slice ao H.length c) (.slice bo P.length d) w.heap.size (w.heap.size + 1) lp rp wz3 := fourW.below hal4))
        clear hcall fa fz la b8 b9 hd3 fd3 hal3
        go_upto_region 32 with fail
        as_aux_lemma =>
        have hd4 : Below W.heap.size W wz3.drew := hal4.drew
        have fd4 : Four rsz rrp rver rep rrm rsha rmd rwr ra LR.length rc rdm rpt nad nre nhe nfr nsz nrp nver nep nrm nsha nmd nwr na LN.length nc ndm npt (.slice ao H.length c) (.slice bo P.length d) w.heap.size (w.heap.size + 1) lp rp wz3.drew := fourW.below hd4
        go_region_held3 (fun w' => w'.cell? ⟨rp, 0, none⟩ = some (.int .i64 rsz) ∧ w'.cell? ⟨rp, 1, none⟩ = some (.string rsha) ∧ w'.cell? ⟨rp, 2, none⟩ = some (.string rmd) ∧ w'.cell? ⟨rp, 3, none⟩ = some (.int .i64 rrp) ∧ w'.cell? ⟨rp, 4, none⟩ = some (.slice ra LR.length rc) ∧ w'.cell? ⟨rp, 5, none⟩ = some (.int .i64 rver) ∧ w'.cell? ⟨rp, 6, none⟩ = some (.int .i64 rep) ∧ w'.cell? ⟨rp, 7, none⟩ = some (.int .i64 rrm) ∧ w'.cell? ⟨rp, 8, none⟩ = some (.string rwr) ∧ w'.cell? ⟨rp, 9, none⟩ = some (.bool rdm) ∧ w'.cell? ⟨rp, 10, none⟩ = some (.bool rpt) ∧ w'.cell? ⟨lp, 0, none⟩ = some (.slice ao H.length c) ∧ w'.cell? ⟨lp, 1, none⟩ = some (.slice bo P.length d) ∧ w'.cell? ⟨w.heap.size, 0, none⟩ = some (.int .i64 rsz) ∧ w'.cell? ⟨w.heap.size, 1, none⟩ = some (.string rsha) ∧ w'.cell? ⟨w.heap.size, 2, none⟩ = some (.string rmd) ∧ w'.cell? ⟨w.heap.size, 3, none⟩ = some (.int .i64 rrp) ∧ w'.cell? ⟨w.heap.size, 4, none⟩ = some (.slice ra LR.length rc) ∧ w'.cell? ⟨w.heap.size, 5, none⟩ = some (.int .i64 rver) ∧ w'.cell? ⟨w.heap.size, 6, none⟩ = some (.int .i64 rep) ∧ w'.cell? ⟨w.heap.size, 7, none⟩ = some (.int .i64 rrm) ∧ w'.cell? ⟨w.heap.size, 8, none⟩ = some (.string rwr) ∧ w'.cell? ⟨w.heap.size, 9, none⟩ = some (.bool rdm) ∧ w'.cell? ⟨w.heap.size, 10, none⟩ = some (.bool rpt) ∧ w'.cell? ⟨w.heap.size + 1, 0, none⟩ = some (.string nad) ∧ w'.cell? ⟨w.heap.size + 1, 1, none⟩ = some (.bool nre) ∧ w'.cell? ⟨w.heap.size + 1, 2, none⟩ = some (.bool nhe) ∧ w'.cell? ⟨w.heap.size + 1, 3, none⟩ = some (.int .i64 nsz) ∧ w'.cell? ⟨w.heap.size + 1, 4, none⟩ = some (.string nsha) ∧ w'.cell? ⟨w.heap.size + 1, 5, none⟩ = some (.string nmd) ∧ w'.cell? ⟨w.heap.size + 1, 6, none⟩ = some (.int .i64 nrp) ∧ w'.cell? ⟨w.heap.size + 1, 7, none⟩ = some (.slice na LN.length nc) ∧ w'.cell? ⟨w.heap.size + 1, 8, none⟩ = some (.int .i64 nver) ∧ w'.cell? ⟨w.heap.size + 1, 9, none⟩ = some (.int .i64 nep) ∧ w'.cell? ⟨w.heap.size + 1, 10, none⟩ = some (.int .i64 nrm) ∧ w'.cell? ⟨w.heap.size + 1, 11, none⟩ = some (.string nwr) ∧ w'.cell? ⟨w.heap.size + 1, 12, none⟩ = some (.bool ndm) ∧ w'.cell? ⟨w.heap.size + 1, 13, none⟩ = some (.bool npt) ∧ w'.cell? ⟨w.heap.size + 1, 14, none⟩ = some (.int .i64 nfr))
          (exact boxes rsz rrp rver rep rrm rsha rmd rwr ra LR.length rc rdm rpt nad nre nhe nfr nsz nrp nver nep nrm nsha nmd nwr na LN.length nc ndm npt (.slice ao H.length c) (.slice bo P.length d) w.heap.size (w.heap.size + 1) lp rp _ (by assumption))
          (first
            | (go_at_call 32
               refine (pair_4 rsz rrp rver rep rrm rsha rmd rwr ra LR.length rc rdm rpt nad nre nhe nfr nsz nrp nver nep nrm nsha nmd nwr na LN.length nc ndm npt _ _ _ _ addr H P _ (hCW.below hd4 (Nat.le_refl _)) (hHW.below hd4 (Nat.le_refl _)) (hPW.below hd4 (Nat.le_refl _)) (hKW.below hd4 (Nat.le_refl _)) hHl hPl HS hin ip hip).mono ?_
               rintro e wa4 ⟨m, rfl, b8, hcall⟩
               have la : Below W.heap.size W wa4 := hd4.trans (b8.mono hd4.size)
               have fa : Four rsz rrp rver rep rrm rsha rmd rwr ra LR.length rc rdm rpt nad nre nhe nfr nsz nrp nver nep nrm nsha nmd nwr na LN.length nc ndm npt (.slice ao H.length c) (.slice bo P.length d) w.heap.size (w.heap.size + 1) lp rp wa4 := fourW.below la)
            | (go_at_call 29
               refine hcall.mono ?_
               rintro e wz4 ⟨rfl, b9⟩
               have hal5 : Below W.heap.size W wz4 := la.trans (b9.mono la.size)
               have fz : Four rsz rrp rver rep rrm rsha rmd rwr ra LR.length rc rdm rpt nad nre nhe nfr nsz nrp nver nep nrm nsha nmd nwr na LN.length nc ndm npt (.slice ao H.length c) (.slice bo P.length d) w.heap.size (w.heap.size + 1) lp rp wz4 := fourW.below hal5))
        clear hcall fa fz la b8 b9 hd4 fd4 hal4
        go_upto_region 33 with fail
        as_aux_lemma =>
        have hd5 : Below W.heap.size W wz4.drew := hal5.drew
        have fd5 : Four rsz rrp rver rep rrm rsha rmd rwr ra LR.length rc rdm rpt nad nre nhe nfr nsz nrp nver nep nrm nsha nmd nwr na LN.length nc ndm npt (.slice ao H.length c) (.slice bo P.length d) w.heap.size (w.heap.size + 1) lp rp wz4.drew := fourW.below hd5
        go_region_held3 (fun w' => w'.cell? ⟨rp, 0, none⟩ = some (.int .i64 rsz) ∧ w'.cell? ⟨rp, 1, none⟩ = some (.string rsha) ∧ w'.cell? ⟨rp, 2, none⟩ = some (.string rmd) ∧ w'.cell? ⟨rp, 3, none⟩ = some (.int .i64 rrp) ∧ w'.cell? ⟨rp, 4, none⟩ = some (.slice ra LR.length rc) ∧ w'.cell? ⟨rp, 5, none⟩ = some (.int .i64 rver) ∧ w'.cell? ⟨rp, 6, none⟩ = some (.int .i64 rep) ∧ w'.cell? ⟨rp, 7, none⟩ = some (.int .i64 rrm) ∧ w'.cell? ⟨rp, 8, none⟩ = some (.string rwr) ∧ w'.cell? ⟨rp, 9, none⟩ = some (.bool rdm) ∧ w'.cell? ⟨rp, 10, none⟩ = some (.bool rpt) ∧ w'.cell? ⟨lp, 0, none⟩ = some (.slice ao H.length c) ∧ w'.cell? ⟨lp, 1, none⟩ = some (.slice bo P.length d) ∧ w'.cell? ⟨w.heap.size, 0, none⟩ = some (.int .i64 rsz) ∧ w'.cell? ⟨w.heap.size, 1, none⟩ = some (.string rsha) ∧ w'.cell? ⟨w.heap.size, 2, none⟩ = some (.string rmd) ∧ w'.cell? ⟨w.heap.size, 3, none⟩ = some (.int .i64 rrp) ∧ w'.cell? ⟨w.heap.size, 4, none⟩ = some (.slice ra LR.length rc) ∧ w'.cell? ⟨w.heap.size, 5, none⟩ = some (.int .i64 rver) ∧ w'.cell? ⟨w.heap.size, 6, none⟩ = some (.int .i64 rep) ∧ w'.cell? ⟨w.heap.size, 7, none⟩ = some (.int .i64 rrm) ∧ w'.cell? ⟨w.heap.size, 8, none⟩ = some (.string rwr) ∧ w'.cell? ⟨w.heap.size, 9, none⟩ = some (.bool rdm) ∧ w'.cell? ⟨w.heap.size, 10, none⟩ = some (.bool rpt) ∧ w'.cell? ⟨w.heap.size + 1, 0, none⟩ = some (.string nad) ∧ w'.cell? ⟨w.heap.size + 1, 1, none⟩ = some (.bool nre) ∧ w'.cell? ⟨w.heap.size + 1, 2, none⟩ = some (.bool nhe) ∧ w'.cell? ⟨w.heap.size + 1, 3, none⟩ = some (.int .i64 nsz) ∧ w'.cell? ⟨w.heap.size + 1, 4, none⟩ = some (.string nsha) ∧ w'.cell? ⟨w.heap.size + 1, 5, none⟩ = some (.string nmd) ∧ w'.cell? ⟨w.heap.size + 1, 6, none⟩ = some (.int .i64 nrp) ∧ w'.cell? ⟨w.heap.size + 1, 7, none⟩ = some (.slice na LN.length nc) ∧ w'.cell? ⟨w.heap.size + 1, 8, none⟩ = some (.int .i64 nver) ∧ w'.cell? ⟨w.heap.size + 1, 9, none⟩ = some (.int .i64 nep) ∧ w'.cell? ⟨w.heap.size + 1, 10, none⟩ = some (.int .i64 nrm) ∧ w'.cell? ⟨w.heap.size + 1, 11, none⟩ = some (.string nwr) ∧ w'.cell? ⟨w.heap.size + 1, 12, none⟩ = some (.bool ndm) ∧ w'.cell? ⟨w.heap.size + 1, 13, none⟩ = some (.bool npt) ∧ w'.cell? ⟨w.heap.size + 1, 14, none⟩ = some (.int .i64 nfr))
          (exact boxes rsz rrp rver rep rrm rsha rmd rwr ra LR.length rc rdm rpt nad nre nhe nfr nsz nrp nver nep nrm nsha nmd nwr na LN.length nc ndm npt (.slice ao H.length c) (.slice bo P.length d) w.heap.size (w.heap.size + 1) lp rp _ (by assumption))
          (first
            | (go_at_call 32
               refine (pair_5 rsz rrp rver rep rrm rsha rmd rwr ra LR.length rc rdm rpt nad nre nhe nfr nsz nrp nver nep nrm nsha nmd nwr na LN.length nc ndm npt _ _ _ _ addr H P _ (hCW.below hd5 (Nat.le_refl _)) (hHW.below hd5 (Nat.le_refl _)) (hPW.below hd5 (Nat.le_refl _)) (hKW.below hd5 (Nat.le_refl _)) hHl hPl HS hin ip hip).mono ?_
               rintro e wa5 ⟨m, rfl, b8, hcall⟩
               have la : Below W.heap.size W wa5 := hd5.trans (b8.mono hd5.size)
               have fa : Four rsz rrp rver rep rrm rsha rmd rwr ra LR.length rc rdm rpt nad nre nhe nfr nsz nrp nver nep nrm nsha nmd nwr na LN.length nc ndm npt (.slice ao H.length c) (.slice bo P.length d) w.heap.size (w.heap.size + 1) lp rp wa5 := fourW.below la)
            | (go_at_call 29
               refine hcall.mono ?_
               rintro e wz5 ⟨rfl, b9⟩
               have hal6 : Below W.heap.size W wz5 := la.trans (b9.mono la.size)
               have fz : Four rsz rrp rver rep rrm rsha rmd rwr ra LR.length rc rdm rpt nad nre nhe nfr nsz nrp nver nep nrm nsha nmd nwr na LN.length nc ndm npt (.slice ao H.length c) (.slice bo P.length d) w.heap.size (w.heap.size + 1) lp rp wz5 := fourW.below hal6))
        clear hcall fa fz la b8 b9 hd5 fd5 hal5
        go_upto_region 34 with fail
        as_aux_lemma =>
        have hd6 : Below W.heap.size W wz5.drew := hal6.drew
        have fd6 : Four rsz rrp rver rep rrm rsha rmd rwr ra LR.length rc rdm rpt nad nre nhe nfr nsz nrp nver nep nrm nsha nmd nwr na LN.length nc ndm npt (.slice ao H.length c) (.slice bo P.length d) w.heap.size (w.heap.size + 1) lp rp wz5.drew := fourW.below hd6
        go_region_held3 (fun w' => w'.cell? ⟨rp, 0, none⟩ = some (.int .i64 rsz) ∧ w'.cell? ⟨rp, 1, none⟩ = some (.string rsha) ∧ w'.cell? ⟨rp, 2, none⟩ = some (.string rmd) ∧ w'.cell? ⟨rp, 3, none⟩ = some (.int .i64 rrp) ∧ w'.cell? ⟨rp, 4, none⟩ = some (.slice ra LR.length rc) ∧ w'.cell? ⟨rp, 5, none⟩ = some (.int .i64 rver) ∧ w'.cell? ⟨rp, 6, none⟩ = some (.int .i64 rep) ∧ w'.cell? ⟨rp, 7, none⟩ = some (.int .i64 rrm) ∧ w'.cell? ⟨rp, 8, none⟩ = some (.string rwr) ∧ w'.cell? ⟨rp, 9, none⟩ = some (.bool rdm) ∧ w'.cell? ⟨rp, 10, none⟩ = some (.bool rpt) ∧ w'.cell? ⟨lp, 0, none⟩ = some (.slice ao H.length c) ∧ w'.cell? ⟨lp, 1, none⟩ = some (.slice bo P.length d) ∧ w'.cell? ⟨w.heap.size, 0, none⟩ = some (.int .i64 rsz) ∧ w'.cell? ⟨w.heap.size, 1, none⟩ = some (.string rsha) ∧ w'.cell? ⟨w.heap.size, 2, none⟩ = some (.string rmd) ∧ w'.cell? ⟨w.heap.size, 3, none⟩ = some (.int .i64 rrp) ∧ w'.cell? ⟨w.heap.size, 4, none⟩ = some (.slice ra LR.length rc) ∧ w'.cell? ⟨w.heap.size, 5, none⟩ = some (.int .i64 rver) ∧ w'.cell? ⟨w.heap.size, 6, none⟩ = some (.int .i64 rep) ∧ w'.cell? ⟨w.heap.size, 7, none⟩ = some (.int .i64 rrm) ∧ w'.cell? ⟨w.heap.size, 8, none⟩ = some (.string rwr) ∧ w'.cell? ⟨w.heap.size, 9, none⟩ = some (.bool rdm) ∧ w'.cell? ⟨w.heap.size, 10, none⟩ = some (.bool rpt) ∧ w'.cell? ⟨w.heap.size + 1, 0, none⟩ = some (.string nad) ∧ w'.cell? ⟨w.heap.size + 1, 1, none⟩ = some (.bool nre) ∧ w'.cell? ⟨w.heap.size + 1, 2, none⟩ = some (.bool nhe) ∧ w'.cell? ⟨w.heap.size + 1, 3, none⟩ = some (.int .i64 nsz) ∧ w'.cell? ⟨w.heap.size + 1, 4, none⟩ = some (.string nsha) ∧ w'.cell? ⟨w.heap.size + 1, 5, none⟩ = some (.string nmd) ∧ w'.cell? ⟨w.heap.size + 1, 6, none⟩ = some (.int .i64 nrp) ∧ w'.cell? ⟨w.heap.size + 1, 7, none⟩ = some (.slice na LN.length nc) ∧ w'.cell? ⟨w.heap.size + 1, 8, none⟩ = some (.int .i64 nver) ∧ w'.cell? ⟨w.heap.size + 1, 9, none⟩ = some (.int .i64 nep) ∧ w'.cell? ⟨w.heap.size + 1, 10, none⟩ = some (.int .i64 nrm) ∧ w'.cell? ⟨w.heap.size + 1, 11, none⟩ = some (.string nwr) ∧ w'.cell? ⟨w.heap.size + 1, 12, none⟩ = some (.bool ndm) ∧ w'.cell? ⟨w.heap.size + 1, 13, none⟩ = some (.bool npt) ∧ w'.cell? ⟨w.heap.size + 1, 14, none⟩ = some (.int .i64 nfr))
          (exact boxes rsz rrp rver rep rrm rsha rmd rwr ra LR.length rc rdm rpt nad nre nhe nfr nsz nrp nver nep nrm nsha nmd nwr na LN.length nc ndm npt (.slice ao H.length c) (.slice bo P.length d) w.heap.size (w.heap.size + 1) lp rp _ (by assumption))
          (first
            | (go_at_call 32
               refine (pair_6 rsz rrp rver rep rrm rsha rmd rwr ra LR.length rc rdm rpt nad nre nhe nfr nsz nrp nver nep nrm nsha nmd nwr na LN.length nc ndm npt _ _ _ _ addr H P _ (hCW.below hd6 (Nat.le_refl _)) (hHW.below hd6 (Nat.le_refl _)) (hPW.below hd6 (Nat.le_refl _)) (hKW.below hd6 (Nat.le_refl _)) hHl hPl HS hin ip hip).mono ?_
               rintro e wa6 ⟨m, rfl, b8, hcall⟩
               have la : Below W.heap.size W wa6 := hd6.trans (b8.mono hd6.size)
               have fa : Four rsz rrp rver rep rrm rsha rmd rwr ra LR.length rc rdm rpt nad nre nhe nfr nsz nrp nver nep nrm nsha nmd nwr na LN.length nc ndm npt (.slice ao H.length c) (.slice bo P.length d) w.heap.size (w.heap.size + 1) lp rp wa6 := fourW.below la)
            | (go_at_call 29
               refine hcall.mono ?_
               rintro e wz6 ⟨rfl, b9⟩
               have hal7 : Below W.heap.size W wz6 := la.trans (b9.mono la.size)
               have fz : Four rsz rrp rver rep rrm rsha rmd rwr ra LR.length rc rdm rpt nad nre nhe nfr nsz nrp nver nep nrm nsha nmd nwr na LN.length nc ndm npt (.slice ao H.length c) (.slice bo P.length d) w.heap.size (w.heap.size + 1) lp rp wz6 := fourW.below hal7))
        clear hcall fa fz la b8 b9 hd6 fd6 hal6
        go_upto_region 35 with fail
        as_aux_lemma =>
        have hd7 : Below W.heap.size W wz6.drew := hal7.drew
        have fd7 : Four rsz rrp rver rep rrm rsha rmd rwr ra LR.length rc rdm rpt nad nre nhe nfr nsz nrp nver nep nrm nsha nmd nwr na LN.length nc ndm npt (.slice ao H.length c) (.slice bo P.length d) w.heap.size (w.heap.size + 1) lp rp wz6.drew := fourW.below hd7
        go_region_held3 (fun w' => w'.cell? ⟨rp, 0, none⟩ = some (.int .i64 rsz) ∧ w'.cell? ⟨rp, 1, none⟩ = some (.string rsha) ∧ w'.cell? ⟨rp, 2, none⟩ = some (.string rmd) ∧ w'.cell? ⟨rp, 3, none⟩ = some (.int .i64 rrp) ∧ w'.cell? ⟨rp, 4, none⟩ = some (.slice ra LR.length rc) ∧ w'.cell? ⟨rp, 5, none⟩ = some (.int .i64 rver) ∧ w'.cell? ⟨rp, 6, none⟩ = some (.int .i64 rep) ∧ w'.cell? ⟨rp, 7, none⟩ = some (.int .i64 rrm) ∧ w'.cell? ⟨rp, 8, none⟩ = some (.string rwr) ∧ w'.cell? ⟨rp, 9, none⟩ = some (.bool rdm) ∧ w'.cell? ⟨rp, 10, none⟩ = some (.bool rpt) ∧ w'.cell? ⟨lp, 0, none⟩ = some (.slice ao H.length c) ∧ w'.cell? ⟨lp, 1, none⟩ = some (.slice bo P.length d) ∧ w'.cell? ⟨w.heap.size, 0, none⟩ = some (.int .i64 rsz) ∧ w'.cell? ⟨w.heap.size, 1, none⟩ = some (.string rsha) ∧ w'.cell? ⟨w.heap.size, 2, none⟩ = some (.string rmd) ∧ w'.cell? ⟨w.heap.size, 3, none⟩ = some (.int .i64 rrp) ∧ w'.cell? ⟨w.heap.size, 4, none⟩ = some (.slice ra LR.length rc) ∧ w'.cell? ⟨w.heap.size, 5, none⟩ = some (.int .i64 rver) ∧ w'.cell? ⟨w.heap.size, 6, none⟩ = some (.int .i64 rep) ∧ w'.cell? ⟨w.heap.size, 7, none⟩ = some (.int .i64 rrm) ∧ w'.cell? ⟨w.heap.size, 8, none⟩ = some (.string rwr) ∧ w'.cell? ⟨w.heap.size, 9, none⟩ = some (.bool rdm) ∧ w'.cell? ⟨w.heap.size, 10, none⟩ = some (.bool rpt) ∧ w'.cell? ⟨w.heap.size + 1, 0, none⟩ = some (.string nad) ∧ w'.cell? ⟨w.heap.size + 1, 1, none⟩ = some (.bool nre) ∧ w'.cell? ⟨w.heap.size + 1, 2, none⟩ = some (.bool nhe) ∧ w'.cell? ⟨w.heap.size + 1, 3, none⟩ = some (.int .i64 nsz) ∧ w'.cell? ⟨w.heap.size + 1, 4, none⟩ = some (.string nsha) ∧ w'.cell? ⟨w.heap.size + 1, 5, none⟩ = some (.string nmd) ∧ w'.cell? ⟨w.heap.size + 1, 6, none⟩ = some (.int .i64 nrp) ∧ w'.cell? ⟨w.heap.size + 1, 7, none⟩ = some (.slice na LN.length nc) ∧ w'.cell? ⟨w.heap.size + 1, 8, none⟩ = some (.int .i64 nver) ∧ w'.cell? ⟨w.heap.size + 1, 9, none⟩ = some (.int .i64 nep) ∧ w'.cell? ⟨w.heap.size + 1, 10, none⟩ = some (.int .i64 nrm) ∧ w'.cell? ⟨w.heap.size + 1, 11, none⟩ = some (.string nwr) ∧ w'.cell? ⟨w.heap.size + 1, 12, none⟩ = some (.bool ndm) ∧ w'.cell? ⟨w.heap.size + 1, 13, none⟩ = some (.bool npt) ∧ w'.cell? ⟨w.heap.size + 1, 14, none⟩ = some (.int .i64 nfr))
          (exact boxes rsz rrp rver rep rrm rsha rmd rwr ra LR.length rc rdm rpt nad nre nhe nfr nsz nrp nver nep nrm nsha nmd nwr na LN.length nc ndm npt (.slice ao H.length c) (.slice bo P.length d) w.heap.size (w.heap.size + 1) lp rp _ (by assumption))
          (first
            | (go_at_call 32
               refine (pair_7 rsz rrp rver rep rrm rsha rmd rwr ra LR.length rc rdm rpt nad nre nhe nfr nsz nrp nver nep nrm nsha nmd nwr na LN.length nc ndm npt _ _ _ _ addr H P _ (hCW.below hd7 (Nat.le_refl _)) (hHW.below hd7 (Nat.le_refl _)) (hPW.below hd7 (Nat.le_refl _)) (hKW.below hd7 (Nat.le_refl _)) hHl hPl HS hin ip hip).mono ?_
               rintro e wa7 ⟨m, rfl, b8, hcall⟩
               have la : Below W.heap.size W wa7 := hd7.trans (b8.mono hd7.size)
               have fa : Four rsz rrp rver rep rrm rsha rmd rwr ra LR.length rc rdm rpt nad nre nhe nfr nsz nrp nver nep nrm nsha nmd nwr na LN.length nc ndm npt (.slice ao H.length c) (.slice bo P.length d) w.heap.size (w.heap.size + 1) lp rp wa7 := fourW.below la)
            | (go_at_call 29
               refine hcall.mono ?_
               rintro e wz7 ⟨rfl, b9⟩
               have hal8 : Below W.heap.size W wz7 := la.trans (b9.mono la.size)
               have fz : Four rsz rrp rver rep rrm rsha rmd rwr ra LR.length rc rdm rpt nad nre nhe nfr nsz nrp nver nep nrm nsha nmd nwr na LN.length nc ndm npt (.slice ao H.length c) (.slice bo P.length d) w.heap.size (w.heap.size + 1) lp rp wz7 := fourW.below hal8))
        clear hcall fa fz la b8 b9 hd7 fd7 hal7
        as_aux_lemma =>
        cases ip
        · go_wp2
          go_ret
          exact ⟨rfl, lwW.trans (hal8.mono lwW.size)⟩
        · go_wp2
          go_ret
          exact ⟨rfl, lwW.trans (hal8.mono lwW.size)⟩

end Go.Proofs.Qxb6617077a
