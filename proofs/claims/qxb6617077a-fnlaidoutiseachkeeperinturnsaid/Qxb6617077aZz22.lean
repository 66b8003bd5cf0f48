import Derived.Test.Qxb6617077aReps
namespace Go.Proofs.Qxb6617077a
open Go.RowKit
set_option linter.unusedVariables false
set_option linter.unusedSimpArgs false

set_option maxRecDepth 100000 in
set_option maxHeartbeats 8000000 in
theorem zz22 (rsz rrp rver rep rrm : Int) (rsha rmd rwr : ByteArray) (ra : Option Addr) (rc : Nat) (rdm rpt : Bool) (ha pa aa qa : Option Addr) (hc pc ac qc : Nat) (LR H P AD : List ByteArray) (rs : List (Ans × List ByteArray)) (w : World) (hR : SL w (.slice ra LR.length rc) LR) (hH : SL w (.slice ha H.length hc) H) (hP : SL w (.slice pa P.length pc) P) (hA : SL w (.slice aa AD.length ac) AD) (hRS : RS w (.slice qa rs.length qc) rs) :
    Calls Try.prog 22 #[.agg #[.int .i64 rsz, .string rsha, .string rmd, .int .i64 rrp, .slice ra LR.length rc, .int .i64 rver, .int .i64 rep, .int .i64 rrm, .string rwr, .bool rdm, .bool rpt], .slice ha H.length hc, .slice pa P.length pc, .slice aa AD.length ac, .slice qa rs.length qc] w fun e w' => GaveGuard e (LR.length ≤ 1048576 ∧ ∀ r ∈ rs, r.2.length ≤ 1048576) ∧ Below w.heap.size w w' := by
  have hb0 : Below w.heap.size w (w.alloc (.cells #[.int .i64 rsz, .string rsha, .string rmd, .int .i64 rrp, .slice ra LR.length rc, .int .i64 rver, .int .i64 rep, .int .i64 rrm, .string rwr, .bool rdm, .bool rpt] 34)) := (Below.refl _ _).alloc (Nat.le_refl _) _
  go_enter Try.func22, Try.ntmps22
  go_wp2
  all_goals try (go_ret; exact ⟨⟨_, rfl, fun h => Bool.noConfusion h⟩, hb0⟩)
  go_loop [11, 12] (fun nv i => ∃ (k : Nat) (y : Int), k ≤ LR.length ∧ i = .int .i64 k ∧ nv = .int .i64 y ∧ 0 ≤ y ∧ y ≤ 1048576) (fun _ i => LR.length - (intOf i).toNat)
  case atStart => exact ⟨0, _, Nat.zero_le _, rfl, rfl, by omega, by omega⟩
  case round =>
    obtain ⟨k1, y1, hk1, rfl, rfl, hy1, hz1⟩ := hrel
    by_cases hlt1 : k1 < LR.length
    · obtain ⟨b1, off1, hx1, hg1, hc1⟩ := hR.at hlt1
      have hne1 : b1 < w.heap.size := hg1
      subst hx1
      have hd1 := (hb0.cell (p := ⟨b1, off1 + k1, none⟩) hg1).trans hc1
      go_wp2
      all_goals try (go_ret; exact ⟨⟨_, rfl, fun h => Bool.noConfusion h⟩, hb0⟩)
      go_round
      case rel => exact ⟨k1 + 1, _, by omega, by go_num, rfl, by omega, by omega⟩
      case measure => simp [intOf]; omega
    · skip
      go_wp2
      all_goals try (go_ret; exact ⟨⟨_, rfl, fun h => Bool.noConfusion h⟩, hb0⟩)
      go_loop [11, 13] (fun nv i => ∃ (k : Nat) (y : Int), k ≤ H.length ∧ i = .int .i64 k ∧ nv = .int .i64 y ∧ 0 ≤ y ∧ y ≤ 1048576) (fun _ i => H.length - (intOf i).toNat)
      case atStart => exact ⟨0, _, Nat.zero_le _, rfl, rfl, by omega, by omega⟩
      case round =>
        obtain ⟨k2, y2, hk2, rfl, rfl, hy2, hz2⟩ := hrel
        by_cases hlt2 : k2 < H.length
        · obtain ⟨b2, off2, hx2, hg2, hc2⟩ := hH.at hlt2
          have hne2 : b2 < w.heap.size := hg2
          subst hx2
          have hd2 := (hb0.cell (p := ⟨b2, off2 + k2, none⟩) hg2).trans hc2
          go_wp2
          all_goals try (go_ret; exact ⟨⟨_, rfl, fun h => Bool.noConfusion h⟩, hb0⟩)
          go_round
          case rel => exact ⟨k2 + 1, _, by omega, by go_num, rfl, by omega, by omega⟩
          case measure => simp [intOf]; omega
        · skip
          go_wp2
          all_goals try (go_ret; exact ⟨⟨_, rfl, fun h => Bool.noConfusion h⟩, hb0⟩)
          go_loop [11, 14] (fun nv i => ∃ (k : Nat) (y : Int), k ≤ P.length ∧ i = .int .i64 k ∧ nv = .int .i64 y ∧ 0 ≤ y ∧ y ≤ 1048576) (fun _ i => P.length - (intOf i).toNat)
          case atStart => exact ⟨0, _, Nat.zero_le _, rfl, rfl, by omega, by omega⟩
          case round =>
            obtain ⟨k3, y3, hk3, rfl, rfl, hy3, hz3⟩ := hrel
            by_cases hlt3 : k3 < P.length
            · obtain ⟨b3, off3, hx3, hg3, hc3⟩ := hP.at hlt3
              have hne3 : b3 < w.heap.size := hg3
              subst hx3
              have hd3 := (hb0.cell (p := ⟨b3, off3 + k3, none⟩) hg3).trans hc3
              go_wp2
              all_goals try (go_ret; exact ⟨⟨_, rfl, fun h => Bool.noConfusion h⟩, hb0⟩)
              go_round
              case rel => exact ⟨k3 + 1, _, by omega, by go_num, rfl, by omega, by omega⟩
              case measure => simp [intOf]; omega
            · skip
              go_wp2
              all_goals try (go_ret; exact ⟨⟨_, rfl, fun h => Bool.noConfusion h⟩, hb0⟩)
              go_loop [11, 15] (fun nv i => ∃ (k : Nat) (y : Int), k ≤ AD.length ∧ i = .int .i64 k ∧ nv = .int .i64 y ∧ 0 ≤ y ∧ y ≤ 1048576) (fun _ i => AD.length - (intOf i).toNat)
              case atStart => exact ⟨0, _, Nat.zero_le _, rfl, rfl, by omega, by omega⟩
              case round =>
                obtain ⟨k4, y4, hk4, rfl, rfl, hy4, hz4⟩ := hrel
                by_cases hlt4 : k4 < AD.length
                · obtain ⟨b4, off4, hx4, hg4, hc4⟩ := hA.at hlt4
                  have hne4 : b4 < w.heap.size := hg4
                  subst hx4
                  have hd4 := (hb0.cell (p := ⟨b4, off4 + k4, none⟩) hg4).trans hc4
                  go_wp2
                  all_goals try (go_ret; exact ⟨⟨_, rfl, fun h => Bool.noConfusion h⟩, hb0⟩)
                  go_round
                  case rel => exact ⟨k4 + 1, _, by omega, by go_num, rfl, by omega, by omega⟩
                  case measure => simp [intOf]; omega
                · skip
                  go_wp2
                  all_goals try (go_ret; exact ⟨⟨_, rfl, fun h => Bool.noConfusion h⟩, hb0⟩)
                  go_loop [11, 16] (fun nv i => ∃ (k : Nat) (y : Int), k ≤ rs.length ∧ i = .int .i64 k ∧ nv = .int .i64 y ∧ 0 ≤ y ∧ y ≤ 1048576 ∧ Hid (∀ r ∈ rs.take k, r.2.length ≤ 1048576)) (fun _ i => rs.length - (intOf i).toNat)
                  case atStart => exact ⟨0, _, Nat.zero_le _, rfl, rfl, by omega, by omega, fun r hr => by simp at hr⟩
                  case round =>
                    obtain ⟨k5, y5, hk5, rfl, rfl, hy5, hz5, HI5⟩ := hrel
                    by_cases hlt5 : k5 < rs.length
                    · obtain ⟨b5, o5, r5, L5, hx5, hg5, hr5, hR5⟩ := hRS.at hlt5
                      subst hx5
                      have hne5 : b5 < w.heap.size := hg5
                      obtain ⟨xad, xre, xhe, xfr, xsz, xrp, xver, xep, xrm, xsha, xmd, xwr, xa, xn, xc, xdm, xpt⟩ := r5
                      obtain ⟨⟨d0, d1, d2, d3, d4, d5, d6, d7, d8, d9, d10, d11, d12, d13, d14⟩, hs5⟩ := hR5.below hg5 hb0 (Nat.le_refl _)
                      simp only [Ans.hv] at d0 d1 d2 d3 d4 d5 d6 d7 d8 d9 d10 d11 d12 d13 d14 hs5
                      have hn5 := hs5.len
                      subst hn5
                      clear hR5
                      go_wp2
                      all_goals try (go_ret; exact ⟨⟨_, rfl, fun h => Bool.noConfusion h⟩, hb0⟩)
                      go_loop [11, 17] (fun nv i => ∃ (k : Nat) (y : Int), k ≤ L5.length ∧ i = .int .i64 k ∧ nv = .int .i64 y ∧ 0 ≤ y ∧ y ≤ 1048576) (fun _ i => L5.length - (intOf i).toNat)
                      case atStart => exact ⟨0, _, Nat.zero_le _, rfl, rfl, by omega, by omega⟩
                      case round =>
                        obtain ⟨k6, y6, hk6, rfl, rfl, hy6, hz6⟩ := hrel
                        by_cases hlt6 : k6 < L5.length
                        · obtain ⟨b6, off6, hx6, hg6, hc6⟩ := hs5.at hlt6
                          subst hx6
                          go_wp2
                          all_goals try (go_ret; exact ⟨⟨_, rfl, fun h => Bool.noConfusion h⟩, hb0⟩)
                          go_round
                          case rel => exact ⟨k6 + 1, _, by omega, by go_num, rfl, by omega, by omega⟩
                          case measure => simp [intOf]; omega
                        · go_wp2
                          all_goals try (go_ret; exact ⟨⟨_, rfl, fun h => Bool.noConfusion h⟩, hb0⟩)
                          go_round
                          case rel =>
                            refine ⟨k5 + 1, _, by omega, by go_num, rfl, by omega, by omega, ?_⟩
                            show ∀ r ∈ rs.take (k5 + 1), r.2.length ≤ 1048576
                            intro r hr
                            rw [List.take_succ_eq_append_getElem hlt5, List.mem_append, List.mem_singleton] at hr
                            rcases hr with hr | hr
                            · exact HI5.out r hr
                            · rw [hr, hr5.out]; show L5.length ≤ 1048576; omega
                          case measure => simp [intOf]; omega
                    · have HL5 : ∀ r ∈ rs, r.2.length ≤ 1048576 := by
                        have hk : k5 = rs.length := by omega
                        have := HI5.out
                        rw [hk, List.take_length] at this
                        exact this
                      clear HI5
                      go_wp2
                      all_goals first | (go_ret; exact ⟨⟨_, rfl, fun h => Bool.noConfusion h⟩, hb0⟩) | (go_ret; exact ⟨⟨_, rfl, fun _ => ⟨by omega, fun a b hb => HL5 (a, b) hb⟩⟩, hb0⟩)
  
end Go.Proofs.Qxb6617077a
