import Derived.Test.Qxb6617077aSums
namespace Go.Proofs.Qxb6617077a
open Go.RowKit

/-- A bool came back; if it is true, p. -/
def GaveGuard (e : Ending) (p : Prop) : Prop := ∃ r, e = .returned (.bool r) ∧ (r = true → p)

set_option maxRecDepth 100000 in
set_option maxHeartbeats 8000000 in
theorem zz31 (rsz rrp rver rep rrm : Int) (rsha rmd rwr : ByteArray) (ra : Option Addr) (rc : Nat) (rdm rpt : Bool) (nad : ByteArray) (nre nhe : Bool) (nfr : Int) (nsz nrp nver nep nrm : Int) (nsha nmd nwr : ByteArray) (na : Option Addr) (nc : Nat) (ndm npt : Bool) (ha pa : Option Addr) (hc pc : Nat) (kk : Int) (LR LN H P : List ByteArray) (w : World) (hR : SL w (.slice ra LR.length rc) LR) (hN : SL w (.slice na LN.length nc) LN) (hH : SL w (.slice ha H.length hc) H) (hP : SL w (.slice pa P.length pc) P) :
    Calls Try.prog 31 #[.agg #[.int .i64 rsz, .string rsha, .string rmd, .int .i64 rrp, .slice ra LR.length rc, .int .i64 rver, .int .i64 rep, .int .i64 rrm, .string rwr, .bool rdm, .bool rpt], .slice ha H.length hc, .slice pa P.length pc, .int .i64 kk, .agg #[.string nad, .bool nre, .bool nhe, .int .i64 nsz, .string nsha, .string nmd, .int .i64 nrp, .slice na LN.length nc, .int .i64 nver, .int .i64 nep, .int .i64 nrm, .string nwr, .bool ndm, .bool npt, .int .i64 nfr]] w fun e w' => GaveGuard e (LR.length ≤ 1048576 ∧ LN.length ≤ 1048576) ∧ Below w.heap.size w w' := by
  have hb0 : Below w.heap.size w ((w.alloc (.cells #[.int .i64 rsz, .string rsha, .string rmd, .int .i64 rrp, .slice ra LR.length rc, .int .i64 rver, .int .i64 rep, .int .i64 rrm, .string rwr, .bool rdm, .bool rpt] 34)).alloc (.cells #[.string nad, .bool nre, .bool nhe, .int .i64 nsz, .string nsha, .string nmd, .int .i64 nrp, .slice na LN.length nc, .int .i64 nver, .int .i64 nep, .int .i64 nrm, .string nwr, .bool ndm, .bool npt, .int .i64 nfr] 53)) := ((Below.refl _ _).alloc (Nat.le_refl _) _).alloc (by simp) _
  go_enter Try.func31, Try.ntmps31
  go_wp2
  all_goals try (go_ret; exact ⟨⟨_, rfl, fun h => Bool.noConfusion h⟩, hb0⟩)
  go_loop [11, 12] (fun nv i => ∃ (k : Nat) (y : Int), k ≤ LR.length ∧ i = .int .i64 k ∧ nv = .int .i64 y ∧ 0 ≤ y ∧ y ≤ 1048576) (fun _ i => LR.length - (intOf i).toNat)
  case atStart => exact ⟨0, _, Nat.zero_le _, rfl, rfl, by omega, by omega⟩
  case round =>
    obtain ⟨k1, y1, hk1, rfl, rfl, hy1, hz1⟩ := hrel
    by_cases hlt1 : k1 < LR.length
    · obtain ⟨b1, off1, hx1, hg1, hc1⟩ := hR.at hlt1
      have hne1 : b1 < w.heap.size := hg1
      subst hx1
      have hd1 := (hb0.cell (p := ⟨b1, off1 + k1, none⟩) hg1).trans hc1
      go_wp2
      all_goals try (go_ret; exact ⟨⟨_, rfl, fun h => Bool.noConfusion h⟩, hb0⟩)
      go_round
      case rel => exact ⟨k1 + 1, _, by omega, by go_num, rfl, by omega, by omega⟩
      case measure => simp [intOf]; omega
    · skip
      go_wp2
      all_goals try (go_ret; exact ⟨⟨_, rfl, fun h => Bool.noConfusion h⟩, hb0⟩)
      go_loop [11, 13] (fun nv i => ∃ (k : Nat) (y : Int), k ≤ H.length ∧ i = .int .i64 k ∧ nv = .int .i64 y ∧ 0 ≤ y ∧ y ≤ 1048576) (fun _ i => H.length - (intOf i).toNat)
      case atStart => exact ⟨0, _, Nat.zero_le _, rfl, rfl, by omega, by omega⟩
      case round =>
        obtain ⟨k2, y2, hk2, rfl, rfl, hy2, hz2⟩ := hrel
        by_cases hlt2 : k2 < H.length
        · obtain ⟨b2, off2, hx2, hg2, hc2⟩ := hH.at hlt2
          have hne2 : b2 < w.heap.size := hg2
          subst hx2
          have hd2 := (hb0.cell (p := ⟨b2, off2 + k2, none⟩) hg2).trans hc2
          go_wp2
          all_goals try (go_ret; exact ⟨⟨_, rfl, fun h => Bool.noConfusion h⟩, hb0⟩)
          go_round
          case rel => exact ⟨k2 + 1, _, by omega, by go_num, rfl, by omega, by omega⟩
          case measure => simp [intOf]; omega
        · skip
          go_wp2
          all_goals try (go_ret; exact ⟨⟨_, rfl, fun h => Bool.noConfusion h⟩, hb0⟩)
          go_loop [11, 14] (fun nv i => ∃ (k : Nat) (y : Int), k ≤ P.length ∧ i = .int .i64 k ∧ nv = .int .i64 y ∧ 0 ≤ y ∧ y ≤ 1048576) (fun _ i => P.length - (intOf i).toNat)
          case atStart => exact ⟨0, _, Nat.zero_le _, rfl, rfl, by omega, by omega⟩
          case round =>
            obtain ⟨k3, y3, hk3, rfl, rfl, hy3, hz3⟩ := hrel
            by_cases hlt3 : k3 < P.length
            · obtain ⟨b3, off3, hx3, hg3, hc3⟩ := hP.at hlt3
              have hne3 : b3 < w.heap.size := hg3
              subst hx3
              have hd3 := (hb0.cell (p := ⟨b3, off3 + k3, none⟩) hg3).trans hc3
              go_wp2
              all_goals try (go_ret; exact ⟨⟨_, rfl, fun h => Bool.noConfusion h⟩, hb0⟩)
              go_round
              case rel => exact ⟨k3 + 1, _, by omega, by go_num, rfl, by omega, by omega⟩
              case measure => simp [intOf]; omega
            · skip
              go_wp2
              all_goals try (go_ret; exact ⟨⟨_, rfl, fun h => Bool.noConfusion h⟩, hb0⟩)
              go_loop [11, 15] (fun nv i => ∃ (k : Nat) (y : Int), k ≤ LN.length ∧ i = .int .i64 k ∧ nv = .int .i64 y ∧ 0 ≤ y ∧ y ≤ 1048576) (fun _ i => LN.length - (intOf i).toNat)
              case atStart => exact ⟨0, _, Nat.zero_le _, rfl, rfl, by omega, by omega⟩
              case round =>
                obtain ⟨k4, y4, hk4, rfl, rfl, hy4, hz4⟩ := hrel
                by_cases hlt4 : k4 < LN.length
                · obtain ⟨b4, off4, hx4, hg4, hc4⟩ := hN.at hlt4
                  have hne4 : b4 < w.heap.size := hg4
                  subst hx4
                  have hd4 := (hb0.cell (p := ⟨b4, off4 + k4, none⟩) hg4).trans hc4
                  go_wp2
                  all_goals try (go_ret; exact ⟨⟨_, rfl, fun h => Bool.noConfusion h⟩, hb0⟩)
                  go_round
                  case rel => exact ⟨k4 + 1, _, by omega, by go_num, rfl, by omega, by omega⟩
                  case measure => simp [intOf]; omega
                · skip
                  go_wp2
                  all_goals first | (go_ret; exact ⟨⟨_, rfl, fun h => Bool.noConfusion h⟩, hb0⟩) | (go_ret; exact ⟨⟨_, rfl, fun _ => ⟨by omega, by omega⟩⟩, hb0⟩)
  
end Go.Proofs.Qxb6617077a
