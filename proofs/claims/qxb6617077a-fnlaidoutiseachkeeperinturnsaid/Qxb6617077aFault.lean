import Derived.Test.Qxb6617077aIdeal
namespace Go.Proofs.Qxb6617077a
open Go.RowKit
set_option linter.unusedVariables false
set_option linter.unusedSimpArgs false

def flip (x : Int) : Int := bits .xor .i64 x 1

theorem MapIs.isMap {w : World} {b n : Nat} {f : ByteArray → Option Value} (h : MapIs w b n f) : ∃ es c, w.heap[b]? = some (.map es c) := by
  obtain ⟨D, ⟨es, clock, h1, _⟩, _⟩ := h
  exact ⟨es, clock, h1⟩
theorem SL.grown {w w' : World} {m : Nat} {v : Value} {ls : List ByteArray} (h : SL w v ls) (hg : w.grownBy w' (some m)) (hm : ∃ es c, w.heap[m]? = some (.map es c)) : SL w' v ls := by
  obtain ⟨a, c, hv, h0, h⟩ := h
  refine ⟨a, c, hv, h0, ?_⟩
  rcases h with h | ⟨b, off, ha, hlt, hc⟩
  · exact .inl h
  · refine .inr ⟨b, off, ha, Nat.lt_of_lt_of_le hlt hg.size, fun j hj => hg.cell (hc j hj) (fun e => ?_)⟩
    have e' : b = m := by simpa using e
    obtain ⟨es, cl, hh⟩ := hm
    have := hc j hj
    rw [e'] at this
    simp [World.cell?, hh] at this


set_option maxRecDepth 100000 in
set_option maxHeartbeats 4000000 in
theorem fault32_0 (rsz rrp rver rep rrm : Int) (rsha rmd rwr : ByteArray) (ra : Option Addr) (rn rc : Nat) (rdm rpt : Bool) (nad : ByteArray) (nre nhe : Bool) (nfr : Int) (nsz nrp nver nep nrm : Int) (nsha nmd nwr : ByteArray) (na : Option Addr) (nn nc : Nat) (ndm npt : Bool) (hv pv kv : Value) (addr : ByteArray) (H P K : List ByteArray) (w : World) (hH : SL w hv H) (hP : SL w pv P) (hK : SL w kv K) (hHl : H.length ≤ 1000) (hPl : P.length ≤ 1000) (hKl : K.length ≤ 2000) (hS : ∀ s ∈ K, s.size ≤ maxLen) (had : addr.size ≤ maxLen)
    (ha : Option Addr) (hc : Nat) (hhv : hv = .slice ha H.length hc) (ip : Bool) (hip : mem P addr = ip) :
    Calls Try.prog 32 #[.agg #[.int .i64 rsz, .string rsha, .string rmd, .int .i64 rrp, .slice ra rn rc, .int .i64 rver, .int .i64 rep, .int .i64 rrm, .string rwr, .bool rdm, .bool rpt], hv, pv, kv, .string addr, .int .i64 0, .agg #[.string nad, .bool nre, .bool nhe, .int .i64 nsz, .string nsha, .string nmd, .int .i64 nrp, .slice na nn nc, .int .i64 nver, .int .i64 nep, .int .i64 nrm, .string nwr, .bool ndm, .bool npt, .int .i64 nfr]] w fun e w' => ∃ (m : Nat) (x : Ans), e = .returned (.map (some m)) ∧
      MapIs w' m (K.length + 1) (upd (fun s => (idealF rver rep ha H.length hc P K s).map Ans.val) addr (some x.val)) ∧ (x.he = true ∧ x.pt = ip ∧ x.ver = rver ∧ x.ep = rep ∧ x.dm = (ip && ndm)) ∧ SL w' x.hv H ∧ Below w.heap.size w w' := by
  subst hhv
  obtain ⟨pa, pc, rfl⟩ := hP.slice
  obtain ⟨ka, kc, rfl⟩ := hK.slice
  have HIP : Hid (mem P addr = ip) := hip
  clear hip
  go_enter Try.func32, Try.ntmps32
  go_wp2_with fail
  have hB0 : Below w.heap.size w ((w.alloc (.cells #[.int .i64 rsz, .string rsha, .string rmd, .int .i64 rrp, .slice ra rn rc, .int .i64 rver, .int .i64 rep, .int .i64 rrm, .string rwr, .bool rdm, .bool rpt] 34)).alloc (.cells #[.string nad, .bool nre, .bool nhe, .int .i64 nsz, .string nsha, .string nmd, .int .i64 nrp, .slice na nn nc, .int .i64 nver, .int .i64 nep, .int .i64 nrm, .string nwr, .bool ndm, .bool npt, .int .i64 nfr] 53)) := ((Below.refl _ _).alloc (Nat.le_refl _) _).alloc (by simp) _
  refine (ideal30 _ _ _ _ _ _ _ _ _ _ _ _ _ _ _ _ H P K _ (hH.below hB0 (Nat.le_refl _)) (hP.below hB0 (Nat.le_refl _)) (hK.below hB0 (Nat.le_refl _)) (by omega) (by omega) hS ha hc rfl).mono ?_
  rintro e w1 ⟨m, hm, rfl, hM, hb1⟩
  have rblk : w1.heap[w.heap.size]? = some (.cells #[.int .i64 rsz, .string rsha, .string rmd, .int .i64 rrp, .slice ra rn rc, .int .i64 rver, .int .i64 rep, .int .i64 rrm, .string rwr, .bool rdm, .bool rpt] 34 (0, 0)) := by
    rw [hb1.block _ (by simp; omega), Below.heap_alloc _ _ _ (by simp)]
    exact heap_alloc_new w _
  have nblk : w1.heap[w.heap.size + 1]? = some (.cells #[.string nad, .bool nre, .bool nhe, .int .i64 nsz, .string nsha, .string nmd, .int .i64 nrp, .slice na nn nc, .int .i64 nver, .int .i64 nep, .int .i64 nrm, .string nwr, .bool ndm, .bool npt, .int .i64 nfr] 53 (0, 0)) := by
    rw [hb1.block _ (by simp)]
    have := heap_alloc_new (w.alloc (.cells #[.int .i64 rsz, .string rsha, .string rmd, .int .i64 rrp, .slice ra rn rc, .int .i64 rver, .int .i64 rep, .int .i64 rrm, .string rwr, .bool rdm, .bool rpt] 34)) (.cells #[.string nad, .bool nre, .bool nhe, .int .i64 nsz, .string nsha, .string nmd, .int .i64 nrp, .slice na nn nc, .int .i64 nver, .int .i64 nep, .int .i64 nrm, .string nwr, .bool ndm, .bool npt, .int .i64 nfr] 53)
    simpa using this
  have l1 : Below w.heap.size w w1 := hB0.trans (hb1.mono hB0.size)
  have hH1 := hH.below l1 (Nat.le_refl _)
  have hP1 := hP.below l1 (Nat.le_refl _)
  have hm' : w.heap.size ≤ m := by simp at hm; omega
  clear hB0 hb1 hP hK hS
  have c0 : w1.cell? ⟨w.heap.size, 0, none⟩ = some (.int .i64 rsz) := by rw [cell_of_row w1 _ 0 _ _ _ rblk]; rfl
  have c1 : w1.cell? ⟨w.heap.size, 1, none⟩ = some (.string rsha) := by rw [cell_of_row w1 _ 1 _ _ _ rblk]; rfl
  have c2 : w1.cell? ⟨w.heap.size, 2, none⟩ = some (.string rmd) := by rw [cell_of_row w1 _ 2 _ _ _ rblk]; rfl
  have c3 : w1.cell? ⟨w.heap.size, 3, none⟩ = some (.int .i64 rrp) := by rw [cell_of_row w1 _ 3 _ _ _ rblk]; rfl
  have c4 : w1.cell? ⟨w.heap.size, 4, none⟩ = some (.slice ra rn rc) := by rw [cell_of_row w1 _ 4 _ _ _ rblk]; rfl
  have c5 : w1.cell? ⟨w.heap.size, 5, none⟩ = some (.int .i64 rver) := by rw [cell_of_row w1 _ 5 _ _ _ rblk]; rfl
  have c6 : w1.cell? ⟨w.heap.size, 6, none⟩ = some (.int .i64 rep) := by rw [cell_of_row w1 _ 6 _ _ _ rblk]; rfl
  have c7 : w1.cell? ⟨w.heap.size, 7, none⟩ = some (.int .i64 rrm) := by rw [cell_of_row w1 _ 7 _ _ _ rblk]; rfl
  have c8 : w1.cell? ⟨w.heap.size, 8, none⟩ = some (.string rwr) := by rw [cell_of_row w1 _ 8 _ _ _ rblk]; rfl
  have c9 : w1.cell? ⟨w.heap.size, 9, none⟩ = some (.bool rdm) := by rw [cell_of_row w1 _ 9 _ _ _ rblk]; rfl
  have c10 : w1.cell? ⟨w.heap.size, 10, none⟩ = some (.bool rpt) := by rw [cell_of_row w1 _ 10 _ _ _ rblk]; rfl
  have d0 : w1.cell? ⟨(w.heap.size + 1), 0, none⟩ = some (.string nad) := by rw [cell_of_row w1 _ 0 _ _ _ nblk]; rfl
  have d1 : w1.cell? ⟨(w.heap.size + 1), 1, none⟩ = some (.bool nre) := by rw [cell_of_row w1 _ 1 _ _ _ nblk]; rfl
  have d2 : w1.cell? ⟨(w.heap.size + 1), 2, none⟩ = some (.bool nhe) := by rw [cell_of_row w1 _ 2 _ _ _ nblk]; rfl
  have d3 : w1.cell? ⟨(w.heap.size + 1), 3, none⟩ = some (.int .i64 nsz) := by rw [cell_of_row w1 _ 3 _ _ _ nblk]; rfl
  have d4 : w1.cell? ⟨(w.heap.size + 1), 4, none⟩ = some (.string nsha) := by rw [cell_of_row w1 _ 4 _ _ _ nblk]; rfl
  have d5 : w1.cell? ⟨(w.heap.size + 1), 5, none⟩ = some (.string nmd) := by rw [cell_of_row w1 _ 5 _ _ _ nblk]; rfl
  have d6 : w1.cell? ⟨(w.heap.size + 1), 6, none⟩ = some (.int .i64 nrp) := by rw [cell_of_row w1 _ 6 _ _ _ nblk]; rfl
  have d7 : w1.cell? ⟨(w.heap.size + 1), 7, none⟩ = some (.slice na nn nc) := by rw [cell_of_row w1 _ 7 _ _ _ nblk]; rfl
  have d8 : w1.cell? ⟨(w.heap.size + 1), 8, none⟩ = some (.int .i64 nver) := by rw [cell_of_row w1 _ 8 _ _ _ nblk]; rfl
  have d9 : w1.cell? ⟨(w.heap.size + 1), 9, none⟩ = some (.int .i64 nep) := by rw [cell_of_row w1 _ 9 _ _ _ nblk]; rfl
  have d10 : w1.cell? ⟨(w.heap.size + 1), 10, none⟩ = some (.int .i64 nrm) := by rw [cell_of_row w1 _ 10 _ _ _ nblk]; rfl
  have d11 : w1.cell? ⟨(w.heap.size + 1), 11, none⟩ = some (.string nwr) := by rw [cell_of_row w1 _ 11 _ _ _ nblk]; rfl
  have d12 : w1.cell? ⟨(w.heap.size + 1), 12, none⟩ = some (.bool ndm) := by rw [cell_of_row w1 _ 12 _ _ _ nblk]; rfl
  have d13 : w1.cell? ⟨(w.heap.size + 1), 13, none⟩ = some (.bool npt) := by rw [cell_of_row w1 _ 13 _ _ _ nblk]; rfl
  have d14 : w1.cell? ⟨(w.heap.size + 1), 14, none⟩ = some (.int .i64 nfr) := by rw [cell_of_row w1 _ 14 _ _ _ nblk]; rfl
  cases ip
  all_goals
    go_wp2_with fail
    refine (member12 _ P addr w1 hP1 (by omega)).mono ?_
    rintro e w' ⟨rfl, hw⟩
    subst w'
    rw [HIP.out]
    have hzz : w.heap.size + 1 < w1.heap.size := lt_of_block nblk
    have hn1 : ¬ w.heap.size + 1 = w1.heap.size := by omega
    have hzz2 : w.heap.size < w1.heap.size := by omega
    have hzz3 : w.heap.size + 1 < w1.heap.size + 1 := by omega
    have hn3 : ¬ w1.heap.size = w.heap.size + 1 := by omega
    have hn4 : ¬ w1.heap.size = w.heap.size := by omega
    have hn2 : ¬ w.heap.size = w1.heap.size := by omega
    go_wp2_with fail
    refine (mkRec36 _ _ _ _ _ _ _ _ _ _ _ _ _ _).mono ?_
    rintro e w' ⟨rfl, hw⟩
    subst w'
    go_wp2_with fail
    refine (mkAns37 _ _ _ _ _ _ _ _ _ _ _ _ _ _ _ _ _ _).mono ?_
    rintro e w3 ⟨rfl, hb3⟩
    have hM3 := MapIs.below (MapIs.below hM ((Below.refl _ w1).alloc (Nat.le_refl _) _) hM.lt |>.below (((Below.refl _ _).alloc (Nat.le_refl _) _)) (Nat.lt_of_lt_of_le hM.lt (by simp))) hb3 (Nat.lt_of_lt_of_le hM.lt (by simp; omega))
    have l3 : Below w.heap.size w w3 := ((l1.alloc l1.size _).alloc (Nat.le_trans l1.size (by simp)) _).trans (hb3.mono (Nat.le_trans l1.size (by simp; omega)))
  · obtain ⟨w4, hst, hM4, hg4⟩ := hM3.store (by unfold maxLen; omega) had (Ans.mk nad nre true nfr nsz nrp rver rep nrm nsha nmd nwr ha H.length hc false false).val
    have l4 : Below w.heap.size w w4 := l3.grown hg4 l3.size (fun q hq => by cases hq; exact hm')
    simp only [Ans.val, flip] at hst
    clear hb3
    go_wp2
    go_ret
    exact ⟨m, (Ans.mk nad nre true nfr nsz nrp rver rep nrm nsha nmd nwr ha H.length hc false false), rfl, hM4, ⟨rfl, rfl, rfl, rfl, rfl⟩, hH.below l4 (Nat.le_refl _), l4⟩
  · obtain ⟨w4, hst, hM4, hg4⟩ := hM3.store (by unfold maxLen; omega) had (Ans.mk nad nre true nfr nsz nrp rver rep nrm nsha nmd nwr ha H.length hc ndm true).val
    have l4 : Below w.heap.size w w4 := l3.grown hg4 l3.size (fun q hq => by cases hq; exact hm')
    simp only [Ans.val, flip] at hst
    clear hb3
    go_wp2
    go_ret
    exact ⟨m, (Ans.mk nad nre true nfr nsz nrp rver rep nrm nsha nmd nwr ha H.length hc ndm true), rfl, hM4, ⟨rfl, rfl, rfl, rfl, rfl⟩, hH.below l4 (Nat.le_refl _), l4⟩

set_option maxRecDepth 100000 in
set_option maxHeartbeats 4000000 in
theorem fault32_2 (rsz rrp rver rep rrm : Int) (rsha rmd rwr : ByteArray) (ra : Option Addr) (rn rc : Nat) (rdm rpt : Bool) (nad : ByteArray) (nre nhe : Bool) (nfr : Int) (nsz nrp nver nep nrm : Int) (nsha nmd nwr : ByteArray) (na : Option Addr) (nn nc : Nat) (ndm npt : Bool) (hv pv kv : Value) (addr : ByteArray) (H P K : List ByteArray) (w : World) (hH : SL w hv H) (hP : SL w pv P) (hK : SL w kv K) (hHl : H.length ≤ 1000) (hPl : P.length ≤ 1000) (hKl : K.length ≤ 2000) (hS : ∀ s ∈ K, s.size ≤ maxLen) (had : addr.size ≤ maxLen)
    (ha : Option Addr) (hc : Nat) (hhv : hv = .slice ha H.length hc) (ip : Bool) (hip : mem P addr = ip) :
    Calls Try.prog 32 #[.agg #[.int .i64 rsz, .string rsha, .string rmd, .int .i64 rrp, .slice ra rn rc, .int .i64 rver, .int .i64 rep, .int .i64 rrm, .string rwr, .bool rdm, .bool rpt], hv, pv, kv, .string addr, .int .i64 2, .agg #[.string nad, .bool nre, .bool nhe, .int .i64 nsz, .string nsha, .string nmd, .int .i64 nrp, .slice na nn nc, .int .i64 nver, .int .i64 nep, .int .i64 nrm, .string nwr, .bool ndm, .bool npt, .int .i64 nfr]] w fun e w' => ∃ (m : Nat) (x : Ans), e = .returned (.map (some m)) ∧
      MapIs w' m (K.length + 1) (upd (fun s => (idealF rver rep ha H.length hc P K s).map Ans.val) addr (some x.val)) ∧ (x.he = false ∧ x.pt = ip ∧ x.ver = rver ∧ x.ep = rep ∧ x.dm = (ip && ndm)) ∧ SL w' x.hv H ∧ Below w.heap.size w w' := by
  subst hhv
  obtain ⟨pa, pc, rfl⟩ := hP.slice
  obtain ⟨ka, kc, rfl⟩ := hK.slice
  have HIP : Hid (mem P addr = ip) := hip
  clear hip
  go_enter Try.func32, Try.ntmps32
  go_wp2_with fail
  have hB0 : Below w.heap.size w ((w.alloc (.cells #[.int .i64 rsz, .string rsha, .string rmd, .int .i64 rrp, .slice ra rn rc, .int .i64 rver, .int .i64 rep, .int .i64 rrm, .string rwr, .bool rdm, .bool rpt] 34)).alloc (.cells #[.string nad, .bool nre, .bool nhe, .int .i64 nsz, .string nsha, .string nmd, .int .i64 nrp, .slice na nn nc, .int .i64 nver, .int .i64 nep, .int .i64 nrm, .string nwr, .bool ndm, .bool npt, .int .i64 nfr] 53)) := ((Below.refl _ _).alloc (Nat.le_refl _) _).alloc (by simp) _
  refine (ideal30 _ _ _ _ _ _ _ _ _ _ _ _ _ _ _ _ H P K _ (hH.below hB0 (Nat.le_refl _)) (hP.below hB0 (Nat.le_refl _)) (hK.below hB0 (Nat.le_refl _)) (by omega) (by omega) hS ha hc rfl).mono ?_
  rintro e w1 ⟨m, hm, rfl, hM, hb1⟩
  have rblk : w1.heap[w.heap.size]? = some (.cells #[.int .i64 rsz, .string rsha, .string rmd, .int .i64 rrp, .slice ra rn rc, .int .i64 rver, .int .i64 rep, .int .i64 rrm, .string rwr, .bool rdm, .bool rpt] 34 (0, 0)) := by
    rw [hb1.block _ (by simp; omega), Below.heap_alloc _ _ _ (by simp)]
    exact heap_alloc_new w _
  have nblk : w1.heap[w.heap.size + 1]? = some (.cells #[.string nad, .bool nre, .bool nhe, .int .i64 nsz, .string nsha, .string nmd, .int .i64 nrp, .slice na nn nc, .int .i64 nver, .int .i64 nep, .int .i64 nrm, .string nwr, .bool ndm, .bool npt, .int .i64 nfr] 53 (0, 0)) := by
    rw [hb1.block _ (by simp)]
    have := heap_alloc_new (w.alloc (.cells #[.int .i64 rsz, .string rsha, .string rmd, .int .i64 rrp, .slice ra rn rc, .int .i64 rver, .int .i64 rep, .int .i64 rrm, .string rwr, .bool rdm, .bool rpt] 34)) (.cells #[.string nad, .bool nre, .bool nhe, .int .i64 nsz, .string nsha, .string nmd, .int .i64 nrp, .slice na nn nc, .int .i64 nver, .int .i64 nep, .int .i64 nrm, .string nwr, .bool ndm, .bool npt, .int .i64 nfr] 53)
    simpa using this
  have l1 : Below w.heap.size w w1 := hB0.trans (hb1.mono hB0.size)
  have hH1 := hH.below l1 (Nat.le_refl _)
  have hP1 := hP.below l1 (Nat.le_refl _)
  have hm' : w.heap.size ≤ m := by simp at hm; omega
  clear hB0 hb1 hP hK hS
  have c0 : w1.cell? ⟨w.heap.size, 0, none⟩ = some (.int .i64 rsz) := by rw [cell_of_row w1 _ 0 _ _ _ rblk]; rfl
  have c1 : w1.cell? ⟨w.heap.size, 1, none⟩ = some (.string rsha) := by rw [cell_of_row w1 _ 1 _ _ _ rblk]; rfl
  have c2 : w1.cell? ⟨w.heap.size, 2, none⟩ = some (.string rmd) := by rw [cell_of_row w1 _ 2 _ _ _ rblk]; rfl
  have c3 : w1.cell? ⟨w.heap.size, 3, none⟩ = some (.int .i64 rrp) := by rw [cell_of_row w1 _ 3 _ _ _ rblk]; rfl
  have c4 : w1.cell? ⟨w.heap.size, 4, none⟩ = some (.slice ra rn rc) := by rw [cell_of_row w1 _ 4 _ _ _ rblk]; rfl
  have c5 : w1.cell? ⟨w.heap.size, 5, none⟩ = some (.int .i64 rver) := by rw [cell_of_row w1 _ 5 _ _ _ rblk]; rfl
  have c6 : w1.cell? ⟨w.heap.size, 6, none⟩ = some (.int .i64 rep) := by rw [cell_of_row w1 _ 6 _ _ _ rblk]; rfl
  have c7 : w1.cell? ⟨w.heap.size, 7, none⟩ = some (.int .i64 rrm) := by rw [cell_of_row w1 _ 7 _ _ _ rblk]; rfl
  have c8 : w1.cell? ⟨w.heap.size, 8, none⟩ = some (.string rwr) := by rw [cell_of_row w1 _ 8 _ _ _ rblk]; rfl
  have c9 : w1.cell? ⟨w.heap.size, 9, none⟩ = some (.bool rdm) := by rw [cell_of_row w1 _ 9 _ _ _ rblk]; rfl
  have c10 : w1.cell? ⟨w.heap.size, 10, none⟩ = some (.bool rpt) := by rw [cell_of_row w1 _ 10 _ _ _ rblk]; rfl
  have d0 : w1.cell? ⟨(w.heap.size + 1), 0, none⟩ = some (.string nad) := by rw [cell_of_row w1 _ 0 _ _ _ nblk]; rfl
  have d1 : w1.cell? ⟨(w.heap.size + 1), 1, none⟩ = some (.bool nre) := by rw [cell_of_row w1 _ 1 _ _ _ nblk]; rfl
  have d2 : w1.cell? ⟨(w.heap.size + 1), 2, none⟩ = some (.bool nhe) := by rw [cell_of_row w1 _ 2 _ _ _ nblk]; rfl
  have d3 : w1.cell? ⟨(w.heap.size + 1), 3, none⟩ = some (.int .i64 nsz) := by rw [cell_of_row w1 _ 3 _ _ _ nblk]; rfl
  have d4 : w1.cell? ⟨(w.heap.size + 1), 4, none⟩ = some (.string nsha) := by rw [cell_of_row w1 _ 4 _ _ _ nblk]; rfl
  have d5 : w1.cell? ⟨(w.heap.size + 1), 5, none⟩ = some (.string nmd) := by rw [cell_of_row w1 _ 5 _ _ _ nblk]; rfl
  have d6 : w1.cell? ⟨(w.heap.size + 1), 6, none⟩ = some (.int .i64 nrp) := by rw [cell_of_row w1 _ 6 _ _ _ nblk]; rfl
  have d7 : w1.cell? ⟨(w.heap.size + 1), 7, none⟩ = some (.slice na nn nc) := by rw [cell_of_row w1 _ 7 _ _ _ nblk]; rfl
  have d8 : w1.cell? ⟨(w.heap.size + 1), 8, none⟩ = some (.int .i64 nver) := by rw [cell_of_row w1 _ 8 _ _ _ nblk]; rfl
  have d9 : w1.cell? ⟨(w.heap.size + 1), 9, none⟩ = some (.int .i64 nep) := by rw [cell_of_row w1 _ 9 _ _ _ nblk]; rfl
  have d10 : w1.cell? ⟨(w.heap.size + 1), 10, none⟩ = some (.int .i64 nrm) := by rw [cell_of_row w1 _ 10 _ _ _ nblk]; rfl
  have d11 : w1.cell? ⟨(w.heap.size + 1), 11, none⟩ = some (.string nwr) := by rw [cell_of_row w1 _ 11 _ _ _ nblk]; rfl
  have d12 : w1.cell? ⟨(w.heap.size + 1), 12, none⟩ = some (.bool ndm) := by rw [cell_of_row w1 _ 12 _ _ _ nblk]; rfl
  have d13 : w1.cell? ⟨(w.heap.size + 1), 13, none⟩ = some (.bool npt) := by rw [cell_of_row w1 _ 13 _ _ _ nblk]; rfl
  have d14 : w1.cell? ⟨(w.heap.size + 1), 14, none⟩ = some (.int .i64 nfr) := by rw [cell_of_row w1 _ 14 _ _ _ nblk]; rfl
  cases ip
  all_goals
    go_wp2_with fail
    refine (member12 _ P addr w1 hP1 (by omega)).mono ?_
    rintro e w' ⟨rfl, hw⟩
    subst w'
    rw [HIP.out]
    have hzz : w.heap.size + 1 < w1.heap.size := lt_of_block nblk
    have hn1 : ¬ w.heap.size + 1 = w1.heap.size := by omega
    have hzz2 : w.heap.size < w1.heap.size := by omega
    have hzz3 : w.heap.size + 1 < w1.heap.size + 1 := by omega
    have hn3 : ¬ w1.heap.size = w.heap.size + 1 := by omega
    have hn4 : ¬ w1.heap.size = w.heap.size := by omega
    have hn2 : ¬ w.heap.size = w1.heap.size := by omega
    go_wp2_with fail
    refine (mkRec36 _ _ _ _ _ _ _ _ _ _ _ _ _ _).mono ?_
    rintro e w' ⟨rfl, hw⟩
    subst w'
    go_wp2_with fail
    refine (mkAns37 _ _ _ _ _ _ _ _ _ _ _ _ _ _ _ _ _ _).mono ?_
    rintro e w3 ⟨rfl, hb3⟩
    have hM3 := MapIs.below (MapIs.below hM ((Below.refl _ w1).alloc (Nat.le_refl _) _) hM.lt |>.below (((Below.refl _ _).alloc (Nat.le_refl _) _)) (Nat.lt_of_lt_of_le hM.lt (by simp))) hb3 (Nat.lt_of_lt_of_le hM.lt (by simp; omega))
    have l3 : Below w.heap.size w w3 := ((l1.alloc l1.size _).alloc (Nat.le_trans l1.size (by simp)) _).trans (hb3.mono (Nat.le_trans l1.size (by simp; omega)))
  · obtain ⟨w4, hst, hM4, hg4⟩ := hM3.store (by unfold maxLen; omega) had (Ans.mk nad nre false nfr nsz nrp rver rep nrm nsha nmd nwr ha H.length hc false false).val
    have l4 : Below w.heap.size w w4 := l3.grown hg4 l3.size (fun q hq => by cases hq; exact hm')
    simp only [Ans.val, flip] at hst
    clear hb3
    go_wp2
    go_ret
    exact ⟨m, (Ans.mk nad nre false nfr nsz nrp rver rep nrm nsha nmd nwr ha H.length hc false false), rfl, hM4, ⟨rfl, rfl, rfl, rfl, rfl⟩, hH.below l4 (Nat.le_refl _), l4⟩
  · obtain ⟨w4, hst, hM4, hg4⟩ := hM3.store (by unfold maxLen; omega) had (Ans.mk nad nre false nfr nsz nrp rver rep nrm nsha nmd nwr ha H.length hc ndm true).val
    have l4 : Below w.heap.size w w4 := l3.grown hg4 l3.size (fun q hq => by cases hq; exact hm')
    simp only [Ans.val, flip] at hst
    clear hb3
    go_wp2
    go_ret
    exact ⟨m, (Ans.mk nad nre false nfr nsz nrp rver rep nrm nsha nmd nwr ha H.length hc ndm true), rfl, hM4, ⟨rfl, rfl, rfl, rfl, rfl⟩, hH.below l4 (Nat.le_refl _), l4⟩

set_option maxRecDepth 100000 in
set_option maxHeartbeats 4000000 in
theorem fault32_3 (rsz rrp rver rep rrm : Int) (rsha rmd rwr : ByteArray) (ra : Option Addr) (rn rc : Nat) (rdm rpt : Bool) (nad : ByteArray) (nre nhe : Bool) (nfr : Int) (nsz nrp nver nep nrm : Int) (nsha nmd nwr : ByteArray) (na : Option Addr) (nn nc : Nat) (ndm npt : Bool) (hv pv kv : Value) (addr : ByteArray) (H P K : List ByteArray) (w : World) (hH : SL w hv H) (hP : SL w pv P) (hK : SL w kv K) (hHl : H.length ≤ 1000) (hPl : P.length ≤ 1000) (hKl : K.length ≤ 2000) (hS : ∀ s ∈ K, s.size ≤ maxLen) (had : addr.size ≤ maxLen)
    (ha : Option Addr) (hc : Nat) (hhv : hv = .slice ha H.length hc) (ip : Bool) (hip : mem P addr = ip) :
    Calls Try.prog 32 #[.agg #[.int .i64 rsz, .string rsha, .string rmd, .int .i64 rrp, .slice ra rn rc, .int .i64 rver, .int .i64 rep, .int .i64 rrm, .string rwr, .bool rdm, .bool rpt], hv, pv, kv, .string addr, .int .i64 3, .agg #[.string nad, .bool nre, .bool nhe, .int .i64 nsz, .string nsha, .string nmd, .int .i64 nrp, .slice na nn nc, .int .i64 nver, .int .i64 nep, .int .i64 nrm, .string nwr, .bool ndm, .bool npt, .int .i64 nfr]] w fun e w' => ∃ (m : Nat) (x : Ans), e = .returned (.map (some m)) ∧
      MapIs w' m (K.length + 1) (upd (fun s => (idealF rver rep ha H.length hc P K s).map Ans.val) addr (some x.val)) ∧ (x.he = true ∧ x.pt = (!ip) ∧ x.ver = rver ∧ x.ep = rep ∧ x.dm = (ip && ndm)) ∧ SL w' x.hv H ∧ Below w.heap.size w w' := by
  subst hhv
  obtain ⟨pa, pc, rfl⟩ := hP.slice
  obtain ⟨ka, kc, rfl⟩ := hK.slice
  have HIP : Hid (mem P addr = ip) := hip
  clear hip
  go_enter Try.func32, Try.ntmps32
  go_wp2_with fail
  have hB0 : Below w.heap.size w ((w.alloc (.cells #[.int .i64 rsz, .string rsha, .string rmd, .int .i64 rrp, .slice ra rn rc, .int .i64 rver, .int .i64 rep, .int .i64 rrm, .string rwr, .bool rdm, .bool rpt] 34)).alloc (.cells #[.string nad, .bool nre, .bool nhe, .int .i64 nsz, .string nsha, .string nmd, .int .i64 nrp, .slice na nn nc, .int .i64 nver, .int .i64 nep, .int .i64 nrm, .string nwr, .bool ndm, .bool npt, .int .i64 nfr] 53)) := ((Below.refl _ _).alloc (Nat.le_refl _) _).alloc (by simp) _
  refine (ideal30 _ _ _ _ _ _ _ _ _ _ _ _ _ _ _ _ H P K _ (hH.below hB0 (Nat.le_refl _)) (hP.below hB0 (Nat.le_refl _)) (hK.below hB0 (Nat.le_refl _)) (by omega) (by omega) hS ha hc rfl).mono ?_
  rintro e w1 ⟨m, hm, rfl, hM, hb1⟩
  have rblk : w1.heap[w.heap.size]? = some (.cells #[.int .i64 rsz, .string rsha, .string rmd, .int .i64 rrp, .slice ra rn rc, .int .i64 rver, .int .i64 rep, .int .i64 rrm, .string rwr, .bool rdm, .bool rpt] 34 (0, 0)) := by
    rw [hb1.block _ (by simp; omega), Below.heap_alloc _ _ _ (by simp)]
    exact heap_alloc_new w _
  have nblk : w1.heap[w.heap.size + 1]? = some (.cells #[.string nad, .bool nre, .bool nhe, .int .i64 nsz, .string nsha, .string nmd, .int .i64 nrp, .slice na nn nc, .int .i64 nver, .int .i64 nep, .int .i64 nrm, .string nwr, .bool ndm, .bool npt, .int .i64 nfr] 53 (0, 0)) := by
    rw [hb1.block _ (by simp)]
    have := heap_alloc_new (w.alloc (.cells #[.int .i64 rsz, .string rsha, .string rmd, .int .i64 rrp, .slice ra rn rc, .int .i64 rver, .int .i64 rep, .int .i64 rrm, .string rwr, .bool rdm, .bool rpt] 34)) (.cells #[.string nad, .bool nre, .bool nhe, .int .i64 nsz, .string nsha, .string nmd, .int .i64 nrp, .slice na nn nc, .int .i64 nver, .int .i64 nep, .int .i64 nrm, .string nwr, .bool ndm, .bool npt, .int .i64 nfr] 53)
    simpa using this
  have l1 : Below w.heap.size w w1 := hB0.trans (hb1.mono hB0.size)
  have hH1 := hH.below l1 (Nat.le_refl _)
  have hP1 := hP.below l1 (Nat.le_refl _)
  have hm' : w.heap.size ≤ m := by simp at hm; omega
  clear hB0 hb1 hP hK hS
  have c0 : w1.cell? ⟨w.heap.size, 0, none⟩ = some (.int .i64 rsz) := by rw [cell_of_row w1 _ 0 _ _ _ rblk]; rfl
  have c1 : w1.cell? ⟨w.heap.size, 1, none⟩ = some (.string rsha) := by rw [cell_of_row w1 _ 1 _ _ _ rblk]; rfl
  have c2 : w1.cell? ⟨w.heap.size, 2, none⟩ = some (.string rmd) := by rw [cell_of_row w1 _ 2 _ _ _ rblk]; rfl
  have c3 : w1.cell? ⟨w.heap.size, 3, none⟩ = some (.int .i64 rrp) := by rw [cell_of_row w1 _ 3 _ _ _ rblk]; rfl
  have c4 : w1.cell? ⟨w.heap.size, 4, none⟩ = some (.slice ra rn rc) := by rw [cell_of_row w1 _ 4 _ _ _ rblk]; rfl
  have c5 : w1.cell? ⟨w.heap.size, 5, none⟩ = some (.int .i64 rver) := by rw [cell_of_row w1 _ 5 _ _ _ rblk]; rfl
  have c6 : w1.cell? ⟨w.heap.size, 6, none⟩ = some (.int .i64 rep) := by rw [cell_of_row w1 _ 6 _ _ _ rblk]; rfl
  have c7 : w1.cell? ⟨w.heap.size, 7, none⟩ = some (.int .i64 rrm) := by rw [cell_of_row w1 _ 7 _ _ _ rblk]; rfl
  have c8 : w1.cell? ⟨w.heap.size, 8, none⟩ = some (.string rwr) := by rw [cell_of_row w1 _ 8 _ _ _ rblk]; rfl
  have c9 : w1.cell? ⟨w.heap.size, 9, none⟩ = some (.bool rdm) := by rw [cell_of_row w1 _ 9 _ _ _ rblk]; rfl
  have c10 : w1.cell? ⟨w.heap.size, 10, none⟩ = some (.bool rpt) := by rw [cell_of_row w1 _ 10 _ _ _ rblk]; rfl
  have d0 : w1.cell? ⟨(w.heap.size + 1), 0, none⟩ = some (.string nad) := by rw [cell_of_row w1 _ 0 _ _ _ nblk]; rfl
  have d1 : w1.cell? ⟨(w.heap.size + 1), 1, none⟩ = some (.bool nre) := by rw [cell_of_row w1 _ 1 _ _ _ nblk]; rfl
  have d2 : w1.cell? ⟨(w.heap.size + 1), 2, none⟩ = some (.bool nhe) := by rw [cell_of_row w1 _ 2 _ _ _ nblk]; rfl
  have d3 : w1.cell? ⟨(w.heap.size + 1), 3, none⟩ = some (.int .i64 nsz) := by rw [cell_of_row w1 _ 3 _ _ _ nblk]; rfl
  have d4 : w1.cell? ⟨(w.heap.size + 1), 4, none⟩ = some (.string nsha) := by rw [cell_of_row w1 _ 4 _ _ _ nblk]; rfl
  have d5 : w1.cell? ⟨(w.heap.size + 1), 5, none⟩ = some (.string nmd) := by rw [cell_of_row w1 _ 5 _ _ _ nblk]; rfl
  have d6 : w1.cell? ⟨(w.heap.size + 1), 6, none⟩ = some (.int .i64 nrp) := by rw [cell_of_row w1 _ 6 _ _ _ nblk]; rfl
  have d7 : w1.cell? ⟨(w.heap.size + 1), 7, none⟩ = some (.slice na nn nc) := by rw [cell_of_row w1 _ 7 _ _ _ nblk]; rfl
  have d8 : w1.cell? ⟨(w.heap.size + 1), 8, none⟩ = some (.int .i64 nver) := by rw [cell_of_row w1 _ 8 _ _ _ nblk]; rfl
  have d9 : w1.cell? ⟨(w.heap.size + 1), 9, none⟩ = some (.int .i64 nep) := by rw [cell_of_row w1 _ 9 _ _ _ nblk]; rfl
  have d10 : w1.cell? ⟨(w.heap.size + 1), 10, none⟩ = some (.int .i64 nrm) := by rw [cell_of_row w1 _ 10 _ _ _ nblk]; rfl
  have d11 : w1.cell? ⟨(w.heap.size + 1), 11, none⟩ = some (.string nwr) := by rw [cell_of_row w1 _ 11 _ _ _ nblk]; rfl
  have d12 : w1.cell? ⟨(w.heap.size + 1), 12, none⟩ = some (.bool ndm) := by rw [cell_of_row w1 _ 12 _ _ _ nblk]; rfl
  have d13 : w1.cell? ⟨(w.heap.size + 1), 13, none⟩ = some (.bool npt) := by rw [cell_of_row w1 _ 13 _ _ _ nblk]; rfl
  have d14 : w1.cell? ⟨(w.heap.size + 1), 14, none⟩ = some (.int .i64 nfr) := by rw [cell_of_row w1 _ 14 _ _ _ nblk]; rfl
  cases ip
  all_goals
    go_wp2_with fail
    refine (member12 _ P addr w1 hP1 (by omega)).mono ?_
    rintro e w' ⟨rfl, hw⟩
    subst w'
    rw [HIP.out]
    have hzz : w.heap.size + 1 < w1.heap.size := lt_of_block nblk
    have hn1 : ¬ w.heap.size + 1 = w1.heap.size := by omega
    have hzz2 : w.heap.size < w1.heap.size := by omega
    have hzz3 : w.heap.size + 1 < w1.heap.size + 1 := by omega
    have hn3 : ¬ w1.heap.size = w.heap.size + 1 := by omega
    have hn4 : ¬ w1.heap.size = w.heap.size := by omega
    have hn2 : ¬ w.heap.size = w1.heap.size := by omega
    go_wp2_with fail
    refine (mkRec36 _ _ _ _ _ _ _ _ _ _ _ _ _ _).mono ?_
    rintro e w' ⟨rfl, hw⟩
    subst w'
    go_wp2_with fail
    refine (mkAns37 _ _ _ _ _ _ _ _ _ _ _ _ _ _ _ _ _ _).mono ?_
    rintro e w3 ⟨rfl, hb3⟩
    have hM3 := MapIs.below (MapIs.below hM ((Below.refl _ w1).alloc (Nat.le_refl _) _) hM.lt |>.below (((Below.refl _ _).alloc (Nat.le_refl _) _)) (Nat.lt_of_lt_of_le hM.lt (by simp))) hb3 (Nat.lt_of_lt_of_le hM.lt (by simp; omega))
    have l3 : Below w.heap.size w w3 := ((l1.alloc l1.size _).alloc (Nat.le_trans l1.size (by simp)) _).trans (hb3.mono (Nat.le_trans l1.size (by simp; omega)))
  · obtain ⟨w4, hst, hM4, hg4⟩ := hM3.store (by unfold maxLen; omega) had (Ans.mk nad nre true nfr nsz nrp rver rep nrm nsha nmd nwr ha H.length hc false true).val
    have l4 : Below w.heap.size w w4 := l3.grown hg4 l3.size (fun q hq => by cases hq; exact hm')
    simp only [Ans.val, flip] at hst
    clear hb3
    go_wp2
    go_ret
    exact ⟨m, (Ans.mk nad nre true nfr nsz nrp rver rep nrm nsha nmd nwr ha H.length hc false true), rfl, hM4, ⟨rfl, rfl, rfl, rfl, rfl⟩, hH.below l4 (Nat.le_refl _), l4⟩
  · obtain ⟨w4, hst, hM4, hg4⟩ := hM3.store (by unfold maxLen; omega) had (Ans.mk nad nre true nfr nsz nrp rver rep nrm nsha nmd nwr ha H.length hc ndm false).val
    have l4 : Below w.heap.size w w4 := l3.grown hg4 l3.size (fun q hq => by cases hq; exact hm')
    simp only [Ans.val, flip] at hst
    clear hb3
    go_wp2
    go_ret
    exact ⟨m, (Ans.mk nad nre true nfr nsz nrp rver rep nrm nsha nmd nwr ha H.length hc ndm false), rfl, hM4, ⟨rfl, rfl, rfl, rfl, rfl⟩, hH.below l4 (Nat.le_refl _), l4⟩

set_option maxRecDepth 100000 in
set_option maxHeartbeats 4000000 in
theorem fault32_4 (rsz rrp rver rep rrm : Int) (rsha rmd rwr : ByteArray) (ra : Option Addr) (rn rc : Nat) (rdm rpt : Bool) (nad : ByteArray) (nre nhe : Bool) (nfr : Int) (nsz nrp nver nep nrm : Int) (nsha nmd nwr : ByteArray) (na : Option Addr) (nn nc : Nat) (ndm npt : Bool) (hv pv kv : Value) (addr : ByteArray) (H P K : List ByteArray) (w : World) (hH : SL w hv H) (hP : SL w pv P) (hK : SL w kv K) (hHl : H.length ≤ 1000) (hPl : P.length ≤ 1000) (hKl : K.length ≤ 2000) (hS : ∀ s ∈ K, s.size ≤ maxLen) (had : addr.size ≤ maxLen)
    (ha : Option Addr) (hc : Nat) (hhv : hv = .slice ha H.length hc) (ip : Bool) (hip : mem P addr = ip) :
    Calls Try.prog 32 #[.agg #[.int .i64 rsz, .string rsha, .string rmd, .int .i64 rrp, .slice ra rn rc, .int .i64 rver, .int .i64 rep, .int .i64 rrm, .string rwr, .bool rdm, .bool rpt], hv, pv, kv, .string addr, .int .i64 4, .agg #[.string nad, .bool nre, .bool nhe, .int .i64 nsz, .string nsha, .string nmd, .int .i64 nrp, .slice na nn nc, .int .i64 nver, .int .i64 nep, .int .i64 nrm, .string nwr, .bool ndm, .bool npt, .int .i64 nfr]] w fun e w' => ∃ (m : Nat) (x : Ans), e = .returned (.map (some m)) ∧
      MapIs w' m (K.length + 1) (upd (fun s => (idealF rver rep ha H.length hc P K s).map Ans.val) addr (some x.val)) ∧ (x.he = true ∧ x.pt = ip ∧ x.ver = (flip rver) ∧ x.ep = rep ∧ x.dm = (ip && ndm)) ∧ SL w' x.hv H ∧ Below w.heap.size w w' := by
  subst hhv
  obtain ⟨pa, pc, rfl⟩ := hP.slice
  obtain ⟨ka, kc, rfl⟩ := hK.slice
  have HIP : Hid (mem P addr = ip) := hip
  clear hip
  go_enter Try.func32, Try.ntmps32
  go_wp2_with fail
  have hB0 : Below w.heap.size w ((w.alloc (.cells #[.int .i64 rsz, .string rsha, .string rmd, .int .i64 rrp, .slice ra rn rc, .int .i64 rver, .int .i64 rep, .int .i64 rrm, .string rwr, .bool rdm, .bool rpt] 34)).alloc (.cells #[.string nad, .bool nre, .bool nhe, .int .i64 nsz, .string nsha, .string nmd, .int .i64 nrp, .slice na nn nc, .int .i64 nver, .int .i64 nep, .int .i64 nrm, .string nwr, .bool ndm, .bool npt, .int .i64 nfr] 53)) := ((Below.refl _ _).alloc (Nat.le_refl _) _).alloc (by simp) _
  refine (ideal30 _ _ _ _ _ _ _ _ _ _ _ _ _ _ _ _ H P K _ (hH.below hB0 (Nat.le_refl _)) (hP.below hB0 (Nat.le_refl _)) (hK.below hB0 (Nat.le_refl _)) (by omega) (by omega) hS ha hc rfl).mono ?_
  rintro e w1 ⟨m, hm, rfl, hM, hb1⟩
  have rblk : w1.heap[w.heap.size]? = some (.cells #[.int .i64 rsz, .string rsha, .string rmd, .int .i64 rrp, .slice ra rn rc, .int .i64 rver, .int .i64 rep, .int .i64 rrm, .string rwr, .bool rdm, .bool rpt] 34 (0, 0)) := by
    rw [hb1.block _ (by simp; omega), Below.heap_alloc _ _ _ (by simp)]
    exact heap_alloc_new w _
  have nblk : w1.heap[w.heap.size + 1]? = some (.cells #[.string nad, .bool nre, .bool nhe, .int .i64 nsz, .string nsha, .string nmd, .int .i64 nrp, .slice na nn nc, .int .i64 nver, .int .i64 nep, .int .i64 nrm, .string nwr, .bool ndm, .bool npt, .int .i64 nfr] 53 (0, 0)) := by
    rw [hb1.block _ (by simp)]
    have := heap_alloc_new (w.alloc (.cells #[.int .i64 rsz, .string rsha, .string rmd, .int .i64 rrp, .slice ra rn rc, .int .i64 rver, .int .i64 rep, .int .i64 rrm, .string rwr, .bool rdm, .bool rpt] 34)) (.cells #[.string nad, .bool nre, .bool nhe, .int .i64 nsz, .string nsha, .string nmd, .int .i64 nrp, .slice na nn nc, .int .i64 nver, .int .i64 nep, .int .i64 nrm, .string nwr, .bool ndm, .bool npt, .int .i64 nfr] 53)
    simpa using this
  have l1 : Below w.heap.size w w1 := hB0.trans (hb1.mono hB0.size)
  have hH1 := hH.below l1 (Nat.le_refl _)
  have hP1 := hP.below l1 (Nat.le_refl _)
  have hm' : w.heap.size ≤ m := by simp at hm; omega
  clear hB0 hb1 hP hK hS
  have c0 : w1.cell? ⟨w.heap.size, 0, none⟩ = some (.int .i64 rsz) := by rw [cell_of_row w1 _ 0 _ _ _ rblk]; rfl
  have c1 : w1.cell? ⟨w.heap.size, 1, none⟩ = some (.string rsha) := by rw [cell_of_row w1 _ 1 _ _ _ rblk]; rfl
  have c2 : w1.cell? ⟨w.heap.size, 2, none⟩ = some (.string rmd) := by rw [cell_of_row w1 _ 2 _ _ _ rblk]; rfl
  have c3 : w1.cell? ⟨w.heap.size, 3, none⟩ = some (.int .i64 rrp) := by rw [cell_of_row w1 _ 3 _ _ _ rblk]; rfl
  have c4 : w1.cell? ⟨w.heap.size, 4, none⟩ = some (.slice ra rn rc) := by rw [cell_of_row w1 _ 4 _ _ _ rblk]; rfl
  have c5 : w1.cell? ⟨w.heap.size, 5, none⟩ = some (.int .i64 rver) := by rw [cell_of_row w1 _ 5 _ _ _ rblk]; rfl
  have c6 : w1.cell? ⟨w.heap.size, 6, none⟩ = some (.int .i64 rep) := by rw [cell_of_row w1 _ 6 _ _ _ rblk]; rfl
  have c7 : w1.cell? ⟨w.heap.size, 7, none⟩ = some (.int .i64 rrm) := by rw [cell_of_row w1 _ 7 _ _ _ rblk]; rfl
  have c8 : w1.cell? ⟨w.heap.size, 8, none⟩ = some (.string rwr) := by rw [cell_of_row w1 _ 8 _ _ _ rblk]; rfl
  have c9 : w1.cell? ⟨w.heap.size, 9, none⟩ = some (.bool rdm) := by rw [cell_of_row w1 _ 9 _ _ _ rblk]; rfl
  have c10 : w1.cell? ⟨w.heap.size, 10, none⟩ = some (.bool rpt) := by rw [cell_of_row w1 _ 10 _ _ _ rblk]; rfl
  have d0 : w1.cell? ⟨(w.heap.size + 1), 0, none⟩ = some (.string nad) := by rw [cell_of_row w1 _ 0 _ _ _ nblk]; rfl
  have d1 : w1.cell? ⟨(w.heap.size + 1), 1, none⟩ = some (.bool nre) := by rw [cell_of_row w1 _ 1 _ _ _ nblk]; rfl
  have d2 : w1.cell? ⟨(w.heap.size + 1), 2, none⟩ = some (.bool nhe) := by rw [cell_of_row w1 _ 2 _ _ _ nblk]; rfl
  have d3 : w1.cell? ⟨(w.heap.size + 1), 3, none⟩ = some (.int .i64 nsz) := by rw [cell_of_row w1 _ 3 _ _ _ nblk]; rfl
  have d4 : w1.cell? ⟨(w.heap.size + 1), 4, none⟩ = some (.string nsha) := by rw [cell_of_row w1 _ 4 _ _ _ nblk]; rfl
  have d5 : w1.cell? ⟨(w.heap.size + 1), 5, none⟩ = some (.string nmd) := by rw [cell_of_row w1 _ 5 _ _ _ nblk]; rfl
  have d6 : w1.cell? ⟨(w.heap.size + 1), 6, none⟩ = some (.int .i64 nrp) := by rw [cell_of_row w1 _ 6 _ _ _ nblk]; rfl
  have d7 : w1.cell? ⟨(w.heap.size + 1), 7, none⟩ = some (.slice na nn nc) := by rw [cell_of_row w1 _ 7 _ _ _ nblk]; rfl
  have d8 : w1.cell? ⟨(w.heap.size + 1), 8, none⟩ = some (.int .i64 nver) := by rw [cell_of_row w1 _ 8 _ _ _ nblk]; rfl
  have d9 : w1.cell? ⟨(w.heap.size + 1), 9, none⟩ = some (.int .i64 nep) := by rw [cell_of_row w1 _ 9 _ _ _ nblk]; rfl
  have d10 : w1.cell? ⟨(w.heap.size + 1), 10, none⟩ = some (.int .i64 nrm) := by rw [cell_of_row w1 _ 10 _ _ _ nblk]; rfl
  have d11 : w1.cell? ⟨(w.heap.size + 1), 11, none⟩ = some (.string nwr) := by rw [cell_of_row w1 _ 11 _ _ _ nblk]; rfl
  have d12 : w1.cell? ⟨(w.heap.size + 1), 12, none⟩ = some (.bool ndm) := by rw [cell_of_row w1 _ 12 _ _ _ nblk]; rfl
  have d13 : w1.cell? ⟨(w.heap.size + 1), 13, none⟩ = some (.bool npt) := by rw [cell_of_row w1 _ 13 _ _ _ nblk]; rfl
  have d14 : w1.cell? ⟨(w.heap.size + 1), 14, none⟩ = some (.int .i64 nfr) := by rw [cell_of_row w1 _ 14 _ _ _ nblk]; rfl
  cases ip
  all_goals
    go_wp2_with fail
    refine (member12 _ P addr w1 hP1 (by omega)).mono ?_
    rintro e w' ⟨rfl, hw⟩
    subst w'
    rw [HIP.out]
    have hzz : w.heap.size + 1 < w1.heap.size := lt_of_block nblk
    have hn1 : ¬ w.heap.size + 1 = w1.heap.size := by omega
    have hzz2 : w.heap.size < w1.heap.size := by omega
    have hzz3 : w.heap.size + 1 < w1.heap.size + 1 := by omega
    have hn3 : ¬ w1.heap.size = w.heap.size + 1 := by omega
    have hn4 : ¬ w1.heap.size = w.heap.size := by omega
    have hn2 : ¬ w.heap.size = w1.heap.size := by omega
    go_wp2_with fail
    refine (mkRec36 _ _ _ _ _ _ _ _ _ _ _ _ _ _).mono ?_
    rintro e w' ⟨rfl, hw⟩
    subst w'
    go_wp2_with fail
    refine (mkAns37 _ _ _ _ _ _ _ _ _ _ _ _ _ _ _ _ _ _).mono ?_
    rintro e w3 ⟨rfl, hb3⟩
    have hM3 := MapIs.below (MapIs.below hM ((Below.refl _ w1).alloc (Nat.le_refl _) _) hM.lt |>.below (((Below.refl _ _).alloc (Nat.le_refl _) _)) (Nat.lt_of_lt_of_le hM.lt (by simp))) hb3 (Nat.lt_of_lt_of_le hM.lt (by simp; omega))
    have l3 : Below w.heap.size w w3 := ((l1.alloc l1.size _).alloc (Nat.le_trans l1.size (by simp)) _).trans (hb3.mono (Nat.le_trans l1.size (by simp; omega)))
  · obtain ⟨w4, hst, hM4, hg4⟩ := hM3.store (by unfold maxLen; omega) had (Ans.mk nad nre true nfr nsz nrp (flip rver) rep nrm nsha nmd nwr ha H.length hc false false).val
    have l4 : Below w.heap.size w w4 := l3.grown hg4 l3.size (fun q hq => by cases hq; exact hm')
    simp only [Ans.val, flip] at hst
    clear hb3
    go_wp2
    go_ret
    exact ⟨m, (Ans.mk nad nre true nfr nsz nrp (flip rver) rep nrm nsha nmd nwr ha H.length hc false false), rfl, hM4, ⟨rfl, rfl, rfl, rfl, rfl⟩, hH.below l4 (Nat.le_refl _), l4⟩
  · obtain ⟨w4, hst, hM4, hg4⟩ := hM3.store (by unfold maxLen; omega) had (Ans.mk nad nre true nfr nsz nrp (flip rver) rep nrm nsha nmd nwr ha H.length hc ndm true).val
    have l4 : Below w.heap.size w w4 := l3.grown hg4 l3.size (fun q hq => by cases hq; exact hm')
    simp only [Ans.val, flip] at hst
    clear hb3
    go_wp2
    go_ret
    exact ⟨m, (Ans.mk nad nre true nfr nsz nrp (flip rver) rep nrm nsha nmd nwr ha H.length hc ndm true), rfl, hM4, ⟨rfl, rfl, rfl, rfl, rfl⟩, hH.below l4 (Nat.le_refl _), l4⟩

end Go.Proofs.Qxb6617077a
