import Derived.Test.Qxb6617077aIdeal
namespace Go.Proofs.Qxb6617077a
open Go.RowKit
set_option linter.unusedVariables false

set_option maxRecDepth 100000 in
set_option maxHeartbeats 4000000 in
theorem fault32_1 (rsz rrp rver rep rrm : Int) (rsha rmd rwr : ByteArray) (ra : Option Addr) (rn rc : Nat) (rdm rpt : Bool) (nad : ByteArray) (nre nhe : Bool) (nfr : Int) (nsz nrp nver nep nrm : Int) (nsha nmd nwr : ByteArray) (na : Option Addr) (nn nc : Nat) (ndm npt : Bool) (hv pv kv : Value) (addr : ByteArray) (H P K : List ByteArray) (w : World) (hH : SL w hv H) (hP : SL w pv P) (hK : SL w kv K) (hHl : H.length ≤ 1000) (hPl : P.length ≤ 1000) (hKl : K.length ≤ 2000) (hS : ∀ s ∈ K, s.size ≤ maxLen) (had : addr.size ≤ maxLen)
    (ha : Option Addr) (hc : Nat) (hhv : hv = .slice ha H.length hc) :
    Calls Try.prog 32 #[.agg #[.int .i64 rsz, .string rsha, .string rmd, .int .i64 rrp, .slice ra rn rc, .int .i64 rver, .int .i64 rep, .int .i64 rrm, .string rwr, .bool rdm, .bool rpt], hv, pv, kv, .string addr, .int .i64 1, .agg #[.string nad, .bool nre, .bool nhe, .int .i64 nsz, .string nsha, .string nmd, .int .i64 nrp, .slice na nn nc, .int .i64 nver, .int .i64 nep, .int .i64 nrm, .string nwr, .bool ndm, .bool npt, .int .i64 nfr]] w fun e w' => ∃ (m : Nat), e = .returned (.map (some m)) ∧
      MapIs w' m K.length (upd (fun s => (idealF rver rep ha H.length hc P K s).map Ans.val) addr none) ∧ Below w.heap.size w w' := by
  subst hhv
  obtain ⟨pa, pc, rfl⟩ := hP.slice
  obtain ⟨ka, kc, rfl⟩ := hK.slice
  go_enter Try.func32, Try.ntmps32
  go_wp2_with fail
  have hB0 : Below w.heap.size w ((w.alloc (.cells #[.int .i64 rsz, .string rsha, .string rmd, .int .i64 rrp, .slice ra rn rc, .int .i64 rver, .int .i64 rep, .int .i64 rrm, .string rwr, .bool rdm, .bool rpt] 34)).alloc (.cells #[.string nad, .bool nre, .bool nhe, .int .i64 nsz, .string nsha, .string nmd, .int .i64 nrp, .slice na nn nc, .int .i64 nver, .int .i64 nep, .int .i64 nrm, .string nwr, .bool ndm, .bool npt, .int .i64 nfr] 53)) := ((Below.refl _ _).alloc (Nat.le_refl _) _).alloc (by simp) _
  refine (ideal30 _ _ _ _ _ _ _ _ _ _ _ _ _ _ _ _ H P K _ (hH.below hB0 (Nat.le_refl _)) (hP.below hB0 (Nat.le_refl _)) (hK.below hB0 (Nat.le_refl _)) (by omega) (by omega) hS ha hc rfl).mono ?_
  rintro e w1 ⟨m, hm, rfl, hM, hb1⟩
  have rblk : w1.heap[w.heap.size]? = some (.cells #[.int .i64 rsz, .string rsha, .string rmd, .int .i64 rrp, .slice ra rn rc, .int .i64 rver, .int .i64 rep, .int .i64 rrm, .string rwr, .bool rdm, .bool rpt] 34 (0, 0)) := by
    rw [hb1.block _ (by simp; omega), Below.heap_alloc _ _ _ (by simp)]
    exact heap_alloc_new w _
  have nblk : w1.heap[w.heap.size + 1]? = some (.cells #[.string nad, .bool nre, .bool nhe, .int .i64 nsz, .string nsha, .string nmd, .int .i64 nrp, .slice na nn nc, .int .i64 nver, .int .i64 nep, .int .i64 nrm, .string nwr, .bool ndm, .bool npt, .int .i64 nfr] 53 (0, 0)) := by
    rw [hb1.block _ (by simp)]
    have := heap_alloc_new (w.alloc (.cells #[.int .i64 rsz, .string rsha, .string rmd, .int .i64 rrp, .slice ra rn rc, .int .i64 rver, .int .i64 rep, .int .i64 rrm, .string rwr, .bool rdm, .bool rpt] 34)) (.cells #[.string nad, .bool nre, .bool nhe, .int .i64 nsz, .string nsha, .string nmd, .int .i64 nrp, .slice na nn nc, .int .i64 nver, .int .i64 nep, .int .i64 nrm, .string nwr, .bool ndm, .bool npt, .int .i64 nfr] 53)
    simpa using this
  have l1 : Below w.heap.size w w1 := hB0.trans (hb1.mono hB0.size)
  have hH1 := hH.below l1 (Nat.le_refl _)
  have hP1 := hP.below l1 (Nat.le_refl _)
  have hm' : w.heap.size ≤ m := by simp at hm; omega
  clear hB0 hb1 hH hP hK hS
  obtain ⟨w4, hdel, hM4, hg4⟩ := hM.drop had
  have l4 : Below w.heap.size w w4 := l1.grown hg4 l1.size (fun q hq => by cases hq; exact hm')
  go_wp2
  go_ret
  exact ⟨m, rfl, hM4, l4⟩

set_option maxRecDepth 100000 in
set_option maxHeartbeats 4000000 in
theorem laid29 (rsz rrp rver rep rrm : Int) (rsha rmd rwr : ByteArray) (ra : Option Addr) (rn rc : Nat) (rdm rpt : Bool) (hv pv : Value) (H P : List ByteArray) (m n : Nat) (f : ByteArray → Option Ans) (L : ByteArray → List ByteArray) (w : World) (hH : SL w hv H) (hP : SL w pv P) (hl : H.length + P.length ≤ 1048576)
    (hM : MapIs w m n (fun s => (f s).map Ans.val)) (hL : ∀ s ∈ H ++ P, SL w (atA f s).hv (L s)) (hS : ∀ s ∈ H ++ P, s.size ≤ maxLen) :
    Calls Try.prog 29 #[.agg #[.int .i64 rsz, .string rsha, .string rmd, .int .i64 rrp, .slice ra rn rc, .int .i64 rver, .int .i64 rep, .int .i64 rrm, .string rwr, .bool rdm, .bool rpt], .agg #[hv, pv], .map (some m)] w fun e w' => e = .returned (.bool ((H ++ P).all (okA rver rep H P L f))) ∧ Below w.heap.size w w' := by
  obtain ⟨ha, hc, rfl⟩ := hH.slice
  obtain ⟨pa, pc, rfl⟩ := hP.slice
  have hB0 : Below w.heap.size w ((w.alloc (.cells #[.int .i64 rsz, .string rsha, .string rmd, .int .i64 rrp, .slice ra rn rc, .int .i64 rver, .int .i64 rep, .int .i64 rrm, .string rwr, .bool rdm, .bool rpt] 46)).alloc (.cells #[.slice ha H.length hc, .slice pa P.length pc] 41)) := ((Below.refl _ _).alloc (Nat.le_refl _) _).alloc (by simp) _
  go_enter Try.func29, Try.ntmps29
  go_wp2_with fail
  refine (laidOut38 rsz rrp rver rep rrm rsha rmd rwr ra rn rc rdm rpt _ _ H P m n f L _ (hH.below hB0 (Nat.le_refl _)) (hP.below hB0 (Nat.le_refl _)) hl (hM.below hB0 hM.lt) (fun s hs => (hL s hs).below hB0 (Nat.le_refl _)) hS).mono ?_
  rintro e w1 ⟨rfl, hb1⟩
  obtain ⟨bb, HBB⟩ : ∃ bb, Hid ((H ++ P).all (okA rver rep H P L f) = bb) := ⟨_, rfl⟩
  rw [HBB.out]
  go_wp2
  go_ret
  exact ⟨by rw [HBB.out]; rfl, hB0.trans (hb1.mono hB0.size)⟩

end Go.Proofs.Qxb6617077a
