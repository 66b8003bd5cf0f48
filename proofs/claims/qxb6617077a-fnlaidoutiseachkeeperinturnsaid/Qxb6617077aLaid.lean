import Derived.Test.Qxb6617077aRecs
import Derived.Test.Qxb6617077aMaps
import Derived.Test.Qxb6617077aSlices
import Derived.Deep.DeepCutAuto
namespace Go.Proofs.Qxb6617077a
open Go.RowKit

/-! ### a region that draws its order, whose callees make new memory -/
/-- A world that has grown out of W: of what was there nothing has turned. -/
structure Ext (W : World) where
  w : World
  h : Below W.heap.size W w

theorem calls_ext {f : FuncId} {args : Array Value} {W : World} {t : Ext W} {v : Value} (h : Calls Try.prog f args t.w fun e w' => e = .returned v ∧ Below t.w.heap.size t.w w') :
    Calls Try.prog f args t.w fun e w'' => e = .returned v ∧ ∃ t' : Ext W, w'' = t'.w :=
  h.mono fun _ w'' ⟨he, hb⟩ => ⟨he, ⟨⟨w'', t.h.trans (hb.mono t.h.size)⟩, rfl⟩⟩
theorem wp_region_ext {id : Nat} {Q : Exit → Act → World → Prop} {a : Act} {W : World} {l : List Oper} (hm : Try.prog.follows .mixedOrders = true) (hB : Region.lexB .any l.toArray = true)
    (h : wpQuiet Try.prog l.toArray (fun w' => ∃ t : Ext W, w' = t.w) (fun a' => ∀ w', (∃ t : Ext W, w' = t.w) → Q .normal a' w') l a) : (Code.region id l.toArray true).wp Try.prog Q a W :=
  wp_region_quiet (C := fun w' => ∃ t : Ext W, w' = t.w) hm hB ⟨⟨_, (Below.refl _ W).drew⟩, rfl⟩ (by simpa using h)

/-! ### answers -/
structure Ans where
  ad : ByteArray
  re : Bool
  he : Bool
  fr : Int
  sz : Int
  rp : Int
  ver : Int
  ep : Int
  rm : Int
  sha : ByteArray
  md : ByteArray
  wr : ByteArray
  a : Option Addr
  n : Nat
  c : Nat
  dm : Bool
  pt : Bool
def Ans.val (x : Ans) : Value := .agg #[.string x.ad, .bool x.re, .bool x.he, .int .i64 x.sz, .string x.sha, .string x.md, .int .i64 x.rp, .slice x.a x.n x.c, .int .i64 x.ver, .int .i64 x.ep, .int .i64 x.rm, .string x.wr, .bool x.dm, .bool x.pt, .int .i64 x.fr]
def Ans.hv (x : Ans) : Value := .slice x.a x.n x.c
def zeroAns : Ans := ⟨⟨#[]⟩, false, false, 0, 0, 0, 0, 0, 0, ⟨#[]⟩, ⟨#[]⟩, ⟨#[]⟩, none, 0, 0, false, false⟩
theorem zero_val : zeroAns.val = zeroA := rfl
/-- What stands at s. -/
def atA (f : ByteArray → Option Ans) (s : ByteArray) : Ans := (f s).getD zeroAns
theorem atA_val (f : ByteArray → Option Ans) (s : ByteArray) : ((f s).map Ans.val).getD zeroA = (atA f s).val := by
  unfold atA
  cases f s with
  | none => rfl
  | some x => rfl

/-- Does the member that answered so hold what the layout asks of it? -/
def okB (V E : Int) (ip he pt dm : Bool) (ver ep : Int) (same : Bool) : Bool :=
  he && (pt == ip) && (ip || holdsB he dm pt ver V) && (ver == V) && (ep == E) && same
def okA (V E : Int) (H P : List ByteArray) (L : ByteArray → List ByteArray) (f : ByteArray → Option Ans) (s : ByteArray) : Bool :=
  okB V E (mem P s) (atA f s).he (atA f s).pt (atA f s).dm (atA f s).ver (atA f s).ep (sameL (L s) H)
theorem all_snoc {K : List ByteArray} {p : ByteArray → Bool} {k : Nat} (hk : k < K.length) (h1 : (K.take k).all p = true) (h2 : p K[k] = true) : (K.take (k + 1)).all p = true := by
  rw [List.take_succ_eq_append_getElem hk, List.all_append, h1]
  simp [h2]
theorem all_miss {K : List ByteArray} {p : ByteArray → Bool} {k : Nat} (hk : k < K.length) (h2 : p K[k] = false) : K.all p = false := by
  cases hb : K.all p with
  | false => rfl
  | true =>
    rw [List.all_eq_true] at hb
    rw [hb _ (List.getElem_mem hk)] at h2
    cases h2


set_option maxRecDepth 100000 in
set_option maxHeartbeats 8000000 in
theorem laidOut38 (rsz rrp rver rep rrm : Int) (rsha rmd rwr : ByteArray) (ra : Option Addr) (rn rc : Nat) (rdm rpt : Bool) (hv pv : Value) (H P : List ByteArray) (m n : Nat) (f : ByteArray → Option Ans) (L : ByteArray → List ByteArray) (w : World) (hH : SL w hv H) (hP : SL w pv P) (hl : H.length + P.length ≤ 1048576)
    (hM : MapIs w m n (fun s => (f s).map Ans.val)) (hL : ∀ s ∈ H ++ P, SL w (atA f s).hv (L s)) (hS : ∀ s ∈ H ++ P, s.size ≤ maxLen) :
    Calls Try.prog 38 #[.agg #[.int .i64 rsz, .string rsha, .string rmd, .int .i64 rrp, .slice ra rn rc, .int .i64 rver, .int .i64 rep, .int .i64 rrm, .string rwr, .bool rdm, .bool rpt], .agg #[hv, pv], .map (some m)] w fun e w' => e = .returned (.bool ((H ++ P).all (okA rver rep H P L f))) ∧ Below w.heap.size w w' := by
  obtain ⟨ha, hc, rfl⟩ := hH.slice
  obtain ⟨pa, pc, rfl⟩ := hP.slice
  go_enter Try.func38, Try.ntmps38
  go_wp2_with fail
  have hB0 : Below w.heap.size w ((w.alloc (.cells #[.int .i64 rsz, .string rsha, .string rmd, .int .i64 rrp, .slice ra rn rc, .int .i64 rver, .int .i64 rep, .int .i64 rrm, .string rwr, .bool rdm, .bool rpt] 46)).alloc (.cells #[.slice ha H.length hc, .slice pa P.length pc] 41)) := ((Below.refl _ _).alloc (Nat.le_refl _) _).alloc (by simp) _
  refine (keepers41 _ _ H P _ (hH.below hB0 (Nat.le_refl _)) (hP.below hB0 (Nat.le_refl _)) hl).mono ?_
  rintro e w1 ⟨kv, rfl, hK, hb1⟩
  have rblk : w1.heap[w.heap.size]? = some (.cells #[.int .i64 rsz, .string rsha, .string rmd, .int .i64 rrp, .slice ra rn rc, .int .i64 rver, .int .i64 rep, .int .i64 rrm, .string rwr, .bool rdm, .bool rpt] 46 (0, 0)) := by
    rw [hb1.block _ (by simp; omega), Below.heap_alloc _ _ _ (by simp)]
    exact heap_alloc_new w _
  have lblk : w1.heap[w.heap.size + 1]? = some (.cells #[.slice ha H.length hc, .slice pa P.length pc] 41 (0, 0)) := by
    rw [hb1.block _ (by simp)]
    have := heap_alloc_new (w.alloc (.cells #[.int .i64 rsz, .string rsha, .string rmd, .int .i64 rrp, .slice ra rn rc, .int .i64 rver, .int .i64 rep, .int .i64 rrm, .string rwr, .bool rdm, .bool rpt] 46)) (.cells #[.slice ha H.length hc, .slice pa P.length pc] 41)
    simpa using this
  have l1 : Below w.heap.size w w1 := hB0.trans (hb1.mono hB0.size)
  have hH1 := hH.below l1 (Nat.le_refl _)
  have hP1 := hP.below l1 (Nat.le_refl _)
  have hM1 := hM.below l1 hM.lt
  have HL1 : Hid (∀ s ∈ H ++ P, SL w1 (atA f s).hv (L s)) := fun s hs => (hL s hs).below l1 (Nat.le_refl _)
  have HS : Hid (∀ s ∈ H ++ P, s.size ≤ maxLen) := hS
  clear hb1 hB0 hH hP hM hL hS
  have hKl : (H ++ P).length ≤ 1048576 := by rw [List.length_append]; exact hl
  have hHl : H.length ≤ 1048576 := by omega
  have hPl : P.length ≤ 1048576 := by omega
  obtain ⟨K, HKK⟩ : ∃ K, Hid (H ++ P = K) := ⟨_, rfl⟩
  rw [HKK.out] at hK HL1 HS hKl
  clear hl
  obtain ⟨ka, kc, rfl⟩ := hK.slice
  go_wp2
  go_loopw [14] (fun i wr => ∃ k : Nat, k ≤ K.length ∧ i = .int .i64 k ∧ Hid ((K.take k).all (okA rver rep H P L f) = true) ∧ Below w1.heap.size w1 wr) (fun i _ => K.length - (intOf i).toNat)
  case atStart => exact ⟨0, Nat.zero_le _, rfl, rfl, Below.refl _ _⟩
  case round =>
    obtain ⟨k, hk, rfl, HA, hbe⟩ := hrel
    by_cases hlt : k < K.length
    · obtain ⟨kb, ko, rfl, hkb, hkc⟩ := hK.at hlt
      have hkc' := (hbe.cell (p := ⟨kb, ko + k, none⟩) hkb).trans hkc
      clear hkc
      have hmem : K[k] ∈ K := List.getElem_mem hlt
      have hLs := (HL1.out _ hmem).below hbe (Nat.le_refl _)
      have hlook := (hM1.below hbe hM1.lt).look (HS.out _ hmem)
      rw [atA_val] at hlook
      have HP : Hid (okA rver rep H P L f K[k] = okB rver rep (mem P K[k]) (atA f K[k]).he (atA f K[k]).pt (atA f K[k]).dm (atA f K[k]).ver (atA f K[k]).ep (sameL (L K[k]) H)) := rfl
      have hPr := hP1.below hbe (Nat.le_refl _)
      have hHr := hH1.below hbe (Nat.le_refl _)
      have rblk' : wr.heap[w.heap.size]? = some (.cells #[.int .i64 rsz, .string rsha, .string rmd, .int .i64 rrp, .slice ra rn rc, .int .i64 rver, .int .i64 rep, .int .i64 rrm, .string rwr, .bool rdm, .bool rpt] 46 (0, 0)) := by rw [hbe.block _ (lt_of_block rblk)]; exact rblk
      have lblk' : wr.heap[w.heap.size + 1]? = some (.cells #[.slice ha H.length hc, .slice pa P.length pc] 41 (0, 0)) := by rw [hbe.block _ (lt_of_block lblk)]; exact lblk
      have lc0 : wr.cell? ⟨w.heap.size + 1, 0, none⟩ = some (.slice ha H.length hc) := by rw [cell_of_row wr _ 0 _ _ _ lblk']; rfl
      have lc1 : wr.cell? ⟨w.heap.size + 1, 1, none⟩ = some (.slice pa P.length pc) := by rw [cell_of_row wr _ 1 _ _ _ lblk']; rfl
      generalize atA f K[k] = X at hlook HP hLs
      generalize L K[k] = LX at HP hLs
      generalize hip : mem P K[k] = ip at HP
      have HIP : Hid (mem P K[k] = ip) := hip
      clear hip
      obtain ⟨xad, xre, xhe, xfr, xsz, xrp, xver, xep, xrm, xsha, xmd, xwr, xa, xn, xc, xdm, xpt⟩ := X
      simp only [Ans.val, Ans.hv] at hlook hLs HP
      have hzz : w.heap.size + 1 < wr.heap.size := lt_of_block lblk'
      have hne1 : ¬ w.heap.size + 1 = wr.heap.size := by omega
      have hne1' : ¬ wr.heap.size = w.heap.size + 1 := by omega
      have hne0 : ¬ w.heap.size = wr.heap.size := by omega
      go_wp2_with fail
      have hbW : Below wr.heap.size wr (wr.alloc (.cells #[.string xad, .bool xre, .bool xhe, .int .i64 xsz, .string xsha, .string xmd, .int .i64 xrp, .slice xa xn xc, .int .i64 xver, .int .i64 xep, .int .i64 xrm, .string xwr, .bool xdm, .bool xpt, .int .i64 xfr] 50)) := (Below.refl _ _).alloc (Nat.le_refl _) _
      refine (contains39 _ P K[k] _ (hPr.below hbW (Nat.le_refl _)) hPl).mono ?_
      rintro e w' ⟨rfl, hw⟩
      subst w'
      rw [HIP.out]
      go_wp2_with fail
      have ablk : (wr.alloc (.cells #[.string xad, .bool xre, .bool xhe, .int .i64 xsz, .string xsha, .string xmd, .int .i64 xrp, .slice xa xn xc, .int .i64 xver, .int .i64 xep, .int .i64 xrm, .string xwr, .bool xdm, .bool xpt, .int .i64 xfr] 50)).heap[wr.heap.size]? = some (.cells #[.string xad, .bool xre, .bool xhe, .int .i64 xsz, .string xsha, .string xmd, .int .i64 xrp, .slice xa xn xc, .int .i64 xver, .int .i64 xep, .int .i64 xrm, .string xwr, .bool xdm, .bool xpt, .int .i64 xfr] 50 (0, 0)) := heap_alloc_new wr _
      have hrW := hbW.block (w.heap.size) (by omega)
      rw [rblk'] at hrW
      have hlW := hbW.block (w.heap.size + 1) (by omega)
      rw [lblk'] at hlW
      have hLW := hLs.below hbW (Nat.le_refl _)
      have hHW := hHr.below hbW (Nat.le_refl _)
      generalize wr.alloc (.cells #[.string xad, .bool xre, .bool xhe, .int .i64 xsz, .string xsha, .string xmd, .int .i64 xrp, .slice xa xn xc, .int .i64 xver, .int .i64 xep, .int .i64 xrm, .string xwr, .bool xdm, .bool xpt, .int .i64 xfr] 50) = W at ablk hrW hlW hLW hHW hbW ⊢
      go_cut [62] (fun s62 wc => s62 = .bool (!okB rver rep ip xhe xpt xdm xver xep (sameL LX H)) ∧ Below wr.heap.size wr wc)
      case first =>
        have hNE : Nonempty (Ext W) := ⟨⟨W, Below.refl _ _⟩⟩
        have alt := lt_of_block ablk
        have rlt := lt_of_block hrW
        have llt := lt_of_block hlW
        have ablk' := ablk
        have a0 : ∀ t : Ext W, t.w.cell? ⟨wr.heap.size, 0, none⟩ = some (.string xad) := fun t => by rw [t.h.cell (p := ⟨wr.heap.size, 0, none⟩) alt, cell_of_row W _ 0 _ _ _ ablk]; rfl
        have a1 : ∀ t : Ext W, t.w.cell? ⟨wr.heap.size, 1, none⟩ = some (.bool xre) := fun t => by rw [t.h.cell (p := ⟨wr.heap.size, 1, none⟩) alt, cell_of_row W _ 1 _ _ _ ablk]; rfl
        have a2 : ∀ t : Ext W, t.w.cell? ⟨wr.heap.size, 2, none⟩ = some (.bool xhe) := fun t => by rw [t.h.cell (p := ⟨wr.heap.size, 2, none⟩) alt, cell_of_row W _ 2 _ _ _ ablk]; rfl
        have a3 : ∀ t : Ext W, t.w.cell? ⟨wr.heap.size, 3, none⟩ = some (.int .i64 xsz) := fun t => by rw [t.h.cell (p := ⟨wr.heap.size, 3, none⟩) alt, cell_of_row W _ 3 _ _ _ ablk]; rfl
        have a4 : ∀ t : Ext W, t.w.cell? ⟨wr.heap.size, 4, none⟩ = some (.string xsha) := fun t => by rw [t.h.cell (p := ⟨wr.heap.size, 4, none⟩) alt, cell_of_row W _ 4 _ _ _ ablk]; rfl
        have a5 : ∀ t : Ext W, t.w.cell? ⟨wr.heap.size, 5, none⟩ = some (.string xmd) := fun t => by rw [t.h.cell (p := ⟨wr.heap.size, 5, none⟩) alt, cell_of_row W _ 5 _ _ _ ablk]; rfl
        have a6 : ∀ t : Ext W, t.w.cell? ⟨wr.heap.size, 6, none⟩ = some (.int .i64 xrp) := fun t => by rw [t.h.cell (p := ⟨wr.heap.size, 6, none⟩) alt, cell_of_row W _ 6 _ _ _ ablk]; rfl
        have a7 : ∀ t : Ext W, t.w.cell? ⟨wr.heap.size, 7, none⟩ = some (.slice xa xn xc) := fun t => by rw [t.h.cell (p := ⟨wr.heap.size, 7, none⟩) alt, cell_of_row W _ 7 _ _ _ ablk]; rfl
        have a8 : ∀ t : Ext W, t.w.cell? ⟨wr.heap.size, 8, none⟩ = some (.int .i64 xver) := fun t => by rw [t.h.cell (p := ⟨wr.heap.size, 8, none⟩) alt, cell_of_row W _ 8 _ _ _ ablk]; rfl
        have a9 : ∀ t : Ext W, t.w.cell? ⟨wr.heap.size, 9, none⟩ = some (.int .i64 xep) := fun t => by rw [t.h.cell (p := ⟨wr.heap.size, 9, none⟩) alt, cell_of_row W _ 9 _ _ _ ablk]; rfl
        have a10 : ∀ t : Ext W, t.w.cell? ⟨wr.heap.size, 10, none⟩ = some (.int .i64 xrm) := fun t => by rw [t.h.cell (p := ⟨wr.heap.size, 10, none⟩) alt, cell_of_row W _ 10 _ _ _ ablk]; rfl
        have a11 : ∀ t : Ext W, t.w.cell? ⟨wr.heap.size, 11, none⟩ = some (.string xwr) := fun t => by rw [t.h.cell (p := ⟨wr.heap.size, 11, none⟩) alt, cell_of_row W _ 11 _ _ _ ablk]; rfl
        have a12 : ∀ t : Ext W, t.w.cell? ⟨wr.heap.size, 12, none⟩ = some (.bool xdm) := fun t => by rw [t.h.cell (p := ⟨wr.heap.size, 12, none⟩) alt, cell_of_row W _ 12 _ _ _ ablk]; rfl
        have a13 : ∀ t : Ext W, t.w.cell? ⟨wr.heap.size, 13, none⟩ = some (.bool xpt) := fun t => by rw [t.h.cell (p := ⟨wr.heap.size, 13, none⟩) alt, cell_of_row W _ 13 _ _ _ ablk]; rfl
        have a14 : ∀ t : Ext W, t.w.cell? ⟨wr.heap.size, 14, none⟩ = some (.int .i64 xfr) := fun t => by rw [t.h.cell (p := ⟨wr.heap.size, 14, none⟩) alt, cell_of_row W _ 14 _ _ _ ablk]; rfl
        have rblk := hrW
        have r0 : ∀ t : Ext W, t.w.cell? ⟨w.heap.size, 0, none⟩ = some (.int .i64 rsz) := fun t => by rw [t.h.cell (p := ⟨w.heap.size, 0, none⟩) rlt, cell_of_row W _ 0 _ _ _ rblk]; rfl
        have r1 : ∀ t : Ext W, t.w.cell? ⟨w.heap.size, 1, none⟩ = some (.string rsha) := fun t => by rw [t.h.cell (p := ⟨w.heap.size, 1, none⟩) rlt, cell_of_row W _ 1 _ _ _ rblk]; rfl
        have r2 : ∀ t : Ext W, t.w.cell? ⟨w.heap.size, 2, none⟩ = some (.string rmd) := fun t => by rw [t.h.cell (p := ⟨w.heap.size, 2, none⟩) rlt, cell_of_row W _ 2 _ _ _ rblk]; rfl
        have r3 : ∀ t : Ext W, t.w.cell? ⟨w.heap.size, 3, none⟩ = some (.int .i64 rrp) := fun t => by rw [t.h.cell (p := ⟨w.heap.size, 3, none⟩) rlt, cell_of_row W _ 3 _ _ _ rblk]; rfl
        have r4 : ∀ t : Ext W, t.w.cell? ⟨w.heap.size, 4, none⟩ = some (.slice ra rn rc) := fun t => by rw [t.h.cell (p := ⟨w.heap.size, 4, none⟩) rlt, cell_of_row W _ 4 _ _ _ rblk]; rfl
        have r5 : ∀ t : Ext W, t.w.cell? ⟨w.heap.size, 5, none⟩ = some (.int .i64 rver) := fun t => by rw [t.h.cell (p := ⟨w.heap.size, 5, none⟩) rlt, cell_of_row W _ 5 _ _ _ rblk]; rfl
        have r6 : ∀ t : Ext W, t.w.cell? ⟨w.heap.size, 6, none⟩ = some (.int .i64 rep) := fun t => by rw [t.h.cell (p := ⟨w.heap.size, 6, none⟩) rlt, cell_of_row W _ 6 _ _ _ rblk]; rfl
        have r7 : ∀ t : Ext W, t.w.cell? ⟨w.heap.size, 7, none⟩ = some (.int .i64 rrm) := fun t => by rw [t.h.cell (p := ⟨w.heap.size, 7, none⟩) rlt, cell_of_row W _ 7 _ _ _ rblk]; rfl
        have r8 : ∀ t : Ext W, t.w.cell? ⟨w.heap.size, 8, none⟩ = some (.string rwr) := fun t => by rw [t.h.cell (p := ⟨w.heap.size, 8, none⟩) rlt, cell_of_row W _ 8 _ _ _ rblk]; rfl
        have r9 : ∀ t : Ext W, t.w.cell? ⟨w.heap.size, 9, none⟩ = some (.bool rdm) := fun t => by rw [t.h.cell (p := ⟨w.heap.size, 9, none⟩) rlt, cell_of_row W _ 9 _ _ _ rblk]; rfl
        have r10 : ∀ t : Ext W, t.w.cell? ⟨w.heap.size, 10, none⟩ = some (.bool rpt) := fun t => by rw [t.h.cell (p := ⟨w.heap.size, 10, none⟩) rlt, cell_of_row W _ 10 _ _ _ rblk]; rfl
        have lblk := hlW
        have l0 : ∀ t : Ext W, t.w.cell? ⟨(w.heap.size + 1), 0, none⟩ = some (.slice ha H.length hc) := fun t => by rw [t.h.cell (p := ⟨(w.heap.size + 1), 0, none⟩) llt, cell_of_row W _ 0 _ _ _ lblk]; rfl
        have l1 : ∀ t : Ext W, t.w.cell? ⟨(w.heap.size + 1), 1, none⟩ = some (.slice pa P.length pc) := fun t => by rw [t.h.cell (p := ⟨(w.heap.size + 1), 1, none⟩) llt, cell_of_row W _ 1 _ _ _ lblk]; rfl
        cases xhe
        · refine wp_region_ext (by kernel_rfl) (by kernel_rfl) ?_
          repeat (go_big_quiet_step (first | (go_at_call 42; exact calls_ext (holds42 _ _ _ _ _ _ _ _ _ _ _ _ _ _ _ _ _ _ _)) | (go_at_call 43; exact calls_ext (stamp43 _ _ _ _ _ _ _ _ _ _ _ _ _ _)) | (go_at_call 44; exact calls_ext (equal44 _ _ LX H _ (hLW.below (Ext.h _) (Nat.le_refl _)) (hHW.below (Ext.h _) (Nat.le_refl _)) hHl))))
          refine wpQuiet_nil ?_
          rintro _ ⟨⟨w6, hb6⟩, rfl⟩
          go_wp2
          go_meet
          case rel => exact ⟨by simp [okB], hbW.trans (hb6.mono hbW.size)⟩
        · cases xpt <;> cases ip
          · by_cases hh : holdsB true xdm false xver rver = true
            · have hv : (xver == rver) = true := by simp [holdsB] at hh; simp [hh]
              have HH : Hid (holdsB true xdm false xver rver = true) := hh
              by_cases he : (xep == rep) = true
              · cases hsl : sameL LX H
                · have HSL : Hid (sameL LX H = false) := hsl
                  refine wp_region_ext (by kernel_rfl) (by kernel_rfl) ?_
                  repeat (go_big_quiet_step (first | (go_at_call 42; exact calls_ext (holds42 _ _ _ _ _ _ _ _ _ _ _ _ _ _ _ _ _ _ _)) | (go_at_call 43; exact calls_ext (stamp43 _ _ _ _ _ _ _ _ _ _ _ _ _ _)) | (go_at_call 44; exact calls_ext (equal44 _ _ LX H _ (hLW.below (Ext.h _) (Nat.le_refl _)) (hHW.below (Ext.h _) (Nat.le_refl _)) hHl))))
                  refine wpQuiet_nil ?_
                  rintro _ ⟨⟨w6, hb6⟩, rfl⟩
                  go_wp2
                  go_meet
                  case rel => exact ⟨by simp [okB, hv, he, HH.out, HSL.out], hbW.trans (hb6.mono hbW.size)⟩
                · have HSL : Hid (sameL LX H = true) := hsl
                  refine wp_region_ext (by kernel_rfl) (by kernel_rfl) ?_
                  repeat (go_big_quiet_step (first | (go_at_call 42; exact calls_ext (holds42 _ _ _ _ _ _ _ _ _ _ _ _ _ _ _ _ _ _ _)) | (go_at_call 43; exact calls_ext (stamp43 _ _ _ _ _ _ _ _ _ _ _ _ _ _)) | (go_at_call 44; exact calls_ext (equal44 _ _ LX H _ (hLW.below (Ext.h _) (Nat.le_refl _)) (hHW.below (Ext.h _) (Nat.le_refl _)) hHl))))
                  refine wpQuiet_nil ?_
                  rintro _ ⟨⟨w6, hb6⟩, rfl⟩
                  go_wp2
                  go_meet
                  case rel => exact ⟨by simp [okB, hv, he, HH.out, HSL.out], hbW.trans (hb6.mono hbW.size)⟩
              · have he' : (xep == rep) = false := by simpa using he
                refine wp_region_ext (by kernel_rfl) (by kernel_rfl) ?_
                repeat (go_big_quiet_step (first | (go_at_call 42; exact calls_ext (holds42 _ _ _ _ _ _ _ _ _ _ _ _ _ _ _ _ _ _ _)) | (go_at_call 43; exact calls_ext (stamp43 _ _ _ _ _ _ _ _ _ _ _ _ _ _)) | (go_at_call 44; exact calls_ext (equal44 _ _ LX H _ (hLW.below (Ext.h _) (Nat.le_refl _)) (hHW.below (Ext.h _) (Nat.le_refl _)) hHl))))
                refine wpQuiet_nil ?_
                rintro _ ⟨⟨w6, hb6⟩, rfl⟩
                go_wp2
                go_meet
                case rel => exact ⟨by simp [okB, he'], hbW.trans (hb6.mono hbW.size)⟩
            · have hh' : holdsB true xdm false xver rver = false := by simpa using hh
              clear hh
              refine wp_region_ext (by kernel_rfl) (by kernel_rfl) ?_
              repeat (go_big_quiet_step (first | (go_at_call 42; exact calls_ext (holds42 _ _ _ _ _ _ _ _ _ _ _ _ _ _ _ _ _ _ _)) | (go_at_call 43; exact calls_ext (stamp43 _ _ _ _ _ _ _ _ _ _ _ _ _ _)) | (go_at_call 44; exact calls_ext (equal44 _ _ LX H _ (hLW.below (Ext.h _) (Nat.le_refl _)) (hHW.below (Ext.h _) (Nat.le_refl _)) hHl))))
              refine wpQuiet_nil ?_
              rintro _ ⟨⟨w6, hb6⟩, rfl⟩
              go_wp2
              go_meet
              case rel => exact ⟨by simp [okB, hh'], hbW.trans (hb6.mono hbW.size)⟩
          · refine wp_region_ext (by kernel_rfl) (by kernel_rfl) ?_
            repeat (go_big_quiet_step (first | (go_at_call 42; exact calls_ext (holds42 _ _ _ _ _ _ _ _ _ _ _ _ _ _ _ _ _ _ _)) | (go_at_call 43; exact calls_ext (stamp43 _ _ _ _ _ _ _ _ _ _ _ _ _ _)) | (go_at_call 44; exact calls_ext (equal44 _ _ LX H _ (hLW.below (Ext.h _) (Nat.le_refl _)) (hHW.below (Ext.h _) (Nat.le_refl _)) hHl))))
            refine wpQuiet_nil ?_
            rintro _ ⟨⟨w6, hb6⟩, rfl⟩
            go_wp2
            go_meet
            case rel => exact ⟨by simp [okB], hbW.trans (hb6.mono hbW.size)⟩
          · refine wp_region_ext (by kernel_rfl) (by kernel_rfl) ?_
            repeat (go_big_quiet_step (first | (go_at_call 42; exact calls_ext (holds42 _ _ _ _ _ _ _ _ _ _ _ _ _ _ _ _ _ _ _)) | (go_at_call 43; exact calls_ext (stamp43 _ _ _ _ _ _ _ _ _ _ _ _ _ _)) | (go_at_call 44; exact calls_ext (equal44 _ _ LX H _ (hLW.below (Ext.h _) (Nat.le_refl _)) (hHW.below (Ext.h _) (Nat.le_refl _)) hHl))))
            refine wpQuiet_nil ?_
            rintro _ ⟨⟨w6, hb6⟩, rfl⟩
            go_wp2
            go_meet
            case rel => exact ⟨by simp [okB], hbW.trans (hb6.mono hbW.size)⟩
          · by_cases hv : (xver == rver) = true
            · by_cases he : (xep == rep) = true
              · cases hsl : sameL LX H
                · have HSL : Hid (sameL LX H = false) := hsl
                  refine wp_region_ext (by kernel_rfl) (by kernel_rfl) ?_
                  repeat (go_big_quiet_step (first | (go_at_call 42; exact calls_ext (holds42 _ _ _ _ _ _ _ _ _ _ _ _ _ _ _ _ _ _ _)) | (go_at_call 43; exact calls_ext (stamp43 _ _ _ _ _ _ _ _ _ _ _ _ _ _)) | (go_at_call 44; exact calls_ext (equal44 _ _ LX H _ (hLW.below (Ext.h _) (Nat.le_refl _)) (hHW.below (Ext.h _) (Nat.le_refl _)) hHl))))
                  refine wpQuiet_nil ?_
                  rintro _ ⟨⟨w6, hb6⟩, rfl⟩
                  go_wp2
                  go_meet
                  case rel => exact ⟨by simp [okB, hv, he, HSL.out], hbW.trans (hb6.mono hbW.size)⟩
                · have HSL : Hid (sameL LX H = true) := hsl
                  refine wp_region_ext (by kernel_rfl) (by kernel_rfl) ?_
                  repeat (go_big_quiet_step (first | (go_at_call 42; exact calls_ext (holds42 _ _ _ _ _ _ _ _ _ _ _ _ _ _ _ _ _ _ _)) | (go_at_call 43; exact calls_ext (stamp43 _ _ _ _ _ _ _ _ _ _ _ _ _ _)) | (go_at_call 44; exact calls_ext (equal44 _ _ LX H _ (hLW.below (Ext.h _) (Nat.le_refl _)) (hHW.below (Ext.h _) (Nat.le_refl _)) hHl))))
                  refine wpQuiet_nil ?_
                  rintro _ ⟨⟨w6, hb6⟩, rfl⟩
                  go_wp2
                  go_meet
                  case rel => exact ⟨by simp [okB, hv, he, HSL.out], hbW.trans (hb6.mono hbW.size)⟩
              · have he' : (xep == rep) = false := by simpa using he
                refine wp_region_ext (by kernel_rfl) (by kernel_rfl) ?_
                repeat (go_big_quiet_step (first | (go_at_call 42; exact calls_ext (holds42 _ _ _ _ _ _ _ _ _ _ _ _ _ _ _ _ _ _ _)) | (go_at_call 43; exact calls_ext (stamp43 _ _ _ _ _ _ _ _ _ _ _ _ _ _)) | (go_at_call 44; exact calls_ext (equal44 _ _ LX H _ (hLW.below (Ext.h _) (Nat.le_refl _)) (hHW.below (Ext.h _) (Nat.le_refl _)) hHl))))
                refine wpQuiet_nil ?_
                rintro _ ⟨⟨w6, hb6⟩, rfl⟩
                go_wp2
                go_meet
                case rel => exact ⟨by simp [okB, he'], hbW.trans (hb6.mono hbW.size)⟩
            · have hv' : (xver == rver) = false := by simpa using hv
              refine wp_region_ext (by kernel_rfl) (by kernel_rfl) ?_
              repeat (go_big_quiet_step (first | (go_at_call 42; exact calls_ext (holds42 _ _ _ _ _ _ _ _ _ _ _ _ _ _ _ _ _ _ _)) | (go_at_call 43; exact calls_ext (stamp43 _ _ _ _ _ _ _ _ _ _ _ _ _ _)) | (go_at_call 44; exact calls_ext (equal44 _ _ LX H _ (hLW.below (Ext.h _) (Nat.le_refl _)) (hHW.below (Ext.h _) (Nat.le_refl _)) hHl))))
              refine wpQuiet_nil ?_
              rintro _ ⟨⟨w6, hb6⟩, rfl⟩
              go_wp2
              go_meet
              case rel => exact ⟨by simp [okB, hv'], hbW.trans (hb6.mono hbW.size)⟩
      case rest =>
        obtain ⟨rfl, hbc⟩ := hcut
        cases hok : okB rver rep ip xhe xpt xdm xver xep (sameL LX H)
        · have HT : Hid (K.all (okA rver rep H P L f) = false) := all_miss hlt (by rw [HP.out]; exact hok)
          clear hok
          go_wp2
          go_ret
          exact ⟨by rw [HKK.out, HT.out]; rfl, (l1.trans (hbe.mono l1.size)).trans (hbc.mono (Nat.le_trans l1.size hbe.size))⟩
        · have HT : Hid ((K.take (k + 1)).all (okA rver rep H P L f) = true) := all_snoc hlt HA.out (by rw [HP.out]; exact hok)
          clear hok
          go_wp2
          go_roundw
          case rel => exact ⟨k + 1, by omega, by go_num, HT, hbe.trans (hbc.mono hbe.size)⟩
          case measure => simp [intOf]; omega
    · have HT : Hid (K.all (okA rver rep H P L f) = true) := by
        have := HA.out
        rw [List.take_of_length_le (by omega)] at this
        exact this
      go_wp2
      go_ret
      exact ⟨by rw [HKK.out, HT.out]; rfl, l1.trans (hbe.mono l1.size)⟩

end Go.Proofs.Qxb6617077a
