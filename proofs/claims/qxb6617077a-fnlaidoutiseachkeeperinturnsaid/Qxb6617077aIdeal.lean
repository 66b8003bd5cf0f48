import Derived.Test.Qxb6617077aLaid
import Derived.Deep.RegionHeld3
namespace Go.Proofs.Qxb6617077a
open Go.RowKit

/-- What the layout asks of s. -/
def idealA (V E : Int) (a : Option Addr) (n c : Nat) (P : List ByteArray) (s : ByteArray) : Ans :=
  ⟨s, true, true, 0, 0, 0, V, E, 0, ⟨#[]⟩, ⟨#[]⟩, ⟨#[]⟩, a, n, c, false, mem P s⟩
def idealF (V E : Int) (a : Option Addr) (n c : Nat) (P K : List ByteArray) (s : ByteArray) : Option Ans := if mem K s then some (idealA V E a n c P s) else none
theorem idealF_nil (V E : Int) (a : Option Addr) (n c : Nat) (P : List ByteArray) : (fun s => (idealF V E a n c P [] s).map Ans.val) = fun _ => none := by
  funext s
  rfl
theorem idealF_snoc (V E : Int) (a : Option Addr) (n c : Nat) (P K : List ByteArray) (k : Nat) (hk : k < K.length) :
    upd (fun s => (idealF V E a n c P (K.take k) s).map Ans.val) K[k] (some (idealA V E a n c P K[k]).val) = fun s => (idealF V E a n c P (K.take (k + 1)) s).map Ans.val := by
  funext s
  by_cases e : s = K[k]
  · subst e
    rw [upd_same]
    have : mem (K.take (k + 1)) K[k] = true := mem_iff.2 (by rw [List.take_succ_eq_append_getElem hk]; exact List.mem_append_right _ (List.mem_singleton.2 rfl))
    simp [idealF, this]
  · rw [upd_other _ _ e]
    have : mem (K.take (k + 1)) s = mem (K.take k) s := by
      unfold mem
      rw [List.take_succ_eq_append_getElem hk, List.any_append]
      simp [same_ne (fun h => e h.symm)]
    simp [idealF, this]

theorem own_second (w : World) (A B : Obj) : (((w.alloc A).alloc B).drew).heap[w.heap.size + 1]? = some B := by
  show ((w.alloc A).alloc B).heap[w.heap.size + 1]? = some B
  have := heap_alloc_new (w.alloc A) B
  simpa using this
theorem own_first (w : World) (A B : Obj) : (((w.alloc A).alloc B).drew).heap[w.heap.size]? = some A := by
  show ((w.alloc A).alloc B).heap[w.heap.size]? = some A
  rw [Below.heap_alloc _ _ _ (by simp)]
  exact heap_alloc_new w A
theorem below_two (w : World) (A B : Obj) : Below w.heap.size w (((w.alloc A).alloc B).drew) :=
  (((Below.refl _ _).alloc (Nat.le_refl _) A).alloc (by simp) B).drew

set_option maxRecDepth 100000 in
set_option maxHeartbeats 4000000 in
theorem ideal30 (rsz rrp rver rep rrm : Int) (rsha rmd rwr : ByteArray) (ra : Option Addr) (rn rc : Nat) (rdm rpt : Bool) (hv pv kv : Value) (H P K : List ByteArray) (w : World) (hH : SL w hv H) (hP : SL w pv P) (hK : SL w kv K) (hPl : P.length ≤ 1048576) (hKl : K.length ≤ 1048576) (hS : ∀ s ∈ K, s.size ≤ maxLen)
    (ha : Option Addr) (hc : Nat) (hhv : hv = .slice ha H.length hc) :
    Calls Try.prog 30 #[.agg #[.int .i64 rsz, .string rsha, .string rmd, .int .i64 rrp, .slice ra rn rc, .int .i64 rver, .int .i64 rep, .int .i64 rrm, .string rwr, .bool rdm, .bool rpt], hv, pv, kv] w fun e w' => ∃ m, w.heap.size ≤ m ∧ e = .returned (.map (some m)) ∧ MapIs w' m K.length (fun s => (idealF rver rep ha H.length hc P K s).map Ans.val) ∧ Below w.heap.size w w' := by
  subst hhv
  obtain ⟨pa, pc, rfl⟩ := hP.slice
  obtain ⟨ka, kc, rfl⟩ := hK.slice
  have hmm := @run_makeMap Try.prog
  have HS : Hid (∀ s ∈ K, s.size ≤ maxLen) := hS
  clear hS
  go_enter Try.func30, Try.ntmps30
  go_wp2
  go_loopw [16] (fun i wr => ∃ k : Nat, k ≤ K.length ∧ i = .int .i64 k ∧ MapIs wr (w.heap.size + 1) k (fun s => (idealF rver rep ha H.length hc P (K.take k) s).map Ans.val) ∧ Below w.heap.size w wr ∧ wr.heap[w.heap.size]? = some (.cells #[.int .i64 rsz, .string rsha, .string rmd, .int .i64 rrp, .slice ra rn rc, .int .i64 rver, .int .i64 rep, .int .i64 rrm, .string rwr, .bool rdm, .bool rpt] 34 (0, 0))) (fun i _ => K.length - (intOf i).toNat)
  case atStart =>
    refine ⟨0, Nat.zero_le _, rfl, ?_, ((Below.refl _ _).alloc (Nat.le_refl _) _).alloc (by simp) _, ?_⟩
    · have := map_made (w.alloc (.cells #[.int .i64 rsz, .string rsha, .string rmd, .int .i64 rrp, .slice ra rn rc, .int .i64 rver, .int .i64 rep, .int .i64 rrm, .string rwr, .bool rdm, .bool rpt] 34))
      rw [List.take_zero, idealF_nil]
      simpa using this
    · rw [Below.heap_alloc _ _ _ (by simp)]
      exact heap_alloc_new w _
  case round =>
    obtain ⟨k, hk, rfl, hM, hbe, rblk⟩ := hrel
    by_cases hlt : k < K.length
    · obtain ⟨kb, ko, rfl, hkb, hkc⟩ := hK.at hlt
      have hkc' := (hbe.cell (p := ⟨kb, ko + k, none⟩) hkb).trans hkc
      clear hkc
      have c5 : wr.cell? ⟨w.heap.size, 5, none⟩ = some (.int .i64 rver) := by rw [cell_of_row wr _ 5 _ _ _ rblk]; rfl
      have c6 : wr.cell? ⟨w.heap.size, 6, none⟩ = some (.int .i64 rep) := by rw [cell_of_row wr _ 6 _ _ _ rblk]; rfl
      have hPr := hP.below hbe (Nat.le_refl _)
      go_upto_region 5 with fail
      have hPd : SL wr.drew (.slice pa P.length pc) P := hPr
      go_cut [12] (fun s12 wc => ∃ p, s12 = .pointer (some ⟨p, 0, none⟩) ∧ wr.heap.size ≤ p ∧ wc.heap[p]? = some (.cells #[.int .i64 0, .string ⟨#[]⟩, .string ⟨#[]⟩, .int .i64 0, .slice ha H.length hc, .int .i64 rver, .int .i64 rep, .int .i64 0, .string ⟨#[]⟩, .bool false, .bool (mem P K[k])] 46 (0, 0)) ∧ Below wr.heap.size wr wc)
      case first =>
        go_region_held3 (fun w' => w'.cell? ⟨w.heap.size, 5, none⟩ = some (.int .i64 rver) ∧ w'.cell? ⟨w.heap.size, 6, none⟩ = some (.int .i64 rep))
          (go_keep)
          (first
            | (go_at_call 12
               refine (member12 _ P K[k] _ (by first | exact hPd | exact hPd.below ((Below.refl _ _).alloc (Nat.le_refl _) _) (Nat.le_refl _)) hPl).mono ?_
               rintro e w' ⟨rfl, hw⟩
               subst w')
            | (go_at_call 36
               refine (mkRec36 _ _ _ _ _ _ _ _ _ _ _ _ _ _).mono ?_
               rintro e w' ⟨rfl, rfl⟩))
        all_goals
          go_wp2
          go_meet
          case rel =>
            first
              | exact ⟨wr.heap.size + 1, rfl, by omega, own_second wr _ _, below_two wr _ _⟩
              | exact ⟨wr.heap.size, rfl, by omega, own_first wr _ _, below_two wr _ _⟩
              | trace_state
      case rest =>
        obtain ⟨p, rfl, hp, pblk, hbc⟩ := hcut
        have p0 : wc.cell? ⟨p, 0, none⟩ = some (Value.int .i64 0) := by rw [cell_of_row wc _ 0 _ _ _ pblk]; rfl
        have p1 : wc.cell? ⟨p, 1, none⟩ = some (Value.string ⟨#[]⟩) := by rw [cell_of_row wc _ 1 _ _ _ pblk]; rfl
        have p2 : wc.cell? ⟨p, 2, none⟩ = some (Value.string ⟨#[]⟩) := by rw [cell_of_row wc _ 2 _ _ _ pblk]; rfl
        have p3 : wc.cell? ⟨p, 3, none⟩ = some (Value.int .i64 0) := by rw [cell_of_row wc _ 3 _ _ _ pblk]; rfl
        have p4 : wc.cell? ⟨p, 4, none⟩ = some (Value.slice ha H.length hc) := by rw [cell_of_row wc _ 4 _ _ _ pblk]; rfl
        have p5 : wc.cell? ⟨p, 5, none⟩ = some (Value.int .i64 rver) := by rw [cell_of_row wc _ 5 _ _ _ pblk]; rfl
        have p6 : wc.cell? ⟨p, 6, none⟩ = some (Value.int .i64 rep) := by rw [cell_of_row wc _ 6 _ _ _ pblk]; rfl
        have p7 : wc.cell? ⟨p, 7, none⟩ = some (Value.int .i64 0) := by rw [cell_of_row wc _ 7 _ _ _ pblk]; rfl
        have p8 : wc.cell? ⟨p, 8, none⟩ = some (Value.string ⟨#[]⟩) := by rw [cell_of_row wc _ 8 _ _ _ pblk]; rfl
        have p9 : wc.cell? ⟨p, 9, none⟩ = some (Value.bool false) := by rw [cell_of_row wc _ 9 _ _ _ pblk]; rfl
        have p10 : wc.cell? ⟨p, 10, none⟩ = some (Value.bool (mem P K[k])) := by rw [cell_of_row wc _ 10 _ _ _ pblk]; rfl
        have hMc := hM.below hbc hM.lt
        have HK : Hid (K[k].size ≤ maxLen) := HS.out _ (List.getElem_mem hlt)
        go_wp2_with fail
        refine (mkAns37 _ _ _ _ _ _ _ _ _ _ _ _ _ _ _ _ _ _).mono ?_
        rintro e w2 ⟨rfl, hb2⟩
        have hM2 := hMc.below hb2 hMc.lt
        obtain ⟨w3, hst, hM3, hg3⟩ := hM2.store (by unfold maxLen; omega) HK.out (idealA rver rep ha H.length hc P K[k]).val
        rw [idealF_snoc _ _ _ _ _ _ _ _ hlt] at hM3
        simp only [idealA, Ans.val] at hst
        have l2 : Below w.heap.size w w2 := (hbe.trans (hbc.mono hbe.size)).trans (hb2.mono (Nat.le_trans hbe.size hbc.size))
        have l3 : Below w.heap.size w w3 := l2.grown hg3 l2.size (fun q hq => by cases hq; omega)
        have hrb3 : w3.heap[w.heap.size]? = some (.cells #[.int .i64 rsz, .string rsha, .string rmd, .int .i64 rrp, .slice ra rn rc, .int .i64 rver, .int .i64 rep, .int .i64 rrm, .string rwr, .bool rdm, .bool rpt] 34 (0, 0)) := by
          have h0 := lt_of_block rblk
          rw [hg3.block _ (Nat.lt_of_lt_of_le h0 (Nat.le_trans hbc.size hb2.size)) (by simp), hb2.block _ (Nat.lt_of_lt_of_le h0 hbc.size), hbc.block _ h0]
          exact rblk
        clear hg3 hb2
        go_wp2
        go_roundw
        case rel => exact ⟨k + 1, by omega, by go_num, hM3, l3, hrb3⟩
        case measure => simp [intOf]; omega
    · obtain rfl : k = K.length := by omega
      rw [List.take_of_length_le (Nat.le_refl _)] at hM
      go_wp2
      go_ret
      exact ⟨w.heap.size + 1, by omega, rfl, hM, hbe⟩

end Go.Proofs.Qxb6617077a
