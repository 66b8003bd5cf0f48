import Derived.Test.Qxb6617077aZz31
import Derived.ProofKit
import Derived.OpenShut
import Derived.ShutString
import Derived.ChangeOld
import Derived.Below
import Derived.SliceStrings
namespace Go.Proofs.Qxb6617077a
open Go.ChangeShapes Go.WideShapes Go.ChangeAt Go.RowKit
set_option linter.unusedVariables false
set_option linter.unusedSimpArgs false

theorem k2 : Try.prog.cellsOf 2 = 1 := by kernel_rfl
theorem k3 : Try.prog.cellsOf 3 = 1 := by kernel_rfl
theorem k4 : Try.prog.cellsOf 4 = 1 := by kernel_rfl
theorem k9 : Try.prog.cellsOf 9 = 1 := by kernel_rfl
theorem k22 : Try.prog.cellsOf 22 = 1 := by kernel_rfl
theorem k34 : Try.prog.cellsOf 34 = 11 := by kernel_rfl
theorem k53 : Try.prog.cellsOf 53 = 15 := by kernel_rfl
theorem list11 {α : Type} {cs : List α} (h : cs.length = 11) : ∃ c0 c1 c2 c3 c4 c5 c6 c7 c8 c9 c10, cs = [c0, c1, c2, c3, c4, c5, c6, c7, c8, c9, c10] := by
  match cs, h with
  | [c0, c1, c2, c3, c4, c5, c6, c7, c8, c9, c10], _ => exact ⟨c0, c1, c2, c3, c4, c5, c6, c7, c8, c9, c10, rfl⟩
theorem list15 {α : Type} {cs : List α} (h : cs.length = 15) : ∃ c0 c1 c2 c3 c4 c5 c6 c7 c8 c9 c10 c11 c12 c13 c14, cs = [c0, c1, c2, c3, c4, c5, c6, c7, c8, c9, c10, c11, c12, c13, c14] := by
  match cs, h with
  | [c0, c1, c2, c3, c4, c5, c6, c7, c8, c9, c10, c11, c12, c13, c14], _ => exact ⟨c0, c1, c2, c3, c4, c5, c6, c7, c8, c9, c10, c11, c12, c13, c14, rfl⟩
theorem got {α : Type} {xs : List α} {n i : Nat} (h : xs.length = n) (hi : i < n) : ∃ y, xs[i]? = some y := ⟨_, List.getElem?_eq_getElem (by omega)⟩

section
variable {H : Type} {enc : TypeId × Value → H} {W : World} {n : Nat} {cs : List Value} {y : DataW H × List MemPlace}

/-- The reading of a slice of strings, as the walks are told of it. -/
theorem strs_open (h : DataW.trod enc Try.prog W 0 (fun _ => true) true n 22 cs = some y) : ∃ (a : Option Addr) (c : Nat) (ls : List ByteArray), cs = [.slice a ls.length c] ∧ SL W (.slice a ls.length c) ls ∧ ∀ s ∈ ls, s.size ≤ maxLen := by
  rcases open_strings Try.underlying22 Try.underlying9 (by kernel_rfl) h with ⟨hcs, _⟩ | ⟨x, l, c, ss, hcs, _, hl, hm, hz, _, hcell, hs⟩
  · exact ⟨none, 0, [], hcs, SL.nil _, fun s hs => by cases hs⟩
  · have hz' : ss.length = c := by simpa using hz
    have htl : (ss.take l).length = l := by rw [List.length_take]; omega
    refine ⟨some x, c, ss.take l, by rw [htl]; exact hcs, ⟨_, _, rfl, (fun h => by cases h), ?_⟩, fun s hs' => hs s (List.mem_of_mem_take hs')⟩
    by_cases h0 : ss.take l = []
    · exact .inl h0
    · have hpos : 0 < l := by
        rcases Nat.eq_zero_or_pos l with e | e
        · exact absurd (by rw [e]; rfl) h0
        · exact e
      have hc0 := hcell 0 (by omega)
      have hsp : x.spot = none := by
        cases hx : x.spot with
        | none => rfl
        | some q =>
          exfalso
          simp only [Addr.add, if_true, World.cell?, hx] at hc0
          split at hc0 <;> simp at hc0
      obtain ⟨b, off, sp⟩ := x
      simp only at hsp
      subst hsp
      refine .inr ⟨b, off, rfl, World.block_lt_of_cell? W _ hc0, fun j hj => ?_⟩
      rw [htl] at hj
      have := hcell j (by omega)
      have ha : (Addr.mk b off none).add j = ⟨b, off + j, none⟩ := by
        unfold Addr.add
        split
        · rename_i e; rw [e]; rfl
        · rfl
      rw [ha] at this
      rw [this]
      simp [List.getD, show j < ss.length by omega]
set_option maxHeartbeats 2000000 in
theorem rec_open (h : DataW.trod enc Try.prog W 0 (fun _ => true) true n 34 cs = some y) :
    ∃ (rsz rrp rver rep rrm : Int) (rsha rmd rwr : ByteArray) (ra : Option Addr) (rc : Nat) (rdm rpt : Bool) (LR : List ByteArray), cs = [.int .i64 rsz, .string rsha, .string rmd, .int .i64 rrp, .slice ra LR.length rc, .int .i64 rver, .int .i64 rep, .int .i64 rrm, .string rwr, .bool rdm, .bool rpt] ∧ SL W (.slice ra LR.length rc) LR := by
  obtain ⟨xs, m, _, _, hl, hlen, hf⟩ := DataW.trod_struct Try.underlying34 h
  obtain ⟨c0, c1, c2, c3, c4, c5, c6, c7, c8, c9, c10, rfl⟩ := list11 (hl.trans k34)
  have hlen' : xs.length = 11 := hlen
  clear hlen hl h
  obtain ⟨y0, hy0⟩ := got (i := 0) hlen' (by decide)
  have f0 : DataW.trod enc Try.prog W 0 (fun _ => true) true m 2 (List.take (Try.prog.cellsOf 2) (List.drop 0 _)) = some y0 := (hf 0 _ rfl).trans hy0
  simp only [k2, List.drop_succ_cons, List.drop_zero, List.take_succ_cons, List.take_zero] at f0
  obtain ⟨rsz, e0, _, _⟩ := DataW.trod_int Try.underlying2 f0
  obtain ⟨rfl, _⟩ := List.cons.inj e0
  clear f0 hy0
  obtain ⟨y1, hy1⟩ := got (i := 1) hlen' (by decide)
  have f1 : DataW.trod enc Try.prog W 0 (fun _ => true) true m 9 (List.take (Try.prog.cellsOf 9) (List.drop 1 _)) = some y1 := (hf 1 _ rfl).trans hy1
  simp only [k9, List.drop_succ_cons, List.drop_zero, List.take_succ_cons, List.take_zero] at f1
  obtain ⟨rsha, e1, _, _⟩ := DataW.trod_string Try.underlying9 f1
  obtain ⟨rfl, _⟩ := List.cons.inj e1
  clear f1 hy1
  obtain ⟨y2, hy2⟩ := got (i := 2) hlen' (by decide)
  have f2 : DataW.trod enc Try.prog W 0 (fun _ => true) true m 9 (List.take (Try.prog.cellsOf 9) (List.drop 2 _)) = some y2 := (hf 2 _ rfl).trans hy2
  simp only [k9, List.drop_succ_cons, List.drop_zero, List.take_succ_cons, List.take_zero] at f2
  obtain ⟨rmd, e2, _, _⟩ := DataW.trod_string Try.underlying9 f2
  obtain ⟨rfl, _⟩ := List.cons.inj e2
  clear f2 hy2
  obtain ⟨y3, hy3⟩ := got (i := 3) hlen' (by decide)
  have f3 : DataW.trod enc Try.prog W 0 (fun _ => true) true m 3 (List.take (Try.prog.cellsOf 3) (List.drop 3 _)) = some y3 := (hf 3 _ rfl).trans hy3
  simp only [k3, List.drop_succ_cons, List.drop_zero, List.take_succ_cons, List.take_zero] at f3
  obtain ⟨rrp, e3, _, _⟩ := DataW.trod_int Try.underlying3 f3
  obtain ⟨rfl, _⟩ := List.cons.inj e3
  clear f3 hy3
  obtain ⟨y4, hy4⟩ := got (i := 4) hlen' (by decide)
  have f4 : DataW.trod enc Try.prog W 0 (fun _ => true) true m 22 (List.take (Try.prog.cellsOf 22) (List.drop 4 _)) = some y4 := (hf 4 _ rfl).trans hy4
  simp only [k22, List.drop_succ_cons, List.drop_zero, List.take_succ_cons, List.take_zero] at f4
  obtain ⟨ra, rc, LR, e4, hsl, _⟩ := strs_open f4
  obtain ⟨rfl, _⟩ := List.cons.inj e4
  clear f4 hy4
  obtain ⟨y5, hy5⟩ := got (i := 5) hlen' (by decide)
  have f5 : DataW.trod enc Try.prog W 0 (fun _ => true) true m 2 (List.take (Try.prog.cellsOf 2) (List.drop 5 _)) = some y5 := (hf 5 _ rfl).trans hy5
  simp only [k2, List.drop_succ_cons, List.drop_zero, List.take_succ_cons, List.take_zero] at f5
  obtain ⟨rver, e5, _, _⟩ := DataW.trod_int Try.underlying2 f5
  obtain ⟨rfl, _⟩ := List.cons.inj e5
  clear f5 hy5
  obtain ⟨y6, hy6⟩ := got (i := 6) hlen' (by decide)
  have f6 : DataW.trod enc Try.prog W 0 (fun _ => true) true m 2 (List.take (Try.prog.cellsOf 2) (List.drop 6 _)) = some y6 := (hf 6 _ rfl).trans hy6
  simp only [k2, List.drop_succ_cons, List.drop_zero, List.take_succ_cons, List.take_zero] at f6
  obtain ⟨rep, e6, _, _⟩ := DataW.trod_int Try.underlying2 f6
  obtain ⟨rfl, _⟩ := List.cons.inj e6
  clear f6 hy6
  obtain ⟨y7, hy7⟩ := got (i := 7) hlen' (by decide)
  have f7 : DataW.trod enc Try.prog W 0 (fun _ => true) true m 2 (List.take (Try.prog.cellsOf 2) (List.drop 7 _)) = some y7 := (hf 7 _ rfl).trans hy7
  simp only [k2, List.drop_succ_cons, List.drop_zero, List.take_succ_cons, List.take_zero] at f7
  obtain ⟨rrm, e7, _, _⟩ := DataW.trod_int Try.underlying2 f7
  obtain ⟨rfl, _⟩ := List.cons.inj e7
  clear f7 hy7
  obtain ⟨y8, hy8⟩ := got (i := 8) hlen' (by decide)
  have f8 : DataW.trod enc Try.prog W 0 (fun _ => true) true m 9 (List.take (Try.prog.cellsOf 9) (List.drop 8 _)) = some y8 := (hf 8 _ rfl).trans hy8
  simp only [k9, List.drop_succ_cons, List.drop_zero, List.take_succ_cons, List.take_zero] at f8
  obtain ⟨rwr, e8, _, _⟩ := DataW.trod_string Try.underlying9 f8
  obtain ⟨rfl, _⟩ := List.cons.inj e8
  clear f8 hy8
  obtain ⟨y9, hy9⟩ := got (i := 9) hlen' (by decide)
  have f9 : DataW.trod enc Try.prog W 0 (fun _ => true) true m 4 (List.take (Try.prog.cellsOf 4) (List.drop 9 _)) = some y9 := (hf 9 _ rfl).trans hy9
  simp only [k4, List.drop_succ_cons, List.drop_zero, List.take_succ_cons, List.take_zero] at f9
  obtain ⟨rdm, e9, _⟩ := DataW.trod_bool Try.underlying4 f9
  obtain ⟨rfl, _⟩ := List.cons.inj e9
  clear f9 hy9
  obtain ⟨y10, hy10⟩ := got (i := 10) hlen' (by decide)
  have f10 : DataW.trod enc Try.prog W 0 (fun _ => true) true m 4 (List.take (Try.prog.cellsOf 4) (List.drop 10 _)) = some y10 := (hf 10 _ rfl).trans hy10
  simp only [k4, List.drop_succ_cons, List.drop_zero, List.take_succ_cons, List.take_zero] at f10
  obtain ⟨rpt, e10, _⟩ := DataW.trod_bool Try.underlying4 f10
  obtain ⟨rfl, _⟩ := List.cons.inj e10
  clear f10 hy10
  exact ⟨rsz, rrp, rver, rep, rrm, rsha, rmd, rwr, ra, rc, rdm, rpt, LR, rfl, hsl⟩
set_option maxHeartbeats 2000000 in
theorem ans_open (h : DataW.trod enc Try.prog W 0 (fun _ => true) true n 53 cs = some y) :
    ∃ (nad : ByteArray) (nre nhe : Bool) (nfr : Int) (nsz nrp nver nep nrm : Int) (nsha nmd nwr : ByteArray) (na : Option Addr) (nc : Nat) (ndm npt : Bool) (LN : List ByteArray), cs = [.string nad, .bool nre, .bool nhe, .int .i64 nsz, .string nsha, .string nmd, .int .i64 nrp, .slice na LN.length nc, .int .i64 nver, .int .i64 nep, .int .i64 nrm, .string nwr, .bool ndm, .bool npt, .int .i64 nfr] ∧ SL W (.slice na LN.length nc) LN := by
  obtain ⟨xs, m, _, _, hl, hlen, hf⟩ := DataW.trod_struct Try.underlying53 h
  obtain ⟨c0, c1, c2, c3, c4, c5, c6, c7, c8, c9, c10, c11, c12, c13, c14, rfl⟩ := list15 (hl.trans k53)
  have hlen' : xs.length = 5 := hlen
  clear hlen hl h
  obtain ⟨y0, hy0⟩ := got (i := 0) hlen' (by decide)
  have f0 : DataW.trod enc Try.prog W 0 (fun _ => true) true m 9 (List.take (Try.prog.cellsOf 9) (List.drop 0 _)) = some y0 := (hf 0 _ rfl).trans hy0
  simp only [k9, List.drop_succ_cons, List.drop_zero, List.take_succ_cons, List.take_zero] at f0
  obtain ⟨nad, e0, _, _⟩ := DataW.trod_string Try.underlying9 f0
  obtain ⟨rfl, _⟩ := List.cons.inj e0
  clear f0 hy0
  obtain ⟨y1, hy1⟩ := got (i := 1) hlen' (by decide)
  have f1 : DataW.trod enc Try.prog W 0 (fun _ => true) true m 4 (List.take (Try.prog.cellsOf 4) (List.drop 1 _)) = some y1 := (hf 1 _ rfl).trans hy1
  simp only [k4, List.drop_succ_cons, List.drop_zero, List.take_succ_cons, List.take_zero] at f1
  obtain ⟨nre, e1, _⟩ := DataW.trod_bool Try.underlying4 f1
  obtain ⟨rfl, _⟩ := List.cons.inj e1
  clear f1 hy1
  obtain ⟨y2, hy2⟩ := got (i := 2) hlen' (by decide)
  have f2 : DataW.trod enc Try.prog W 0 (fun _ => true) true m 4 (List.take (Try.prog.cellsOf 4) (List.drop 2 _)) = some y2 := (hf 2 _ rfl).trans hy2
  simp only [k4, List.drop_succ_cons, List.drop_zero, List.take_succ_cons, List.take_zero] at f2
  obtain ⟨nhe, e2, _⟩ := DataW.trod_bool Try.underlying4 f2
  obtain ⟨rfl, _⟩ := List.cons.inj e2
  clear f2 hy2
  obtain ⟨y3, hy3⟩ := got (i := 3) hlen' (by decide)
  have f3 : DataW.trod enc Try.prog W 0 (fun _ => true) true m 34 (List.take (Try.prog.cellsOf 34) (List.drop 3 _)) = some y3 := (hf 3 _ rfl).trans hy3
  simp only [k34, List.drop_succ_cons, List.drop_zero, List.take_succ_cons, List.take_zero] at f3
  obtain ⟨nsz, nrp, nver, nep, nrm, nsha, nmd, nwr, na, nc, ndm, npt, LN, e3, hsl⟩ := rec_open f3
  simp only [List.cons.injEq, and_true] at e3
  obtain ⟨rfl, rfl, rfl, rfl, rfl, rfl, rfl, rfl, rfl, rfl, rfl⟩ := e3
  clear f3 hy3
  obtain ⟨y4, hy4⟩ := got (i := 4) hlen' (by decide)
  have f4 : DataW.trod enc Try.prog W 0 (fun _ => true) true m 2 (List.take (Try.prog.cellsOf 2) (List.drop 14 _)) = some y4 := (hf 4 _ rfl).trans hy4
  simp only [k2, List.drop_succ_cons, List.drop_zero, List.take_succ_cons, List.take_zero] at f4
  obtain ⟨nfr, e4, _, _⟩ := DataW.trod_int Try.underlying2 f4
  obtain ⟨rfl, _⟩ := List.cons.inj e4
  clear f4 hy4
  exact ⟨nad, nre, nhe, nfr, nsz, nrp, nver, nep, nrm, nsha, nmd, nwr, na, nc, ndm, npt, LN, rfl, hsl⟩
end
end Go.Proofs.Qxb6617077a
