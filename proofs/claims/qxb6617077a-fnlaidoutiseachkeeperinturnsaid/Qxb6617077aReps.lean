import Derived.Test.Qxb6617077aLaid
import Derived.Test.Qxb6617077aZz31
namespace Go.Proofs.Qxb6617077a
open Go.RowKit
set_option linter.unusedVariables false
set_option linter.unusedSimpArgs false

/-- A reply lies at b, o; its holders read L. -/
def RAt (w : World) (b o : Nat) (x : Ans) (L : List ByteArray) : Prop :=
  (w.cell? ⟨b, o, none⟩ = some (.string x.ad) ∧ w.cell? ⟨b, o + 1, none⟩ = some (.bool x.re) ∧ w.cell? ⟨b, o + 2, none⟩ = some (.bool x.he) ∧ w.cell? ⟨b, o + 3, none⟩ = some (.int .i64 x.sz) ∧ w.cell? ⟨b, o + 4, none⟩ = some (.string x.sha) ∧ w.cell? ⟨b, o + 5, none⟩ = some (.string x.md) ∧ w.cell? ⟨b, o + 6, none⟩ = some (.int .i64 x.rp) ∧ w.cell? ⟨b, o + 7, none⟩ = some (.slice x.a x.n x.c) ∧ w.cell? ⟨b, o + 8, none⟩ = some (.int .i64 x.ver) ∧ w.cell? ⟨b, o + 9, none⟩ = some (.int .i64 x.ep) ∧ w.cell? ⟨b, o + 10, none⟩ = some (.int .i64 x.rm) ∧ w.cell? ⟨b, o + 11, none⟩ = some (.string x.wr) ∧ w.cell? ⟨b, o + 12, none⟩ = some (.bool x.dm) ∧ w.cell? ⟨b, o + 13, none⟩ = some (.bool x.pt) ∧ w.cell? ⟨b, o + 14, none⟩ = some (.int .i64 x.fr)) ∧ SL w x.hv L
theorem RAt.below {B : Nat} {w w' : World} {b o : Nat} {x : Ans} {L : List ByteArray} (h : RAt w b o x L) (hlt : b < w.heap.size) (hb : Below B w w') (hB : w.heap.size ≤ B) : RAt w' b o x L := by
  obtain ⟨⟨d0, d1, d2, d3, d4, d5, d6, d7, d8, d9, d10, d11, d12, d13, d14⟩, hs⟩ := h
  have hc : ∀ j, w'.cell? ⟨b, j, none⟩ = w.cell? ⟨b, j, none⟩ := fun j => hb.cell (p := ⟨b, j, none⟩) (Nat.lt_of_lt_of_le hlt hB)
  exact ⟨⟨(hc _).trans d0, (hc _).trans d1, (hc _).trans d2, (hc _).trans d3, (hc _).trans d4, (hc _).trans d5, (hc _).trans d6, (hc _).trans d7, (hc _).trans d8, (hc _).trans d9, (hc _).trans d10, (hc _).trans d11, (hc _).trans d12, (hc _).trans d13, (hc _).trans d14⟩, hs.below hb hB⟩
/-- v is a slice of replies. -/
def RS (w : World) (v : Value) (rs : List (Ans × List ByteArray)) : Prop :=
  ∃ a c, v = .slice a rs.length c ∧ (rs = [] ∨ ∃ b o, a = some ⟨b, o, none⟩ ∧ b < w.heap.size ∧ ∀ k (h : k < rs.length), RAt w b (o + k * 15) rs[k].1 rs[k].2)
theorem RS.slice {w : World} {v : Value} {rs : List (Ans × List ByteArray)} (h : RS w v rs) : ∃ a c, v = .slice a rs.length c := by
  obtain ⟨a, c, hv, _⟩ := h
  exact ⟨a, c, hv⟩
theorem RS.below {B : Nat} {w w' : World} {v : Value} {rs : List (Ans × List ByteArray)} (h : RS w v rs) (hb : Below B w w') (hB : w.heap.size ≤ B) : RS w' v rs := by
  obtain ⟨a, c, hv, h⟩ := h
  refine ⟨a, c, hv, ?_⟩
  rcases h with h | ⟨b, o, ha, hlt, hc⟩
  · exact .inl h
  · exact .inr ⟨b, o, ha, Nat.lt_of_lt_of_le hlt hb.size, fun k hk => (hc k hk).below hlt hb hB⟩
theorem RS.at {w : World} {a : Option Addr} {n c : Nat} {rs : List (Ans × List ByteArray)} (h : RS w (.slice a n c) rs) {k : Nat} (hk : k < rs.length) :
    ∃ b o x L, a = some ⟨b, o, none⟩ ∧ b < w.heap.size ∧ Hid (rs[k] = (x, L)) ∧ RAt w b (o + k * 15) x L := by
  obtain ⟨a', c', hv, h⟩ := h
  simp only [Value.slice.injEq] at hv
  obtain ⟨rfl, rfl, rfl⟩ := hv
  rcases h with rfl | ⟨b, o, rfl, hb, hc⟩
  · simp at hk
  · exact ⟨b, o, rs[k].1, rs[k].2, rfl, hb, rfl, hc k hk⟩

set_option maxRecDepth 100000 in
set_option maxHeartbeats 4000000 in
theorem addReps24 (x : Int) (v : Value) (rs : List (Ans × List ByteArray)) (w : World) (h : RS w v rs) (hl : rs.length ≤ 4096) (HL : Hid (∀ r ∈ rs, r.2.length ≤ 1048576)) :
    Calls Try.prog 24 #[.int .i64 x, v] w fun e w' => GaveInt e ∧ Below w.heap.size w w' := by
  obtain ⟨a, c, rfl⟩ := h.slice
  go_enter Try.func24, Try.ntmps24
  go_wp2_with fail
  refine (addWords33 _ _ _).mono ?_
  rintro e w' ⟨⟨t, rfl⟩, hw⟩
  subst w'
  go_wp2
  go_loopw [0, 13] (fun nv i wr => ∃ (k : Nat) (y : Int), k ≤ rs.length ∧ i = .int .i64 k ∧ nv = .int .i64 y ∧ Below w.heap.size w wr) (fun _ i _ => rs.length - (intOf i).toNat)
  case atStart => exact ⟨0, _, Nat.zero_le _, rfl, rfl, Below.refl _ _⟩
  case round =>
    obtain ⟨k, y, hk, rfl, rfl, hb⟩ := hrel
    by_cases hlt : k < rs.length
    · obtain ⟨b, o, r, L, hx, hblt, hr, hR⟩ := h.at hlt
      subst hx
      have hLl : L.length ≤ 1048576 := by
        have := HL.out _ (List.getElem_mem hlt)
        rw [hr.out] at this
        exact this
      clear hr
      obtain ⟨⟨d0, d1, d2, d3, d4, d5, d6, d7, d8, d9, d10, d11, d12, d13, d14⟩, hs⟩ := hR.below hblt hb (Nat.le_refl _)
      have hs' : SL (wr.alloc (.cells #[.string r.ad, .bool r.re, .bool r.he, .int .i64 r.sz, .string r.sha, .string r.md, .int .i64 r.rp, .slice r.a r.n r.c, .int .i64 r.ver, .int .i64 r.ep, .int .i64 r.rm, .string r.wr, .bool r.dm, .bool r.pt, .int .i64 r.fr] 53)) r.hv L := hs.below ((Below.refl _ _).alloc (Nat.le_refl _) _) (Nat.le_refl _)
      have hb' : Below w.heap.size w (wr.alloc (.cells #[.string r.ad, .bool r.re, .bool r.he, .int .i64 r.sz, .string r.sha, .string r.md, .int .i64 r.rp, .slice r.a r.n r.c, .int .i64 r.ver, .int .i64 r.ep, .int .i64 r.rm, .string r.wr, .bool r.dm, .bool r.pt, .int .i64 r.fr] 53)) := hb.alloc hb.size _
      by_cases hq : 1048576 < y
      · go_wp2
        go_ret
        exact ⟨⟨_, rfl⟩, hb'⟩
      go_wp2_with fail
      refine (addLen18 _ _ _).mono ?_
      rintro e w' ⟨⟨t3, rfl⟩, hw⟩
      subst w'
      go_wp2_with fail
      refine (addRec23 _ _ _ _ _ _ _ _ _ _ _ _ _ _ L _ hs' hLl).mono ?_
      rintro e w2 ⟨⟨t4, rfl⟩, b2⟩
      go_wp2
      go_roundw
      case rel => exact ⟨k + 1, _, by omega, by go_num, rfl, hb'.trans (b2.mono hb'.size)⟩
      case measure => simp [intOf]; omega
    · go_wp2
      go_ret
      exact ⟨⟨_, rfl⟩, hb⟩

end Go.Proofs.Qxb6617077a
