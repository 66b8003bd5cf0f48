import Derived.Test.Qxb6617077aOpen
import Derived.Test.Qxb6617077aReps
import Derived.Deep.Slices
namespace Go.Proofs.Qxb6617077a
open Go.ChangeShapes Go.WideShapes Go.ChangeAt Go.RowKit
set_option linter.unusedVariables false
set_option linter.unusedSimpArgs false

def Ans.cells (x : Ans) : List Value := [.string x.ad, .bool x.re, .bool x.he, .int .i64 x.sz, .string x.sha, .string x.md, .int .i64 x.rp, .slice x.a x.n x.c, .int .i64 x.ver, .int .i64 x.ep, .int .i64 x.rm, .string x.wr, .bool x.dm, .bool x.pt, .int .i64 x.fr]
theorem list_of {α : Type} (p : Nat → α → Prop) : ∀ (n : Nat), (∀ i, i < n → ∃ x, p i x) → ∃ l : List α, l.length = n ∧ ∀ k (hk : k < l.length), p k l[k]
  | 0, _ => ⟨[], rfl, fun k hk => by simp at hk⟩
  | n + 1, h => by
    obtain ⟨l, hl, hp⟩ := list_of p n (fun i hi => h i (by omega))
    obtain ⟨x, hx⟩ := h n (by omega)
    refine ⟨l ++ [x], by simp [hl], fun k hk => ?_⟩
    by_cases e : k < l.length
    · rw [List.getElem_append_left e]
      exact hp k e
    · have hk' : k = n := by rw [List.length_append, List.length_singleton] at hk; omega
      subst hk'
      rw [List.getElem_append_right (by omega)]
      simpa using hx
theorem addr_add {b o j : Nat} : (Addr.mk b o none).add j = ⟨b, o + j, none⟩ := by
  unfold Addr.add
  split
  · rename_i e; rw [e]; rfl
  · rfl
theorem addr_add' {x : Addr} {j : Nat} (h : x.spot = none ∨ 0 < j) : x.add j = ⟨x.block, x.off + j, none⟩ := by
  unfold Addr.add
  split
  · rename_i e
    rcases h with h | h
    · rw [e]; cases x; simp_all
    · omega
  · rfl
section
variable {H : Type} {enc : TypeId × Value → H} {W : World} {n : Nat} {cs : List Value} {y : DataW H × List MemPlace}
theorem reps_open (h : DataW.trod enc Try.prog W 0 (fun _ => true) true n 35 cs = some y) : ∃ (a : Option Addr) (c : Nat) (rs : List (Ans × List ByteArray)), cs = [.slice a rs.length c] ∧ RS W (.slice a rs.length c) rs := by
  rcases Go.Deep.open_slice Try.underlying35 h with ⟨hcs, _⟩ | ⟨a, len, cap, m, k, D, Pl, hcs, _, hlc, _, hm, _, hel⟩
  · exact ⟨none, 0, [], hcs, ⟨_, _, rfl, .inl rfl⟩⟩
  · have hm' : m = cap := by simpa using hm
    rw [k53] at hel
    have hcell : ∀ i, i < len → ∃ (p : Ans × List ByteArray), (∀ j, j < 15 → W.cell? ((a.add (i * 15)).add j) = (Ans.cells p.1)[j]?) ∧ SL W p.1.hv p.2 := by
      intro i hi
      obtain ⟨cs', hc', ht'⟩ := hel i (by omega)
      obtain ⟨nad, nre, nhe, nfr, nsz, nrp, nver, nep, nrm, nsha, nmd, nwr, na, nc, ndm, npt, LN, e4, sN⟩ := ans_open ht'
      have hs := (World.cells?_some hc').2.2
      refine ⟨(⟨nad, nre, nhe, nfr, nsz, nrp, nver, nep, nrm, nsha, nmd, nwr, na, LN.length, nc, ndm, npt⟩, LN), fun j hj => ?_, sN⟩
      rw [hs j hj, e4]
      rfl
    rcases Nat.eq_zero_or_pos len with h0 | h0
    · subst h0
      exact ⟨some a, cap, [], hcs, ⟨_, _, rfl, .inl rfl⟩⟩
    have hsp : a.spot = none := by
      obtain ⟨p, hp, _⟩ := hcell 0 h0
      have hc0 := hp 0 (by omega)
      cases hx : a.spot with
      | none => rfl
      | some q =>
        exfalso
        simp only [Nat.zero_mul, Addr.add, if_true, World.cell?, hx, Ans.cells] at hc0
        split at hc0 <;> simp at hc0
    have hlt : a.block < W.heap.size := by
      obtain ⟨p, hp, _⟩ := hcell 0 h0
      have hc0 := hp 0 (by omega)
      rw [Nat.zero_mul, addr_add' (.inl hsp), addr_add] at hc0
      have hc1 : W.cell? ⟨a.block, a.off + 0 + 0, none⟩ = some (.string p.1.ad) := hc0
      exact World.block_lt_of_cell? W ⟨a.block, a.off + 0 + 0, none⟩ hc1
    have hR : ∀ i, i < len → ∃ p : Ans × List ByteArray, RAt W a.block (a.off + i * 15) p.1 p.2 := by
      intro i hi
      obtain ⟨p, hp, hs⟩ := hcell i hi
      rw [addr_add' (.inl hsp)] at hp
      have hq : ∀ j, j < 15 → W.cell? ⟨a.block, a.off + i * 15 + j, none⟩ = (Ans.cells p.1)[j]? := fun j hj => by
        rw [← addr_add]
        exact hp j hj
      exact ⟨p, ⟨hq 0 (by omega), hq 1 (by omega), hq 2 (by omega), hq 3 (by omega), hq 4 (by omega), hq 5 (by omega), hq 6 (by omega), hq 7 (by omega), hq 8 (by omega), hq 9 (by omega), hq 10 (by omega), hq 11 (by omega), hq 12 (by omega), hq 13 (by omega), hq 14 (by omega)⟩, hs⟩
    obtain ⟨rs, hrl, hrs⟩ := list_of (fun i (p : Ans × List ByteArray) => RAt W a.block (a.off + i * 15) p.1 p.2) len hR
    refine ⟨some a, cap, rs, by rw [hrl]; exact hcs, ⟨_, _, rfl, .inr ⟨a.block, a.off, ?_, hlt, hrs⟩⟩⟩
    cases a
    simp_all
end
end Go.Proofs.Qxb6617077a
