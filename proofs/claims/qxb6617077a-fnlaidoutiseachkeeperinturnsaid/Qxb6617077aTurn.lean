import Derived.Test.Qxb6617077aFlip
namespace Go.Proofs.Qxb6617077a
open Go.RowKit
set_option linter.unusedVariables false
set_option linter.unusedSimpArgs false

/-- The answers and the lists of a map of answers with their lists. -/
def fstA (F : ByteArray → Option (Ans × List ByteArray)) (s : ByteArray) : Option Ans := (F s).map (·.1)
def sndL (F : ByteArray → Option (Ans × List ByteArray)) (s : ByteArray) : List ByteArray := ((F s).map (·.2)).getD []
def put (F : ByteArray → Option (Ans × List ByteArray)) (k : ByteArray) (p : Ans × List ByteArray) (s : ByteArray) : Option (Ans × List ByteArray) := if s = k then some p else F s
theorem put_val (F : ByteArray → Option (Ans × List ByteArray)) (k : ByteArray) (p : Ans × List ByteArray) : (fun s => (fstA (put F k p) s).map Ans.val) = upd (fun s => (fstA F s).map Ans.val) k (some p.1.val) := by
  funext s
  by_cases e : s = k <;> simp [fstA, put, upd, e]
theorem reads_F {w : World} {F : ByteArray → Option (Ans × List ByteArray)} (h : ∀ s p, F s = some p → SL w p.1.hv p.2) (s : ByteArray) : SL w (atA (fstA F) s).hv (sndL F s) := by
  unfold atA fstA sndL
  cases hF : F s with
  | none => exact SL.nil _
  | some p => exact h s p hF
theorem reads_put {w : World} {F : ByteArray → Option (Ans × List ByteArray)} (h : ∀ s p, F s = some p → SL w p.1.hv p.2) {k : ByteArray} {p : Ans × List ByteArray} (hp : SL w p.1.hv p.2) : ∀ s q, put F k p s = some q → SL w q.1.hv q.2 := by
  intro s q hq
  by_cases e : s = k
  · simp only [put, e, if_true, Option.some.injEq] at hq
    subst hq
    exact hp
  · simp only [put, e, if_false] at hq
    exact h s q hq
theorem all_agree {V E : Int} {H P : List ByteArray} {F G : ByteArray → Option (Ans × List ByteArray)} (h : ∀ s ∈ H ++ P, G s = F s) :
    (H ++ P).all (okA V E H P (sndL G) (fstA G)) = (H ++ P).all (okA V E H P (sndL F) (fstA F)) := by
  have hs : ∀ s ∈ H ++ P, okA V E H P (sndL G) (fstA G) s = okA V E H P (sndL F) (fstA F) s := fun s hs => by
    unfold okA atA fstA sndL
    rw [h s hs]
  rw [Bool.eq_iff_iff, List.all_eq_true, List.all_eq_true]
  exact ⟨fun h' s hs' => by rw [← hs s hs']; exact h' s hs', fun h' s hs' => by rw [hs s hs']; exact h' s hs'⟩
theorem turn_one (V E : Int) (H P : List ByteArray) (a : Option Addr) (n c : Nat) (addr : ByteArray) (F : ByteArray → Option (Ans × List ByteArray)) (hin : addr ∈ H ++ P) :
    (H ++ P).all (okA V E H P (updL H (sndL F addr) addr) (updA (idealF V E a n c P (H ++ P)) addr (fstA F addr))) = okA V E H P (sndL F) (fstA F) addr := by
  rw [all_one _ _ _ _ _ _ _ _ _ _ hin]
  rfl
theorem ideal_all (V E : Int) (H P : List ByteArray) (a : Option Addr) (n c : Nat) : (H ++ P).all (okA V E H P (fun _ => H) (idealF V E a n c P (H ++ P))) = true := by
  rw [List.all_eq_true]
  intro s hs
  exact ideal_ok V E H P _ _ s a n c (idealF_in hs) rfl
theorem reads_ideal {w : World} {V E : Int} {H P : List ByteArray} {a : Option Addr} {n c : Nat} (h : SL w (.slice a n c) H) : ∀ s ∈ H ++ P, SL w (atA (idealF V E a n c P (H ++ P)) s).hv ((fun _ => H) s) := by
  intro s hs
  rw [atA_some (idealF_in hs)]
  exact h
theorem agree_both {K : List ByteArray} {F G : ByteArray → Option (Ans × List ByteArray)} (h : ∀ s ∈ K, G s = F s) (k : ByteArray) (p : Ans × List ByteArray) : ∀ s ∈ K, put G k p s = put F k p s := by
  intro s hs
  unfold put
  rw [h s hs]
theorem agree_out {K : List ByteArray} {F G : ByteArray → Option (Ans × List ByteArray)} (h : ∀ s ∈ K, G s = F s) (k : ByteArray) (p : Ans × List ByteArray) (hk : mem K k = false) : ∀ s ∈ K, G s = put F k p s := by
  intro s hs
  have : s ≠ k := fun e => by
    rw [← e, mem_iff.2 hs] at hk
    cases hk
  simp only [put, this, if_false]
  exact h s hs
theorem all_take_succ {K : List ByteArray} {p : ByteArray → Bool} {k : Nat} (hk : k < K.length) : (K.take (k + 1)).all p = ((K.take k).all p && p K[k]) := by
  rw [List.take_succ_eq_append_getElem hk, List.all_append]
  simp
end Go.Proofs.Qxb6617077a
