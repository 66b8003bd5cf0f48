import Derived.Test.Qxb6617077aFault
import Derived.Test.Qxb6617077aMiss
namespace Go.Proofs.Qxb6617077a
open Go.RowKit
set_option linter.unusedVariables false
set_option linter.unusedSimpArgs false

theorem wrap_i64_emod (n : Int) : ∃ q : Int, IntKind.i64.wrap n = n + q * 18446744073709551616 := by
  have : IntKind.i64.wrap n = n % 18446744073709551616 ∨ IntKind.i64.wrap n = n % 18446744073709551616 - 18446744073709551616 := by
    simp only [IntKind.wrap, IntKind.bits, IntKind.signed]
    simp
    omega
  rcases this with h | h
  · exact ⟨-(n / 18446744073709551616), by omega⟩
  · exact ⟨-(n / 18446744073709551616) - 1, by omega⟩
theorem xor_one (a : Nat) : (a ^^^ 1) % 2 = (a + 1) % 2 := by
  have h := Nat.testBit_xor a 1 0
  simp only [Nat.testBit_zero] at h
  have := Nat.mod_two_eq_zero_or_one a
  have := Nat.mod_two_eq_zero_or_one (a ^^^ 1)
  by_cases ha : a % 2 = 1 <;> by_cases hb : (a ^^^ 1) % 2 = 1 <;> simp [ha, hb] at h <;> omega
theorem flip_ne (x : Int) : flip x ≠ x := by
  intro h
  have h1 : flip x = IntKind.i64.wrap ((BitVec.ofInt 64 x ^^^ BitVec.ofInt 64 1).toNat : Int) := rfl
  rw [h1, BitVec.toNat_xor] at h
  obtain ⟨q, hq⟩ := wrap_i64_emod (((BitVec.ofInt 64 x).toNat ^^^ (BitVec.ofInt 64 1).toNat : Nat) : Int)
  rw [hq] at h
  have h2 : (BitVec.ofInt 64 x).toNat = (x % 18446744073709551616).toNat := by simp [BitVec.toNat_ofInt]
  have h3 : (BitVec.ofInt 64 1).toNat = 1 := by decide
  rw [h2, h3] at h
  have h4 := xor_one (x % 18446744073709551616).toNat
  omega

/-- The map with one entry changed. -/
def updA (f : ByteArray → Option Ans) (k : ByteArray) (x : Option Ans) (s : ByteArray) : Option Ans := if s = k then x else f s
theorem updA_val (f : ByteArray → Option Ans) (k : ByteArray) (x : Option Ans) : (fun s => (updA f k x s).map Ans.val) = upd (fun s => (f s).map Ans.val) k (x.map Ans.val) := by
  funext s
  by_cases e : s = k <;> simp [updA, upd, e]
def updL (H LX : List ByteArray) (k s : ByteArray) : List ByteArray := if s = k then LX else H
theorem sameL_self (A : List ByteArray) : sameL A A = true := by simp [sameL]
theorem sameL_more (A : List ByteArray) (x : ByteArray) : sameL (A ++ [x]) A = false := sameL_len (by simp)
theorem atA_some {f : ByteArray → Option Ans} {s : ByteArray} {x : Ans} (h : f s = some x) : atA f s = x := by simp [atA, h]
theorem idealF_in {V E : Int} {a : Option Addr} {n c : Nat} {P K : List ByteArray} {s : ByteArray} (h : s ∈ K) : idealF V E a n c P K s = some (idealA V E a n c P s) := by
  simp [idealF, mem_iff.2 h]
theorem ideal_ok (V E : Int) (H P : List ByteArray) (L : ByteArray → List ByteArray) (f : ByteArray → Option Ans) (s : ByteArray) (a : Option Addr) (n c : Nat) (h : f s = some (idealA V E a n c P s)) (hL : L s = H) : okA V E H P L f s = true := by
  unfold okA
  rw [atA_some h, hL, sameL_self]
  cases hp : mem P s <;> simp [okB, holdsB, idealA, hp]
/-- All entries but one are ideal: what that one answers. -/
theorem all_one (V E : Int) (H P : List ByteArray) (a : Option Addr) (n c : Nat) (addr : ByteArray) (x : Option Ans) (LX : List ByteArray) (hin : addr ∈ H ++ P) :
    (H ++ P).all (okA V E H P (updL H LX addr) (updA (idealF V E a n c P (H ++ P)) addr x)) =
      okB V E (mem P addr) (x.getD zeroAns).he (x.getD zeroAns).pt (x.getD zeroAns).dm (x.getD zeroAns).ver (x.getD zeroAns).ep (sameL LX H) := by
  have hat : okA V E H P (updL H LX addr) (updA (idealF V E a n c P (H ++ P)) addr x) addr = okB V E (mem P addr) (x.getD zeroAns).he (x.getD zeroAns).pt (x.getD zeroAns).dm (x.getD zeroAns).ver (x.getD zeroAns).ep (sameL LX H) := by
    simp [okA, atA, updA, updL]
  rw [← hat]
  have hoth : ∀ s ∈ H ++ P, s ≠ addr → okA V E H P (updL H LX addr) (updA (idealF V E a n c P (H ++ P)) addr x) s = true := fun s hs hne =>
    ideal_ok V E H P _ _ s a n c (by simp only [updA, hne, if_false]; exact idealF_in hs) (by simp [updL, hne])
  cases hb : okA V E H P (updL H LX addr) (updA (idealF V E a n c P (H ++ P)) addr x) addr with
  | true =>
    rw [List.all_eq_true]
    intro s hs
    by_cases e : s = addr
    · rw [e]; exact hb
    · exact hoth s hs e
  | false =>
    rw [List.all_eq_false]
    exact ⟨addr, hin, by rw [hb]; simp⟩
/-- What the changed map's lists read. -/
theorem reads_one {w : World} {V E : Int} {H P : List ByteArray} {a : Option Addr} {n c : Nat} {addr : ByteArray} {x : Option Ans} {LX : List ByteArray} (h : SL w (.slice a n c) H) (hx : SL w (x.getD zeroAns).hv LX) :
    ∀ s ∈ H ++ P, SL w (atA (updA (idealF V E a n c P (H ++ P)) addr x) s).hv (updL H LX addr s) := by
  intro s hs
  by_cases e : s = addr
  · subst e
    simpa [atA, updA, updL] using hx
  · have : atA (updA (idealF V E a n c P (H ++ P)) addr x) s = idealA V E a n c P s := atA_some (by simp only [updA, e, if_false]; exact idealF_in hs)
    have h2 : updL H LX addr s = H := by simp [updL, e]
    rw [this, h2]
    exact h
end Go.Proofs.Qxb6617077a
