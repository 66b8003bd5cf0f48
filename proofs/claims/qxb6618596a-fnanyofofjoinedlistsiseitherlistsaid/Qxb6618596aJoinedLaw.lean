import Derived.Test.Qxb6618596aJoined
namespace Go.Proofs.Qxb6618596a
open Go.RowKit

set_option maxRecDepth 100000 in
set_option maxHeartbeats 1000000 in
theorem law4_no (a b : Option Addr) (la ca lb cb : Nat) (sa sb : List ByteArray) (t : ByteArray) (w : World) (ha : IsStrs w a la ca sa) (hb : IsStrs w b lb cb sb)
    (hno : 65536 < la ∨ (la ≤ 65536 ∧ 65536 < lb) ∨ (la ≤ 65536 ∧ lb ≤ 65536 ∧ 4096 < t.size)) :
    Calls Try.prog 4 #[.slice a la ca, .slice b lb cb, .string t] w fun e w' => e = .returned (.bool true) ∧ Below w.heap.size w w' := by
  rcases hno with h1 | ⟨h1, h2⟩ | ⟨h1, h2, h3⟩
  all_goals
    go_enter Try.func4, Try.ntmps4
    go_wp2_with fail
    refine (zz13 a b la ca lb cb sa sb t w ha hb).mono ?_
    rintro e w' ⟨⟨r, rfl⟩, hw⟩
    subst w'
    cases r
    · go_wp2
      go_ret
      exact ⟨rfl, Below.refl _ _⟩
    · go_wp2
      go_ret
      exact ⟨rfl, Below.refl _ _⟩

theorem law4 (a b : Option Addr) (la ca lb cb : Nat) (sa sb : List ByteArray) (t : ByteArray) (w : World) (ha : IsStrs w a la ca sa) (hb : IsStrs w b lb cb sb) :
    Calls Try.prog 4 #[.slice a la ca, .slice b lb cb, .string t] w fun e w' => e = .returned (.bool true) ∧ Below w.heap.size w w' := by
  by_cases h1 : la ≤ 65536
  · by_cases h2 : lb ≤ 65536
    · by_cases h3 : t.size ≤ 4096
      · have ea := ha.take_len
        have eb := hb.take_len
        obtain ⟨A, hA⟩ : ∃ A, sa.take la = A := ⟨_, rfl⟩
        obtain ⟨B, hB⟩ : ∃ B, sb.take lb = B := ⟨_, rfl⟩
        rw [hA] at ea
        rw [hB] at eb
        subst ea eb
        exact law4_yes a b ca cb sa sb A B t w ha hb hA hB h1 h2 h3
      · exact law4_no a b la ca lb cb sa sb t w ha hb (.inr (.inr ⟨h1, h2, by omega⟩))
    · exact law4_no a b la ca lb cb sa sb t w ha hb (.inr (.inl ⟨h1, by omega⟩))
  · exact law4_no a b la ca lb cb sa sb t w ha hb (.inl (by omega))

end Go.Proofs.Qxb6618596a
