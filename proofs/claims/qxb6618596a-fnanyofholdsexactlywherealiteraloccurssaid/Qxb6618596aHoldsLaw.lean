import Derived.Test.Qxb6618596aHolds
namespace Go.Proofs.Qxb6618596a
open Go.RowKit

set_option maxRecDepth 100000 in
set_option maxHeartbeats 1000000 in
theorem law3_no (a : Option Addr) (la ca : Nat) (sa : List ByteArray) (t : ByteArray) (w : World) (ha : IsStrs w a la ca sa)
    (hno : 65536 < la ∨ (la ≤ 65536 ∧ 4096 < t.size)) :
    Calls Try.prog 3 #[.slice a la ca, .string t] w fun e w' => e = .returned (.bool true) ∧ Below w.heap.size w w' := by
  rcases hno with h1 | ⟨h1, h2⟩
  all_goals
    go_enter Try.func3, Try.ntmps3
    go_wp2_with fail
    refine (zz7 a la ca sa t w ha).mono ?_
    rintro e w' ⟨⟨r, rfl⟩, hw⟩
    subst w'
    cases r
    · go_wp2
      go_ret
      exact ⟨rfl, Below.refl _ _⟩
    · go_wp2
      go_ret
      exact ⟨rfl, Below.refl _ _⟩

theorem law3 (a : Option Addr) (la ca : Nat) (sa : List ByteArray) (t : ByteArray) (w : World) (ha : IsStrs w a la ca sa) :
    Calls Try.prog 3 #[.slice a la ca, .string t] w fun e w' => e = .returned (.bool true) ∧ Below w.heap.size w w' := by
  by_cases h1 : la ≤ 65536
  · by_cases h3 : t.size ≤ 4096
    · have ea := ha.take_len
      obtain ⟨A, hA⟩ : ∃ A, sa.take la = A := ⟨_, rfl⟩
      rw [hA] at ea
      subst ea
      exact law3_yes a ca sa A t w ha hA h1 h3
    · exact law3_no a la ca sa t w ha (.inr ⟨h1, by omega⟩)
  · exact law3_no a la ca sa t w ha (.inl (by omega))

end Go.Proofs.Qxb6618596a
