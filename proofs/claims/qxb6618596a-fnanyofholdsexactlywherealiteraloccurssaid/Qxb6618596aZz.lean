import Derived.Test.Qxb6618596aEval
namespace Go.Proofs.Qxb6618596a
open Go.RowKit

/-- A slice of strings that came in: nil; or it leads to a row of 'cap' cells, the strings 'ss' (the first 'len' are its elements). -/
def IsStrs (w : World) (a : Option Addr) (len cap : Nat) (ss : List ByteArray) : Prop :=
  (a = none ∧ len = 0 ∧ cap = 0 ∧ ss = []) ∨
  ∃ x, a = some x ∧ len ≤ cap ∧ cap ≤ maxLen ∧ ss.length = cap ∧ (∀ i, i < ss.length → w.cell? (x.add i) = some (.string (ss.getD i ByteArray.empty)))

theorem IsStrs.at {w : World} {a : Option Addr} {len cap : Nat} {ss : List ByteArray} (h : IsStrs w a len cap ss) {k : Nat} (hk : k < len) :
    ∃ b off, a = some ⟨b, off, none⟩ ∧ b < w.heap.size ∧ w.cell? ⟨b, off + k, none⟩ = some (.string (ss.getD k ByteArray.empty)) := by
  rcases h with ⟨_, h0, _⟩ | ⟨x, rfl, h1, h2, h3, h4⟩
  · omega
  · obtain ⟨b, off, sp⟩ := x
    have hsp : sp = none := by
      have := h4 0 (by omega)
      cases sp with
      | none => rfl
      | some q => simp [World.cell?, Addr.add] at this; split at this <;> simp_all
    subst hsp
    have := h4 k (by omega)
    rw [Addr.add_lit] at this
    exact ⟨b, off, rfl, World.block_lt_of_cell? w _ this, this⟩
theorem IsStrs.len {w : World} {a : Option Addr} {len cap : Nat} {ss : List ByteArray} (h : IsStrs w a len cap ss) : len ≤ maxLen := by
  rcases h with ⟨_, h0, _⟩ | ⟨x, rfl, h1, h2, h3, h4⟩
  · omega
  · omega

/-- A bool came back. -/
def GaveBool (e : Ending) : Prop := ∃ r, e = .returned (.bool r)

set_option maxHeartbeats 1000000 in
theorem zz7 (a : Option Addr) (la ca : Nat) (sa : List ByteArray) (t : ByteArray) (w : World) (ha : IsStrs w a la ca sa) :
    Calls Try.prog 7 #[.slice a la ca, .string t] w fun e w' => GaveBool e ∧ w' = w := by
  have hla := ha.len
  unfold maxLen at hla
  by_cases h1 : la ≤ 1048576
  · go_enter Try.func7, Try.ntmps7
    go_wp2
    go_loop [5, 6] (fun n i => ∃ (k : Nat) (x : Int), k ≤ la ∧ i = .int .i64 k ∧ n = .int .i64 x) (fun _ i => la - (intOf i).toNat)
    case atStart => exact ⟨0, _, Nat.zero_le _, rfl, rfl⟩
    case round =>
      obtain ⟨k, x, hk, rfl, rfl⟩ := hrel
      by_cases hlt : k < la
      · obtain ⟨b, off, rfl, hb, hc⟩ := ha.at hlt
        go_wp2
        case roundEnd =>
          go_round
          case rel => exact ⟨k + 1, _, by omega, by go_num, rfl⟩
          case measure => simp [intOf]; omega
        all_goals (go_ret; exact ⟨⟨_, rfl⟩, rfl⟩)
      · go_wp2
        all_goals (go_ret; exact ⟨⟨_, rfl⟩, rfl⟩)
  · go_enter Try.func7, Try.ntmps7
    go_wp2
    go_ret
    exact ⟨⟨_, rfl⟩, rfl⟩

set_option maxHeartbeats 1000000 in
theorem zz13 (a b : Option Addr) (la ca lb cb : Nat) (sa sb : List ByteArray) (t : ByteArray) (w : World) (ha : IsStrs w a la ca sa) (hb : IsStrs w b lb cb sb) :
    Calls Try.prog 13 #[.slice a la ca, .slice b lb cb, .string t] w fun e w' => GaveBool e ∧ w' = w := by
  have hla := ha.len
  have hlb := hb.len
  unfold maxLen at hla hlb
  by_cases h1 : la ≤ 1048576
  · go_enter Try.func13, Try.ntmps13
    go_wp2
    go_loop [7, 8] (fun n i => ∃ (k : Nat) (x : Int), k ≤ la ∧ i = .int .i64 k ∧ n = .int .i64 x) (fun _ i => la - (intOf i).toNat)
    case atStart => exact ⟨0, _, Nat.zero_le _, rfl, rfl⟩
    case round =>
      obtain ⟨k, x, hk, rfl, rfl⟩ := hrel
      by_cases hlt : k < la
      · obtain ⟨b1, off, rfl, hb1, hc⟩ := ha.at hlt
        go_wp2
        case roundEnd =>
          go_round
          case rel => exact ⟨k + 1, _, by omega, by go_num, rfl⟩
          case measure => simp [intOf]; omega
        all_goals (go_ret; exact ⟨⟨_, rfl⟩, rfl⟩)
      · by_cases h2 : lb ≤ 1048576
        · by_cases h3 : wrap64 (x + lb) ≤ 1048576
          · go_wp2
            go_loop [7, 9] (fun n i => ∃ (k : Nat) (x : Int), k ≤ lb ∧ i = .int .i64 k ∧ n = .int .i64 x) (fun _ i => lb - (intOf i).toNat)
            case atStart => exact ⟨0, _, Nat.zero_le _, rfl, rfl⟩
            case round =>
              obtain ⟨k2, x2, hk2, rfl, rfl⟩ := hrel
              by_cases hlt2 : k2 < lb
              · obtain ⟨b2, off, rfl, hb2, hc⟩ := hb.at hlt2
                go_wp2
                case roundEnd =>
                  go_round
                  case rel => exact ⟨k2 + 1, _, by omega, by go_num, rfl⟩
                  case measure => simp [intOf]; omega
                all_goals (go_ret; exact ⟨⟨_, rfl⟩, rfl⟩)
              · go_wp2
                all_goals (go_ret; exact ⟨⟨_, rfl⟩, rfl⟩)
          · go_wp2
            all_goals (go_ret; exact ⟨⟨_, rfl⟩, rfl⟩)
        · go_wp2
          all_goals (go_ret; exact ⟨⟨_, rfl⟩, rfl⟩)
  · go_enter Try.func13, Try.ntmps13
    go_wp2
    go_ret
    exact ⟨⟨_, rfl⟩, rfl⟩

end Go.Proofs.Qxb6618596a
