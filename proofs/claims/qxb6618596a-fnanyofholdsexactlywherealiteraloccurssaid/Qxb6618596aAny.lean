import Derived.Test.Qxb6618596aFold
namespace Go.Proofs.Qxb6618596a
open Go.RowKit

def strs (ls : List ByteArray) : List Value := ls.map .string
/-- v is a slice of strings of the call's own (nil where there are none, perhaps), the strings ls. -/
def SOwn (w : World) (v : Value) (ls : List ByteArray) : Prop := w.ownsRow 0 9 1 v ls.length (strs ls)

theorem strs_get (ls : List ByteArray) (k : Nat) (h : k < ls.length) : (strs ls)[k]? = some (.string ls[k]) := by
  simp [strs, List.getElem?_eq_getElem h]
theorem strs_len (ls : List ByteArray) : (strs ls).length = ls.length := by simp [strs]

theorem SOwn.slice {w : World} {v : Value} {ls : List ByteArray} (h : SOwn w v ls) : ∃ ao c, v = .slice ao ls.length c := by
  rcases h.2 with ⟨hv, h0⟩ | ⟨g, cap', _, hv, _⟩
  · exact ⟨none, 0, by rw [hv, h0]⟩
  · exact ⟨_, _, hv⟩
theorem SOwn.at {w : World} {ao : Option Addr} {n c : Nat} {ls : List ByteArray} (h : SOwn w (.slice ao n c) ls) {k : Nat} (hk : k < ls.length) :
    ∃ g, ao = some ⟨g, 0, none⟩ ∧ g < w.heap.size ∧ w.cell? ⟨g, k, none⟩ = some (.string ls[k]) := by
  rcases h.2 with ⟨hv, h0⟩ | ⟨g, cap', cur, hv, _, hg, hnc, _, hcs, htake⟩
  · omega
  · simp only [Value.slice.injEq] at hv
    obtain ⟨rfl, rfl, rfl⟩ := hv
    refine ⟨g, rfl, lt_of_block hg, ?_⟩
    have := h.cellAt (g := g) k (by omega)
    rw [this]
    exact strs_get ls k hk
theorem SOwn.below {B : Nat} {w w' : World} {v : Value} {ls : List ByteArray} (h : SOwn w v ls) (hb : Below B w w') (hB : w.heap.size ≤ B) : SOwn w' v ls := by
  refine ⟨h.1, ?_⟩
  rcases h.2 with h2 | ⟨g, cap, cur, hv, hg, hh, r⟩
  · exact .inl h2
  · refine .inr ⟨g, cap, cur, hv, hg, ?_, r⟩
    rw [hb.block g (Nat.lt_of_lt_of_le (lt_of_block hh) hB)]
    exact hh

theorem any_take_succ {t : ByteArray} {ls : List ByteArray} {k : Nat} (hk : k < ls.length) (h1 : (ls.take k).any (cf t) = false) (h2 : cf t ls[k] = false) : (ls.take (k + 1)).any (cf t) = false := by
  rw [List.take_succ_eq_append_getElem hk, List.any_append, h1]
  simp [h2]
theorem any_hit {t : ByteArray} {ls : List ByteArray} {k : Nat} (hk : k < ls.length) (h2 : cf t ls[k] = true) : ls.any (cf t) = true := by
  rw [List.any_eq_true]
  exact ⟨ls[k], List.getElem_mem hk, h2⟩

set_option maxHeartbeats 400000 in
theorem any10 (v : Value) (ls : List ByteArray) (t : ByteArray) (w : World) (h : SOwn w v ls) (hl : ls.length ≤ 1048576) (ht : t.size ≤ 4096) :
    Calls Try.prog 10 #[v, .string t] w fun e w' => e = .returned (.bool (ls.any (cf t))) ∧ Below w.heap.size w w' := by
  obtain ⟨ao, c, rfl⟩ := h.slice
  go_enter Try.func10, Try.ntmps10
  go_wp2
  go_loopw [5] (fun i wr => ∃ k : Nat, k ≤ ls.length ∧ i = .int .i64 k ∧ Hid ((ls.take k).any (cf t) = false) ∧ Below w.heap.size w wr) (fun i _ => ls.length - (intOf i).toNat)
  case atStart => exact ⟨0, Nat.zero_le _, rfl, rfl, Below.refl _ _⟩
  case round =>
    obtain ⟨k, hk, rfl, HM, hbe⟩ := hrel
    by_cases hlt : k < ls.length
    · obtain ⟨g, rfl, hg, hc⟩ := h.at hlt
      have hc' := (hbe.cell (p := ⟨g, k, none⟩) hg).trans hc
      clear hc
      go_wp2_with fail
      refine (cf20 t ls[k] wr ht).mono ?_
      rintro e w2 ⟨rfl, hb2⟩
      by_cases hx : cf t ls[k] = true
      · have HT : Hid (ls.any (cf t) = true) := any_hit hlt hx
        go_wp2
        go_ret
        exact ⟨by rw [HT.out]; rfl, hbe.trans (hb2.mono hbe.size)⟩
      · have hx' : cf t ls[k] = false := by simpa using hx
        have HT : Hid ((ls.take (k + 1)).any (cf t) = false) := any_take_succ hlt HM.out hx'
        clear hx
        go_wp2
        go_roundw
        case rel => exact ⟨k + 1, by omega, by go_num, HT, hbe.trans (hb2.mono hbe.size)⟩
        case measure => simp [intOf]; omega
    · have HT : Hid (ls.any (cf t) = false) := by
        have := HM.out
        rw [List.take_of_length_le (by omega)] at this
        exact this
      go_wp2
      go_ret
      exact ⟨by rw [HT.out]; rfl, hbe⟩

end Go.Proofs.Qxb6618596a
