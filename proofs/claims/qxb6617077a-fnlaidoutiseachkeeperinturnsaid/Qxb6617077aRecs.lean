import Derived.Test.Qxb6617077aBase
namespace Go.Proofs.Qxb6617077a
open Go.RowKit

set_option maxHeartbeats 1000000 in
theorem mkRec36 (sz rp ver ep rm : Int) (sha md wr : ByteArray) (a : Option Addr) (n c : Nat) (dm pt : Bool) (w : World) :
    Calls Try.prog 36 #[.int .i64 sz, .string sha, .string md, .int .i64 rp, .slice a n c, .int .i64 ver, .int .i64 ep, .int .i64 rm, .string wr, .bool dm, .bool pt] w fun e w' => e = .returned (.agg #[.int .i64 sz, .string sha, .string md, .int .i64 rp, .slice a n c, .int .i64 ver, .int .i64 ep, .int .i64 rm, .string wr, .bool dm, .bool pt]) ∧ w' = w.alloc (.cells #[.int .i64 sz, .string sha, .string md, .int .i64 rp, .slice a n c, .int .i64 ver, .int .i64 ep, .int .i64 rm, .string wr, .bool dm, .bool pt] 46) := by
  go_enter Try.func36, Try.ntmps36
  go_wp2
  exact bodyPost_ret (v := .agg #[.int .i64 sz, .string sha, .string md, .int .i64 rp, .slice a n c, .int .i64 ver, .int .i64 ep, .int .i64 rm, .string wr, .bool dm, .bool pt]) (by simp [results, Try.results36, go_sem]) rfl ⟨rfl, rfl⟩

set_option maxHeartbeats 1000000 in
theorem mkAns37 (ad : ByteArray) (re he : Bool) (fr : Int) (sz rp ver ep rm : Int) (sha md wr : ByteArray) (a : Option Addr) (n c : Nat) (dm pt : Bool) (w : World) :
    Calls Try.prog 37 #[.string ad, .bool re, .bool he, .agg #[.int .i64 sz, .string sha, .string md, .int .i64 rp, .slice a n c, .int .i64 ver, .int .i64 ep, .int .i64 rm, .string wr, .bool dm, .bool pt], .int .i64 fr] w fun e w' => e = .returned (.agg #[.string ad, .bool re, .bool he, .int .i64 sz, .string sha, .string md, .int .i64 rp, .slice a n c, .int .i64 ver, .int .i64 ep, .int .i64 rm, .string wr, .bool dm, .bool pt, .int .i64 fr]) ∧ Below w.heap.size w w' := by
  go_enter Try.func37, Try.ntmps37
  go_wp2
  exact bodyPost_ret (v := .agg #[.string ad, .bool re, .bool he, .int .i64 sz, .string sha, .string md, .int .i64 rp, .slice a n c, .int .i64 ver, .int .i64 ep, .int .i64 rm, .string wr, .bool dm, .bool pt, .int .i64 fr]) (by simp [results, Try.results37, go_sem]) rfl ⟨rfl, ((Below.refl _ _).alloc (Nat.le_refl _) _).alloc (by simp) _⟩

set_option maxHeartbeats 400000 in
theorem mkLay26 (a b : Option Addr) (n c m d : Nat) (w : World) :
    Calls Try.prog 26 #[.slice a n c, .slice b m d] w fun e w' => e = .returned (.agg #[.slice a n c, .slice b m d]) ∧ Below w.heap.size w w' := by
  go_enter Try.func26, Try.ntmps26
  go_wp2
  exact bodyPost_ret (v := .agg #[.slice a n c, .slice b m d]) (by simp [results, Try.results26, go_sem]) rfl ⟨rfl, (Below.refl _ _).alloc (Nat.le_refl _) _⟩

set_option maxHeartbeats 1000000 in
theorem stamp43 (sz rp ver ep rm : Int) (sha md wr : ByteArray) (a : Option Addr) (n c : Nat) (dm pt : Bool) (w : World) :
    Calls Try.prog 43 #[.agg #[.int .i64 sz, .string sha, .string md, .int .i64 rp, .slice a n c, .int .i64 ver, .int .i64 ep, .int .i64 rm, .string wr, .bool dm, .bool pt]] w fun e w' => e = .returned (.agg #[.int .i64 ver, .int .i64 ep]) ∧ Below w.heap.size w w' := by
  go_enter Try.func43, Try.ntmps43
  go_wp2
  exact bodyPost_ret (v := .agg #[.int .i64 ver, .int .i64 ep]) (by simp [results, Try.results43, go_sem]) rfl ⟨rfl, ((Below.refl _ _).alloc (Nat.le_refl _) _).alloc (by simp) _⟩

def holdsB (he dm pt : Bool) (ver v : Int) : Bool := he && (ver == v) && !dm && !pt
theorem ret_bool {a b : Bool} (h : a = b) : Ending.returned (.bool a) = .returned (.bool b) := by rw [h]

set_option maxHeartbeats 4000000 in
theorem holds42 (ad : ByteArray) (re he : Bool) (fr : Int) (sz rp ver ep rm : Int) (sha md wr : ByteArray) (a : Option Addr) (n c : Nat) (dm pt : Bool) (v : Int) (w : World) :
    Calls Try.prog 42 #[.agg #[.string ad, .bool re, .bool he, .int .i64 sz, .string sha, .string md, .int .i64 rp, .slice a n c, .int .i64 ver, .int .i64 ep, .int .i64 rm, .string wr, .bool dm, .bool pt, .int .i64 fr], .int .i64 v] w fun e w' => e = .returned (.bool (holdsB he dm pt ver v)) ∧ Below w.heap.size w w' := by
  cases he
  · go_enter Try.func42, Try.ntmps42
    go_wp2
    go_ret
    exact ⟨ret_bool (by simp [holdsB]), (Below.refl _ _).alloc (Nat.le_refl _) _⟩
  · by_cases hv : (ver == v) = true
    · cases dm <;> cases pt
      all_goals
        have HV : Hid ((ver == v) = true) := hv
        go_enter Try.func42, Try.ntmps42
        go_wp2
        go_ret
        exact ⟨ret_bool (by simp [holdsB, HV.out]), (Below.refl _ _).alloc (Nat.le_refl _) _⟩
    · have hv' : (ver == v) = false := by simpa using hv
      have HV : Hid ((ver == v) = false) := hv'
      go_enter Try.func42, Try.ntmps42
      go_wp2
      go_ret
      exact ⟨ret_bool (by simp [holdsB, HV.out]), (Below.refl _ _).alloc (Nat.le_refl _) _⟩

set_option maxHeartbeats 1000000 in
theorem mkRec27 (sz rp ver ep rm : Int) (sha md wr : ByteArray) (a : Option Addr) (n c : Nat) (dm pt : Bool) (w : World) :
    Calls Try.prog 27 #[.agg #[.int .i64 sz, .string sha, .string md, .int .i64 rp, .slice a n c, .int .i64 ver, .int .i64 ep, .int .i64 rm, .string wr, .bool dm, .bool pt]] w fun e w' => e = .returned (.agg #[.int .i64 sz, .string sha, .string md, .int .i64 rp, .slice a n c, .int .i64 ver, .int .i64 ep, .int .i64 rm, .string wr, .bool dm, .bool pt]) ∧ Below w.heap.size w w' := by
  go_enter Try.func27, Try.ntmps27
  go_wp2_with fail
  refine (mkRec36 sz rp ver ep rm sha md wr a n c dm pt _).mono ?_
  rintro e w1 ⟨rfl, rfl⟩
  go_wp2
  exact bodyPost_ret (v := .agg #[.int .i64 sz, .string sha, .string md, .int .i64 rp, .slice a n c, .int .i64 ver, .int .i64 ep, .int .i64 rm, .string wr, .bool dm, .bool pt]) (by simp [results, Try.results27, go_sem]) rfl ⟨rfl, (((Below.refl _ _).alloc (Nat.le_refl _) _).alloc (by simp) _).alloc (by simp; omega) _⟩

end Go.Proofs.Qxb6617077a
